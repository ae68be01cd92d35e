import JvmDerived
import JvmDerived.Pilot.@@N@@Statement
import JvmDerived.Pilot.@@N@@Code
set_option linter.unusedVariables false
set_option linter.unusedSimpArgs false
namespace Jvm.Pilot.@@N@@
open Jvm Jvm.ClassFile Sem Op Lib Jvm.Free Jvm.Stand Jvm.LawKit Jvm.RoadKit Bundle Jvm.Pilot.@@N@@.Jvm.D
section OwnKit
variable {p : Program} {l : Launch} {e : Env} {R : Room} {s : State} {m : MethodId} {args : Array Value} {below : List Frame} {meth : Method} {c : Code} {T T' : State} {locs : List Loc} {cells slots kc kn : Nat} {Q : Option Value → Heap → List Loc → Prop} {f f' : JFrame} {pc q q' : Nat} {Ls Ls' : Array Slot} {st : List Value} {Z : State} {a0 : Array Value} {h : Heap} {by' : ByteArray} {ml : Nat} {own nm : String} {ret : Option FieldType}
/-- from this state, with this frame on top, the body returns as Q says -/
def Run (p : Program) (e : Env) (below : List Frame) (s : State) (kc kn : Nat) (Q : Option Value → Heap → List Loc → Prop) (T : State) (f : JFrame) : Prop :=
  ∃ t o, Steps p.tables e below (T.setTop f) t ∧ t.status = .running ∧ Ended t below o ∧ ∃ v L, o = .returned v ∧ Q v t.heap L ∧ FrameEnd s o t L kc kn
theorem Run.by (st : ∀ t, Steps p.tables e below (T'.setTop f') t → Steps p.tables e below (T.setTop f) t) (k : Run p e below s kc kn Q T' f') : Run p e below s kc kn Q T f := by
  obtain ⟨t, o, h1, r⟩ := k
  exact ⟨t, o, st t h1, r⟩
theorem Run.on (k : Run p e below s kc kn Q T' f') (st : Steps p.tables e below (T.setTop f) (T'.setTop f')) : Run p e below s kc kn Q T f := k.by fun _ h1 => st.trans h1
/-- what a walk knows of its method throughout -/
def Fx (p : Program) (s : State) (m : MethodId) (meth : Method) (c : Code) (by' : ByteArray) (ml : Nat) (own nm : String) (ret : Option FieldType) (Z : State) : Prop :=
  p.tables.exec = Jvm.exec ∧ c.code = by' ∧ c.maxLocals = ml ∧ s.vm.findClass own = some m.cls ∧ Z.Warmed39 s.vm ∧ meth.sig.returnType = ret ∧ meth.locks = false ∧ meth.name = nm
theorem k_iloadN (K : Fx p s m meth c by' ml own nm ret Z) (X : Stand p l e R s m args below meth c T locs cells slots) {k' : Fin 4} {v : Int32} (hd : decode by' pc = .ok (.iload_n k', 1)) (hl : Ls[k'.val]? = some (.val (.int v))) (hq : pc + 1 = q) (k : Run p e below s kc kn Q T (mkF m q Ls (.int v :: st))) : Run p e below s kc kn Q T (mkF m pc Ls st) := by
  subst hq; exact k.by fun t => XS.iloadN X.here K.1 rfl (hb K.2.1 hd) hl
theorem k_iload (K : Fx p s m meth c by' ml own nm ret Z) (X : Stand p l e R s m args below meth c T locs cells slots) {k' : Nat} {v : Int32} (hd : decode by' pc = .ok (.iload k', 2)) (hl : Ls[k']? = some (.val (.int v))) (hq : pc + 2 = q) (k : Run p e below s kc kn Q T (mkF m q Ls (.int v :: st))) : Run p e below s kc kn Q T (mkF m pc Ls st) := by
  subst hq; exact k.by fun t => XS.iload X.here K.1 rfl (hb K.2.1 hd) hl
theorem k_aloadN (K : Fx p s m meth c by' ml own nm ret Z) (X : Stand p l e R s m args below meth c T locs cells slots) {k' : Fin 4} {v : Value} (hd : decode by' pc = .ok (.aload_n k', 1)) (hl : Ls[k'.val]? = some (.val v)) (hv : v.isRef = true) (hq : pc + 1 = q) (k : Run p e below s kc kn Q T (mkF m q Ls (v :: st))) : Run p e below s kc kn Q T (mkF m pc Ls st) := by
  subst hq; exact k.by fun t => XS.aloadN X.here K.1 rfl (hb K.2.1 hd) hl hv
theorem k_aload (K : Fx p s m meth c by' ml own nm ret Z) (X : Stand p l e R s m args below meth c T locs cells slots) {k' : Nat} {v : Value} (hd : decode by' pc = .ok (.aload k', 2)) (hl : Ls[k']? = some (.val v)) (hv : v.isRef = true) (hq : pc + 2 = q) (k : Run p e below s kc kn Q T (mkF m q Ls (v :: st))) : Run p e below s kc kn Q T (mkF m pc Ls st) := by
  subst hq; exact k.by fun t => XS.aload X.here K.1 rfl (hb K.2.1 hd) hl hv
theorem k_istoreN (K : Fx p s m meth c by' ml own nm ret Z) (X : Stand p l e R s m args below meth c T locs cells slots) {k' : Fin 4} {v x : Int32} (hd : decode by' pc = .ok (.istore_n k', 1)) (hv : x = v) (hl : storeLocals Ls k'.val (.int v) = some Ls') (hq : pc + 1 = q) (k : Run p e below s kc kn Q T (mkF m q Ls' st)) : Run p e below s kc kn Q T (mkF m pc Ls (.int x :: st)) := by
  subst hq hv; exact k.by fun t => XS.istoreN X.here K.1 rfl (hb K.2.1 hd) rfl hl
theorem k_istore (K : Fx p s m meth c by' ml own nm ret Z) (X : Stand p l e R s m args below meth c T locs cells slots) {k' : Nat} {v x : Int32} (hd : decode by' pc = .ok (.istore k', 2)) (hv : x = v) (hl : storeLocals Ls k' (.int v) = some Ls') (hq : pc + 2 = q) (k : Run p e below s kc kn Q T (mkF m q Ls' st)) : Run p e below s kc kn Q T (mkF m pc Ls (.int x :: st)) := by
  subst hq hv; exact k.by fun t => XS.istore X.here K.1 rfl (hb K.2.1 hd) rfl hl
theorem k_astoreN (K : Fx p s m meth c by' ml own nm ret Z) (X : Stand p l e R s m args below meth c T locs cells slots) {k' : Fin 4} {v : Value} (hd : decode by' pc = .ok (.astore_n k', 1)) (hv : v.isRef = true) (hl : storeLocals Ls k'.val v = some Ls') (hq : pc + 1 = q) (k : Run p e below s kc kn Q T (mkF m q Ls' st)) : Run p e below s kc kn Q T (mkF m pc Ls (v :: st)) := by
  subst hq; exact k.by fun t => XS.astoreN X.here K.1 rfl (hb K.2.1 hd) rfl hv hl
theorem k_astore (K : Fx p s m meth c by' ml own nm ret Z) (X : Stand p l e R s m args below meth c T locs cells slots) {k' : Nat} {v : Value} (hd : decode by' pc = .ok (.astore k', 2)) (hv : v.isRef = true) (hl : storeLocals Ls k' v = some Ls') (hq : pc + 2 = q) (k : Run p e below s kc kn Q T (mkF m q Ls' st)) : Run p e below s kc kn Q T (mkF m pc Ls (v :: st)) := by
  subst hq; exact k.by fun t => XS.astore X.here K.1 rfl (hb K.2.1 hd) rfl hv hl
theorem k_iinc (K : Fx p s m meth c by' ml own nm ret Z) (X : Stand p l e R s m args below meth c T locs cells slots) {k' : Nat} {cst : Int} {x v : Int32} (hd : decode by' pc = .ok (.iinc k' cst, 3)) (hg : Ls[k']? = some (.val (.int x))) (hv : x + Int32.ofInt cst = v) (hl : storeLocals Ls k' (.int v) = some Ls') (hq : pc + 3 = q) (k : Run p e below s kc kn Q T (mkF m q Ls' st)) : Run p e below s kc kn Q T (mkF m pc Ls st) := by
  subst hq hv; exact k.by fun t => XS.iinc X.here K.1 rfl (hb K.2.1 hd) hg hl
theorem k_iconst (K : Fx p s m meth c by' ml own nm ret Z) (X : Stand p l e R s m args below meth c T locs cells slots) {i : Int} {v : Int32} (hd : decode by' pc = .ok (.iconst i, 1)) (hv : Int32.ofInt i = v) (hq : pc + 1 = q) (k : Run p e below s kc kn Q T (mkF m q Ls (.int v :: st))) : Run p e below s kc kn Q T (mkF m pc Ls st) := by
  subst hq hv; exact k.by fun t => XS.iconst X.here K.1 rfl (hb K.2.1 hd)
theorem k_iadd (K : Fx p s m meth c by' ml own nm ret Z) (X : Stand p l e R s m args below meth c T locs cells slots) {x y : Int32} (hd : decode by' pc = .ok (.iadd, 1)) (hq : pc + 1 = q) (k : Run p e below s kc kn Q T (mkF m q Ls (.int (x + y) :: st))) : Run p e below s kc kn Q T (mkF m pc Ls (.int y :: .int x :: st)) := by
  subst hq; exact k.by fun t => XS.iadd X.here K.1 rfl (hb K.2.1 hd) rfl
theorem k_iand (K : Fx p s m meth c by' ml own nm ret Z) (X : Stand p l e R s m args below meth c T locs cells slots) {x y : Int32} (hd : decode by' pc = .ok (.iand, 1)) (hq : pc + 1 = q) (k : Run p e below s kc kn Q T (mkF m q Ls (.int (x &&& y) :: st))) : Run p e below s kc kn Q T (mkF m pc Ls (.int y :: .int x :: st)) := by
  subst hq; exact k.by fun t => XS.iand X.here K.1 rfl (hb K.2.1 hd) rfl
theorem k_irem (K : Fx p s m meth c by' ml own nm ret Z) (X : Stand p l e R s m args below meth c T locs cells slots) {x y : Int32} (hd : decode by' pc = .ok (.irem, 1)) (hy : y ≠ 0) (hq : pc + 1 = q) (k : Run p e below s kc kn Q T (mkF m q Ls (.int (x % y) :: st))) : Run p e below s kc kn Q T (mkF m pc Ls (.int y :: .int x :: st)) := by
  subst hq; exact k.by fun t => iremM X K.1 rfl (hb K.2.1 hd) rfl hy
theorem k_dup (K : Fx p s m meth c by' ml own nm ret Z) (X : Stand p l e R s m args below meth c T locs cells slots) {v : Value} (hd : decode by' pc = .ok (.dup, 1)) (hc : v.category = 1) (hq : pc + 1 = q) (k : Run p e below s kc kn Q T (mkF m q Ls (v :: v :: st))) : Run p e below s kc kn Q T (mkF m pc Ls (v :: st)) := by
  subst hq; exact k.by fun t => XS.dup X.here K.1 rfl (hb K.2.1 hd) rfl hc
theorem k_dup2 (K : Fx p s m meth c by' ml own nm ret Z) (X : Stand p l e R s m args below meth c T locs cells slots) {v u : Value} (hd : decode by' pc = .ok (.dup2, 1)) (hc : v.category = 1) (hc' : u.category = 1) (hq : pc + 1 = q) (k : Run p e below s kc kn Q T (mkF m q Ls (v :: u :: v :: u :: st))) : Run p e below s kc kn Q T (mkF m pc Ls (v :: u :: st)) := by
  subst hq; exact k.by fun t => XT.dup2 X.here K.1 rfl (hb K.2.1 hd) rfl hc hc'
theorem k_goto (K : Fx p s m meth c by' ml own nm ret Z) (X : Stand p l e R s m args below meth c T locs cells slots) {o : Int} (hd : decode by' pc = .ok (.goto o, 3)) (ho : 0 ≤ (pc : Int) + o) (hq : ((pc : Int) + o).toNat = q) (k : Run p e below s kc kn Q T (mkF m q Ls st)) : Run p e below s kc kn Q T (mkF m pc Ls st) := k.by fun t => XS.goto X.here K.1 rfl rfl (hb K.2.1 hd) ho hq
theorem k_nameI {x v : Int32} (hv : x = v) (k : Run p e below s kc kn Q T (mkF m pc Ls (.int v :: st))) : Run p e below s kc kn Q T (mkF m pc Ls (.int x :: st)) := by
  subst hv; exact k
theorem k_if_eq_y (K : Fx p s m meth c by' ml own nm ret Z) (X : Stand p l e R s m args below meth c T locs cells slots) {x : Int32} {o : Int} (hd : decode by' pc = .ok (.ifCond .eq o, 3)) (hc : x = 0) (ho : 0 ≤ (pc : Int) + o) (hq : ((pc : Int) + o).toNat = q) (k : Run p e below s kc kn Q T (mkF m q Ls st)) : Run p e below s kc kn Q T (mkF m pc Ls (.int x :: st)) := k.by fun t => XS.ifYes X.here K.1 rfl rfl (hb K.2.1 hd) rfl ((if0 _ _).trans (teq hc).1) ho hq
theorem k_if_eq_n (K : Fx p s m meth c by' ml own nm ret Z) (X : Stand p l e R s m args below meth c T locs cells slots) {x : Int32} {o : Int} (hd : decode by' pc = .ok (.ifCond .eq o, 3)) (hc : ¬ x = 0) (hq : pc + 3 = q) (k : Run p e below s kc kn Q T (mkF m q Ls st)) : Run p e below s kc kn Q T (mkF m pc Ls (.int x :: st)) := by
  subst hq; exact k.by fun t => XS.ifNo X.here K.1 rfl (hb K.2.1 hd) rfl ((if0 _ _).trans (feq hc).1)
theorem k_if_eq (K : Fx p s m meth c by' ml own nm ret Z) (X : Stand p l e R s m args below meth c T locs cells slots) {x : Int32} {o : Int} (hd : decode by' pc = .ok (.ifCond .eq o, 3)) (ho : 0 ≤ (pc : Int) + o) (hq : ((pc : Int) + o).toNat = q) (hq' : pc + 3 = q') (ky : x = 0 → Run p e below s kc kn Q T (mkF m q Ls st)) (kno : ¬ x = 0 → Run p e below s kc kn Q T (mkF m q' Ls st)) : Run p e below s kc kn Q T (mkF m pc Ls (.int x :: st)) := by
  by_cases hc : x = 0
  · exact k_if_eq_y K X hd hc ho hq (ky hc)
  · exact k_if_eq_n K X hd hc hq' (kno hc)
theorem k_icmp_eq_y (K : Fx p s m meth c by' ml own nm ret Z) (X : Stand p l e R s m args below meth c T locs cells slots) {x y : Int32} {o : Int} (hd : decode by' pc = .ok (.if_icmp .eq o, 3)) (hc : x = y) (ho : 0 ≤ (pc : Int) + o) (hq : ((pc : Int) + o).toNat = q) (k : Run p e below s kc kn Q T (mkF m q Ls st)) : Run p e below s kc kn Q T (mkF m pc Ls (.int y :: .int x :: st)) := k.by fun t => XS.icmpYes X.here K.1 rfl rfl (hb K.2.1 hd) rfl (teq hc).1 ho hq
theorem k_if_ne_y (K : Fx p s m meth c by' ml own nm ret Z) (X : Stand p l e R s m args below meth c T locs cells slots) {x : Int32} {o : Int} (hd : decode by' pc = .ok (.ifCond .ne o, 3)) (hc : ¬ x = 0) (ho : 0 ≤ (pc : Int) + o) (hq : ((pc : Int) + o).toNat = q) (k : Run p e below s kc kn Q T (mkF m q Ls st)) : Run p e below s kc kn Q T (mkF m pc Ls (.int x :: st)) := k.by fun t => XS.ifYes X.here K.1 rfl rfl (hb K.2.1 hd) rfl ((if0 _ _).trans (feq hc).2) ho hq
theorem k_if_ne_n (K : Fx p s m meth c by' ml own nm ret Z) (X : Stand p l e R s m args below meth c T locs cells slots) {x : Int32} {o : Int} (hd : decode by' pc = .ok (.ifCond .ne o, 3)) (hc : x = 0) (hq : pc + 3 = q) (k : Run p e below s kc kn Q T (mkF m q Ls st)) : Run p e below s kc kn Q T (mkF m pc Ls (.int x :: st)) := by
  subst hq; exact k.by fun t => XS.ifNo X.here K.1 rfl (hb K.2.1 hd) rfl ((if0 _ _).trans (teq hc).2)
theorem k_if_ne (K : Fx p s m meth c by' ml own nm ret Z) (X : Stand p l e R s m args below meth c T locs cells slots) {x : Int32} {o : Int} (hd : decode by' pc = .ok (.ifCond .ne o, 3)) (ho : 0 ≤ (pc : Int) + o) (hq : ((pc : Int) + o).toNat = q) (hq' : pc + 3 = q') (ky : ¬ x = 0 → Run p e below s kc kn Q T (mkF m q Ls st)) (kno : x = 0 → Run p e below s kc kn Q T (mkF m q' Ls st)) : Run p e below s kc kn Q T (mkF m pc Ls (.int x :: st)) := by
  by_cases hc : x = 0
  · exact k_if_ne_n K X hd hc hq' (kno hc)
  · exact k_if_ne_y K X hd hc ho hq (ky hc)
theorem k_icmp_ne_y (K : Fx p s m meth c by' ml own nm ret Z) (X : Stand p l e R s m args below meth c T locs cells slots) {x y : Int32} {o : Int} (hd : decode by' pc = .ok (.if_icmp .ne o, 3)) (hc : ¬ x = y) (ho : 0 ≤ (pc : Int) + o) (hq : ((pc : Int) + o).toNat = q) (k : Run p e below s kc kn Q T (mkF m q Ls st)) : Run p e below s kc kn Q T (mkF m pc Ls (.int y :: .int x :: st)) := k.by fun t => XS.icmpYes X.here K.1 rfl rfl (hb K.2.1 hd) rfl (feq hc).2 ho hq
theorem k_icmp_ne_n (K : Fx p s m meth c by' ml own nm ret Z) (X : Stand p l e R s m args below meth c T locs cells slots) {x y : Int32} {o : Int} (hd : decode by' pc = .ok (.if_icmp .ne o, 3)) (hc : x = y) (hq : pc + 3 = q) (k : Run p e below s kc kn Q T (mkF m q Ls st)) : Run p e below s kc kn Q T (mkF m pc Ls (.int y :: .int x :: st)) := by
  subst hq; exact k.by fun t => XS.icmpNo X.here K.1 rfl (hb K.2.1 hd) rfl (teq hc).2
theorem k_icmp_ne (K : Fx p s m meth c by' ml own nm ret Z) (X : Stand p l e R s m args below meth c T locs cells slots) {x y : Int32} {o : Int} (hd : decode by' pc = .ok (.if_icmp .ne o, 3)) (ho : 0 ≤ (pc : Int) + o) (hq : ((pc : Int) + o).toNat = q) (hq' : pc + 3 = q') (ky : ¬ x = y → Run p e below s kc kn Q T (mkF m q Ls st)) (kno : x = y → Run p e below s kc kn Q T (mkF m q' Ls st)) : Run p e below s kc kn Q T (mkF m pc Ls (.int y :: .int x :: st)) := by
  by_cases hc : x = y
  · exact k_icmp_ne_n K X hd hc hq' (kno hc)
  · exact k_icmp_ne_y K X hd hc ho hq (ky hc)
theorem k_icmp_lt_y (K : Fx p s m meth c by' ml own nm ret Z) (X : Stand p l e R s m args below meth c T locs cells slots) {x y : Int32} {o : Int} (hd : decode by' pc = .ok (.if_icmp .lt o, 3)) (hc : x < y) (ho : 0 ≤ (pc : Int) + o) (hq : ((pc : Int) + o).toNat = q) (k : Run p e below s kc kn Q T (mkF m q Ls st)) : Run p e below s kc kn Q T (mkF m pc Ls (.int y :: .int x :: st)) := k.by fun t => XS.icmpYes X.here K.1 rfl rfl (hb K.2.1 hd) rfl (tlt hc).1 ho hq
theorem k_icmp_lt_n (K : Fx p s m meth c by' ml own nm ret Z) (X : Stand p l e R s m args below meth c T locs cells slots) {x y : Int32} {o : Int} (hd : decode by' pc = .ok (.if_icmp .lt o, 3)) (hc : ¬ x < y) (hq : pc + 3 = q) (k : Run p e below s kc kn Q T (mkF m q Ls st)) : Run p e below s kc kn Q T (mkF m pc Ls (.int y :: .int x :: st)) := by
  subst hq; exact k.by fun t => XS.icmpNo X.here K.1 rfl (hb K.2.1 hd) rfl (flt hc).1
theorem k_icmp_lt (K : Fx p s m meth c by' ml own nm ret Z) (X : Stand p l e R s m args below meth c T locs cells slots) {x y : Int32} {o : Int} (hd : decode by' pc = .ok (.if_icmp .lt o, 3)) (ho : 0 ≤ (pc : Int) + o) (hq : ((pc : Int) + o).toNat = q) (hq' : pc + 3 = q') (ky : x < y → Run p e below s kc kn Q T (mkF m q Ls st)) (kno : ¬ x < y → Run p e below s kc kn Q T (mkF m q' Ls st)) : Run p e below s kc kn Q T (mkF m pc Ls (.int y :: .int x :: st)) := by
  by_cases hc : x < y
  · exact k_icmp_lt_y K X hd hc ho hq (ky hc)
  · exact k_icmp_lt_n K X hd hc hq' (kno hc)
theorem k_icmp_ge_y (K : Fx p s m meth c by' ml own nm ret Z) (X : Stand p l e R s m args below meth c T locs cells slots) {x y : Int32} {o : Int} (hd : decode by' pc = .ok (.if_icmp .ge o, 3)) (hc : ¬ x < y) (ho : 0 ≤ (pc : Int) + o) (hq : ((pc : Int) + o).toNat = q) (k : Run p e below s kc kn Q T (mkF m q Ls st)) : Run p e below s kc kn Q T (mkF m pc Ls (.int y :: .int x :: st)) := k.by fun t => XS.icmpYes X.here K.1 rfl rfl (hb K.2.1 hd) rfl (flt hc).2.1 ho hq
theorem k_icmp_ge_n (K : Fx p s m meth c by' ml own nm ret Z) (X : Stand p l e R s m args below meth c T locs cells slots) {x y : Int32} {o : Int} (hd : decode by' pc = .ok (.if_icmp .ge o, 3)) (hc : x < y) (hq : pc + 3 = q) (k : Run p e below s kc kn Q T (mkF m q Ls st)) : Run p e below s kc kn Q T (mkF m pc Ls (.int y :: .int x :: st)) := by
  subst hq; exact k.by fun t => XS.icmpNo X.here K.1 rfl (hb K.2.1 hd) rfl (tlt hc).2.1
theorem k_icmp_ge (K : Fx p s m meth c by' ml own nm ret Z) (X : Stand p l e R s m args below meth c T locs cells slots) {x y : Int32} {o : Int} (hd : decode by' pc = .ok (.if_icmp .ge o, 3)) (ho : 0 ≤ (pc : Int) + o) (hq : ((pc : Int) + o).toNat = q) (hq' : pc + 3 = q') (ky : ¬ x < y → Run p e below s kc kn Q T (mkF m q Ls st)) (kno : x < y → Run p e below s kc kn Q T (mkF m q' Ls st)) : Run p e below s kc kn Q T (mkF m pc Ls (.int y :: .int x :: st)) := by
  by_cases hc : x < y
  · exact k_icmp_ge_n K X hd hc hq' (kno hc)
  · exact k_icmp_ge_y K X hd hc ho hq (ky hc)
theorem k_icmp_le_y (K : Fx p s m meth c by' ml own nm ret Z) (X : Stand p l e R s m args below meth c T locs cells slots) {x y : Int32} {o : Int} (hd : decode by' pc = .ok (.if_icmp .le o, 3)) (hc : ¬ y < x) (ho : 0 ≤ (pc : Int) + o) (hq : ((pc : Int) + o).toNat = q) (k : Run p e below s kc kn Q T (mkF m q Ls st)) : Run p e below s kc kn Q T (mkF m pc Ls (.int y :: .int x :: st)) := k.by fun t => XS.icmpYes X.here K.1 rfl rfl (hb K.2.1 hd) rfl (flt hc).2.2.2 ho hq
theorem k_icmp_le_n (K : Fx p s m meth c by' ml own nm ret Z) (X : Stand p l e R s m args below meth c T locs cells slots) {x y : Int32} {o : Int} (hd : decode by' pc = .ok (.if_icmp .le o, 3)) (hc : y < x) (hq : pc + 3 = q) (k : Run p e below s kc kn Q T (mkF m q Ls st)) : Run p e below s kc kn Q T (mkF m pc Ls (.int y :: .int x :: st)) := by
  subst hq; exact k.by fun t => XS.icmpNo X.here K.1 rfl (hb K.2.1 hd) rfl (tlt hc).2.2.2
theorem k_icmp_le (K : Fx p s m meth c by' ml own nm ret Z) (X : Stand p l e R s m args below meth c T locs cells slots) {x y : Int32} {o : Int} (hd : decode by' pc = .ok (.if_icmp .le o, 3)) (ho : 0 ≤ (pc : Int) + o) (hq : ((pc : Int) + o).toNat = q) (hq' : pc + 3 = q') (ky : ¬ y < x → Run p e below s kc kn Q T (mkF m q Ls st)) (kno : y < x → Run p e below s kc kn Q T (mkF m q' Ls st)) : Run p e below s kc kn Q T (mkF m pc Ls (.int y :: .int x :: st)) := by
  by_cases hc : y < x
  · exact k_icmp_le_n K X hd hc hq' (kno hc)
  · exact k_icmp_le_y K X hd hc ho hq (ky hc)
theorem k_ifnull_n (K : Fx p s m meth c by' ml own nm ret Z) (X : Stand p l e R s m args below meth c T locs cells slots) {a : Addr} {o : Int} (hd : decode by' pc = .ok (.ifnull o, 3)) (hq : pc + 3 = q) (k : Run p e below s kc kn Q T (mkF m q Ls st)) : Run p e below s kc kn Q T (mkF m pc Ls (.ref a :: st)) := by
  subst hq; exact k.by fun t => XS.ifnullNo X.here K.1 rfl (hb K.2.1 hd) rfl
theorem k_ldc (K : Fx p s m meth c by' ml own nm ret Z) (X : Stand p l e R s m args below meth c T locs cells slots) {i : Nat} {v : Int32} (hd : decode by' pc = .ok (.ldc i, 2)) (w : (Cond.constant own i v).before a0 Z = true) (hq : pc + 2 = q) (k : Run p e below s kc kn Q T (mkF m q Ls (.int v :: st))) : Run p e below s kc kn Q T (mkF m pc Ls st) := by
  subst hq; exact k.by fun t => X.ldcInt K.1 K.2.2.2.1 (mvT K.2.2.2.2.1 w) (g := mkF m pc Ls st) rfl (hb K.2.1 hd) t
theorem k_reti (K : Fx p s m meth c by' ml own nm (some .int) Z) (X : Stand p l e R s m args below meth c T locs cells slots) {x : Int32} (eT : T.heap = h) (hd : decode by' pc = .ok (.ireturn, 1)) (hc : cells ≤ kc) (hn : slots ≤ kn) (hQ : Q (some (.int x)) h locs) : Run p e below s kc kn Q T (mkF m pc Ls [.int x]) := by
  subst eT
  have hlk := K.2.2.2.2.2.2.1
  obtain ⟨fs, hr, hrun, hended, hW, hsame⟩ := X.leave (v := (some (.int x))) (fun z => by rw [K.2.2.2.2.2.1] at z; cases z)
  exact ⟨_, _, X.ireturnOut K.1 K.2.2.2.2.2.1 rfl (Or.inl rfl) (hb K.2.1 hd) hr, hrun, hended, _, _, rfl, hQ, ⟨_, rfl⟩, hW, hsame.mono hc hn⟩
theorem k_retz (K : Fx p s m meth c by' ml own nm (some .boolean) Z) (X : Stand p l e R s m args below meth c T locs cells slots) {x : Int32} (eT : T.heap = h) (hd : decode by' pc = .ok (.ireturn, 1)) (hc : cells ≤ kc) (hn : slots ≤ kn) (hQ : Q (some (.int (nar .boolean x))) h locs) : Run p e below s kc kn Q T (mkF m pc Ls [.int x]) := by
  subst eT
  have hlk := K.2.2.2.2.2.2.1
  obtain ⟨fs, hr, hrun, hended, hW, hsame⟩ := X.leave (v := (some (.int (nar .boolean x)))) (fun z => by rw [K.2.2.2.2.2.1] at z; cases z)
  exact ⟨_, _, retN X K.1 K.2.2.2.2.2.1 (by simp) (hb K.2.1 hd) hr, hrun, hended, _, _, rfl, hQ, ⟨_, rfl⟩, hW, hsame.mono hc hn⟩
theorem k_reta {rt : FieldType} (K : Fx p s m meth c by' ml own nm (some rt) Z) (X : Stand p l e R s m args below meth c T locs cells slots) {x : Value} (eT : T.heap = h) (hd : decode by' pc = .ok (.areturn, 1)) (ht : rt.isReference = true) (hx : x.isRef = true) (hc : cells ≤ kc) (hn : slots ≤ kn) (hQ : Q (some x) h locs) : Run p e below s kc kn Q T (mkF m pc Ls [x]) := by
  subst eT
  have hlk := K.2.2.2.2.2.2.1
  obtain ⟨fs, hr, hrun, hended, hW, hsame⟩ := X.leave (v := some x) (fun z => by rw [K.2.2.2.2.2.1] at z; cases z)
  exact ⟨_, _, retOut X K.1 K.2.2.2.2.2.1 (by cases rt <;> first | (cases ht; done) | rfl) (Or.inr (Or.inr (Or.inr (Or.inr ⟨rfl, ht, hx⟩)))) (hb K.2.1 hd) hr, hrun, hended, _, _, rfl, hQ, ⟨_, rfl⟩, hW, hsame.mono hc hn⟩
/-- a contract: with these arguments over this heap the body returns as Q says, within the room -/
abbrev Met (l : Launch) (y : MethodName) (bytes : ByteArray) (maxL : Nat) (ret : Option FieldType) (ws : List Jvm.Cond) (rm : Room) (Z : State) (as' : Array Value) (h0 : Heap) (Q : Option Value → Heap → List Loc → Prop) : Prop :=
  MetFree l y (head1 (Jvm.Cond.code y bytes maxL ret :: ws) rm) (fun a U => a = as' ∧ Z.Warmed39 U.vm ∧ U.heap = h0) (fun _ _ _ _ _ => True) (fun _ U o U' => ∃ v L, o = .returned v ∧ Q v U'.heap L ∧ FrameEnd U o U' L rm.cells rm.slots)
theorem enter {y : MethodName} {bytes : ByteArray} {maxL : Nat} {ws : List Jvm.Cond} {rm : Room} {as' : Array Value} {h0 : Heap} (hpl : plainFor y = true) (hef : ∀ m, entryFrame m as' maxL = mkF m 0 Ls [])
    (body : ∀ p e s m below meth c T kc kn Q', rm.cells ≤ kc → rm.slots ≤ kn → (∀ v h L, Q v h L → Q' v h L) → Fx p s m meth c bytes maxL y.cls y.name ret Z → Stand p l e rm s m as' below meth c T [] 0 0 → T.heap = h0 → Run p e below s kc kn Q' T (mkF m 0 Ls [])) : Met l y bytes maxL ret ws rm Z as' h0 Q := by
  refine MetFree.of_bodySF hpl hisR ?_
  intro p e s m args below meth c s₁ Bd hml0 hP hK
  obtain ⟨rfl, hZ, hh⟩ := hP
  obtain ⟨t, o, h1, h2, h3, v, L, h4, h5, h6⟩ := body p e s m below meth c s₁ _ _ Q (Nat.le_refl _) (Nat.le_refl _) (fun _ _ _ z => z) ⟨Bd.exec, Bd.bytes, hml0, findClass_of_methodNamed Bd.named, hZ, Bd.returns, BodyLoose.notSynchronized Bd, (name_of_methodNamed Bd.named Bd.method).1⟩ (Stand.of_body Bd) (by rw [← hh, Bd.state]; rfl)
  exact ⟨t, o, castTop (hef m) h1, h2, h3, v, L, h4, h5, h6⟩
theorem k_static (K : Fx p s m meth c by' ml own nm ret Z) (X : Stand p l e R s m args below meth c T locs cells slots) (eT : T.heap = h) {y : MethodName} {bytes : ByteArray} {maxL i W : Nat} {rt : Option FieldType} {rm : Room} {as' : Array Value} {Q' : Option Value → Heap → List Loc → Prop}
    (hd : decode by' pc = .ok (.invokestatic i, 3)) (w1 : (Cond.methodLink own i y).before a0 Z = true) (w2 : (Cond.static y).before a0 Z = true) (w3 : (Cond.initialized y.cls).before a0 Z = true) (w4 : (Cond.code y bytes maxL rt).before a0 Z = true) (hy : y.cls ≠ "java/lang/invoke/MethodHandle" ∧ y.cls ≠ "java/lang/invoke/VarHandle")
    (hM : Met l y bytes maxL rt [] rm Z as' h Q') (hf : rm.frames + 1 ≤ R.frames) (hl : W + (maxL + 11) + rm.locals ≤ R.locals) (hc : cells + rm.cells ≤ R.cells) (hn : slots + rm.slots ≤ R.slots) (hsz : Ls.size = ml)
    {sig : MethodDescriptor} (hdesc : parseMethodDescriptor y.desc = some sig) {argsL rest : List Value} (ha : as' = argsL.toArray) (hlen : argsL.length = sig.parameters.length) (hst : st = argsL.reverse ++ rest) (hW : (rest.map fun v => v.category).sum ≤ W) (hq : pc + 3 = q)
    (k : ∀ v T' L, Stand p l e R s m args below meth c T' (locs ++ L) (cells + rm.cells) (slots + rm.slots) → Q' v T'.heap L → Run p e below s kc kn Q T' (mkF m q Ls (v.toList ++ rest))) : Run p e below s kc kn Q T (mkF m pc Ls st) := by
  have hZ := K.2.2.2.2.1
  subst hq
  obtain ⟨v, _, ⟨T2, L2, k2, n2⟩, -, X2, ⟨Lc, hQ2, l2, y2, z2⟩, st2⟩ := Jvm.LawKit.callS X K.1 (y := y) K.2.2.2.1 (mvT hZ w1) (mvT hZ w2) (mvT hZ w3) (mvT hZ w4) hy (backOf (W := W) hM hZ w4 w3 hf hl) (g := mkF m pc Ls st) rfl (by rw [K.2.2.1]; exact hsz) (argsL := argsL) (rest := rest) (fun sg hs => by cases hdesc.symm.trans hs; exact hlen) hst (by show 2 * 0 + _ ≤ _; omega) (hb K.2.1 hd) (fun _ _ => ⟨ha.symm, eT, hc, hn⟩)
  dsimp only [Pt.U, Pt.locs, Pt.cells, Pt.slots] at X2 l2 y2 z2 st2 hQ2
  subst l2 y2 z2
  exact (k v T2 Lc X2 hQ2).by st2
/-- a static callee that leaves the heap as it was -/
theorem k_staticP (K : Fx p s m meth c by' ml own nm ret Z) (X : Stand p l e R s m args below meth c T locs cells slots) (eT : T.heap = h) {y : MethodName} {bytes : ByteArray} {maxL i W fr lo : Nat} {rt : Option FieldType} {as' : Array Value} {w : Value}
    (hd : decode by' pc = .ok (.invokestatic i, 3)) (w1 : (Cond.methodLink own i y).before a0 Z = true) (w2 : (Cond.static y).before a0 Z = true) (w3 : (Cond.initialized y.cls).before a0 Z = true) (w4 : (Cond.code y bytes maxL rt).before a0 Z = true) (hy : y.cls ≠ "java/lang/invoke/MethodHandle" ∧ y.cls ≠ "java/lang/invoke/VarHandle")
    (hM : Met l y bytes maxL rt [] { frames := fr, cells := 0, slots := 0, locals := lo } Z as' h (fun v h' L => v = some w ∧ h' = h ∧ L = [])) (hf : fr + 1 ≤ R.frames) (hl : W + (maxL + 11) + lo ≤ R.locals) (hc : cells ≤ R.cells) (hn : slots ≤ R.slots) (hsz : Ls.size = ml)
    {sig : MethodDescriptor} (hdesc : parseMethodDescriptor y.desc = some sig) {argsL rest : List Value} (ha : as' = argsL.toArray) (hlen : argsL.length = sig.parameters.length) (hst : st = argsL.reverse ++ rest) (hW : (rest.map fun v => v.category).sum ≤ W) (hq : pc + 3 = q)
    (k : ∀ T', Stand p l e R s m args below meth c T' locs cells slots → T'.heap = h → Run p e below s kc kn Q T' (mkF m q Ls (w :: rest))) : Run p e below s kc kn Q T (mkF m pc Ls st) := by
  refine k_static K X eT hd w1 w2 w3 w4 hy hM hf hl hc hn hsz hdesc ha hlen hst hW hq ?_
  rintro v T' L X' ⟨rfl, h2, rfl⟩
  rw [List.append_nil] at X'
  exact k T' X' h2
theorem setD {α β : Type} (f : α → β) (L : List α) (k : Nat) (x d : α) (hk : k < L.length) (i : Nat) : (if i = k then f x else f (L.getD i d)) = f ((L.set k x).getD i d) := by
  simp only [List.getD_eq_getElem?_getD]
  by_cases q : i = k
  · subst q; simp [hk]
  · rw [if_neg q, List.getElem?_set_ne (Ne.symm q)]
def upd {α : Type} (g : Nat → α) (i : Nat) (v : α) : Nat → α := fun k => if k = i then v else g k
/-- an array of n places; place i holds g i -/
def Ary (Z : State) (h : Heap) (a : Addr) (ty : FieldType) (n : Nat) (g : Nat → Value) : Prop := ∃ c : Cell, Arr Z h a c ty ∧ c.slots.size = n ∧ n < 2147483648 ∧ (∀ i, i < n → c.slots[i]? = some (g i)) ∧ ∀ i, i < n → fits ty (g i) = true
theorem Ary.lt {a : Addr} {ty : FieldType} {n : Nat} {g : Nat → Value} (F : Ary Z h a ty n g) : a < h.size := by obtain ⟨c, A, -⟩ := F; exact A.lt
theorem Ary.ext {h' : Heap} {a : Addr} {ty : FieldType} {n : Nat} {g : Nat → Value} (F : Ary Z h a ty n g) (E : Ext h h') : Ary Z h' a ty n g := by obtain ⟨c, A, r⟩ := F; exact ⟨c, A.ext E, r⟩
theorem Ary.other {h' : Heap} {a b : Addr} {ty : FieldType} {n sl : Nat} {v : Value} {g : Nat → Value} (F : Ary Z h b ty n g) (W : Wr h h' a sl v) (q : b ≠ a) : Ary Z h' b ty n g := by obtain ⟨c, A, r⟩ := F; exact ⟨c, A.other W q, r⟩
theorem Ary.keep {h' : Heap} {a : Addr} {ty : FieldType} {n : Nat} {g : Nat → Value} {ws : List Addr} (F : Ary Z h a ty n g) (K : Keep h h' ws) (q : a ∉ ws) : Ary Z h' a ty n g := by obtain ⟨c, A, r⟩ := F; exact ⟨c, ⟨K.2.1 a c A.1 q, A.2⟩, r⟩
theorem Ary.eqv {a : Addr} {ty : FieldType} {n : Nat} {g g' : Nat → Value} (F : Ary Z h a ty n g) (q : ∀ i, i < n → g i = g' i) : Ary Z h a ty n g' := by
  obtain ⟨c, A, r1, r2, r3, r4⟩ := F; exact ⟨c, A, r1, r2, fun i hi => by rw [← q i hi]; exact r3 i hi, fun i hi => by rw [← q i hi]; exact r4 i hi⟩
theorem Ary.set {h' : Heap} {a : Addr} {ty : FieldType} {n i : Nat} {v : Value} {g : Nat → Value} (F : Ary Z h a ty n g) (W : Wr h h' a i v) (hv : fits ty v = true) : Ary Z h' a ty n (fun k => if k = i then v else g k) := by
  obtain ⟨c, A, r1, r2, r3, r4⟩ := F
  obtain ⟨c', w1, w2, w3, w4⟩ := W
  cases A.1.symm.trans w1
  refine ⟨_, A.same ⟨c, w1, w2, w3, w4⟩, by rw [sz_set]; exact r1, r2, fun k hk => ?_, fun k hk => ?_⟩
  · show (c.setSlot i v).slots[k]? = some (if k = i then v else g k)
    by_cases q : k = i
    · subst q; simp [Cell.setSlot, w3]
    · rw [if_neg q]
      show (c.slots.setIfInBounds i v)[k]? = _
      rw [Array.getElem?_setIfInBounds_ne (Ne.symm q)]; exact r3 k hk
  · show fits ty (if k = i then v else g k) = true
    by_cases q : k = i
    · rw [if_pos q]; exact hv
    · rw [if_neg q]; exact r4 k hk
/-- the int j is the place i -/
abbrev Ix (j : Int32) (i : Nat) : Prop := ¬ j < 0 ∧ j.toNatClampNeg = i
theorem Ix.of {j : Int32} {i : Nat} (h : j.toInt = i) : Ix j i := by
  refine ⟨?_, ?_⟩
  · rw [Int32.lt_iff_toInt_lt, h]; have : (0 : Int32).toInt = 0 := rfl
    omega
  · simp only [Int32.toNatClampNeg, h]; omega
theorem Ix.inb {j : Int32} {i n : Nat} (hi : Ix j i) (hn : i < n) {cl : Cell} (hs : cl.slots.size = n) : ¬ (j < 0 ∨ cl.slots.size ≤ j.toNatClampNeg) := fun z => z.elim hi.1 fun z => by rw [hs, hi.2] at z; omega
theorem k_iaload (K : Fx p s m meth c by' ml own nm ret Z) (X : Stand p l e R s m args below meth c T locs cells slots) (eT : T.heap = h) {a : Addr} {n i : Nat} {g : Nat → Value} {j : Int32} {v : Value} (hd : decode by' pc = .ok (.iaload, 1)) (A : Ary Z h a .int n g) (hi : Ix j i) (hn : i < n) (hg : g i = v) (hq : pc + 1 = q) (k : Run p e below s kc kn Q T (mkF m q Ls (v :: st))) : Run p e below s kc kn Q T (mkF m pc Ls (.int j :: .ref a :: st)) := by
  subst hq hg
  obtain ⟨c', A, r1, r2, r3, -⟩ := A
  exact k.by fun t => X.iaload K.1 (j := j) (v := g i) (by rw [eT]; exact A.1) (State.isArrayOf_alike K.2.2.2.2.1.alike A.2.1) A.2.2 (hi.inb hn r1) (by rw [hi.2]; exact r3 i hn) (g := mkF m pc Ls (.int j :: .ref a :: st)) rfl rfl (hb K.2.1 hd) t
theorem k_iastore (K : Fx p s m meth c by' ml own nm ret Z) (X : Stand p l e R s m args below meth c T locs cells slots) (eT : T.heap = h) {a : Addr} {n i : Nat} {g : Nat → Value} {j : Int32} {x : Int32} (hd : decode by' pc = .ok (.iastore, 1)) (A : Ary Z h a .int n g) (hi : Ix j i) (hn : i < n) (hq : pc + 1 = q)
    (k : ∀ T' h', Stand p l e R s m args below meth c T' (locs ++ [⟨a, i⟩]) cells slots → T'.heap = h' → Wr h h' a i (.int x) → Ary Z h' a .int n (fun k => if k = i then .int x else g k) → Run p e below s kc kn Q T' (mkF m q Ls st)) : Run p e below s kc kn Q T (mkF m pc Ls (.int x :: .int j :: .ref a :: st)) := by
  subst hq
  have A0 := A
  obtain ⟨c', A, r1, r2, r3, -⟩ := A
  obtain ⟨T2, h2, X2, e2, W2, st2⟩ := stI X K.1 K.2.2.2.2.1 eT A (j := j) (hi.inb hn r1) (g := mkF m pc Ls (.int x :: .int j :: .ref a :: st)) rfl rfl (hb K.2.1 hd)
  rw [hi.2] at X2 W2
  exact (k T2 h2 X2 e2 W2 (A0.set W2 (rfl))).by st2
theorem k_arraylength (K : Fx p s m meth c by' ml own nm ret Z) (X : Stand p l e R s m args below meth c T locs cells slots) (eT : T.heap = h) {a : Addr} {ty : FieldType} {n : Nat} {g : Nat → Value} {v : Int32} (hd : decode by' pc = .ok (.arraylength, 1)) (A : Ary Z h a ty n g) (hv : n.toInt32 = v) (hq : pc + 1 = q) (k : Run p e below s kc kn Q T (mkF m q Ls (.int v :: st))) : Run p e below s kc kn Q T (mkF m pc Ls (.ref a :: st)) := by
  subst hq hv
  obtain ⟨c', A, r1, r2, r3, -⟩ := A
  subst r1
  exact k.by fun t => X.arraylength K.1 (by rw [eT]; exact A.1) (State.isArrayOf_alike K.2.2.2.2.1.alike A.2.1) (g := mkF m pc Ls (.ref a :: st)) rfl rfl (hb K.2.1 hd) t
theorem k_newarray (K : Fx p s m meth c by' ml own nm ret Z) (X : Stand p l e R s m args below meth c T locs cells slots) (eT : T.heap = h) {aty : ArrayType} {ty : FieldType} {z : Int32} {n cap : Nat} (hd : decode by' pc = .ok (.newarray aty, 2)) (hty : newarray.typeOf aty = ty) (w : (Cond.arrayClass ty).before a0 Z = true) (hz : Ix z n) (hcap : n ≤ cap) (h8 : cap * 8 ≤ 536870912) (hc : cells + 1 ≤ R.cells) (hn : slots + cap ≤ R.slots) (hq : pc + 2 = q)
    (k : ∀ T' h' a, Stand p l e R s m args below meth c T' locs (cells + 1) (slots + cap) → T'.heap = h' → a = h.size → Ext h h' → Ary Z h' a ty n (fun _ => defaultValue ty) → Run p e below s kc kn Q T' (mkF m q Ls (.ref a :: st))) : Run p e below s kc kn Q T (mkF m pc Ls (.int z :: st)) := by
  subst hq hty
  obtain ⟨T2, h2, cA, X2, e2, E2, A2, st2⟩ := newP X K.1 K.2.2.2.2.1 w eT (g := mkF m pc Ls (.int z :: st)) rfl (hb K.2.1 hd) rfl hz.1 (cap := cap) (by rw [hz.2]; exact hcap) h8 hc hn
  refine (k T2 h2 h.size X2 e2 rfl E2 ⟨_, A2, (sz_new _ _ _).trans hz.2, by omega, fun i hi => ?_, fun i _ => ?_⟩).by st2
  · rw [← hz.2] at hi; simp [newA, hi]
  · cases aty <;> rfl
end OwnKit

theorem wd {Z : State} {az : Array Value} (hw : ∀ d ∈ tables_1, d.before az Z = true) (k : Nat) {d : Jvm.Cond} (h : tables_1[k]? = some d) : d.before az Z = true := hw _ (List.mem_of_getElem? h)
theorem d1_0 : decode jdk_29_method_65_code 0 = .ok (.iload_n 0, 1) := by decide +kernel
theorem d1_1 : decode jdk_29_method_65_code 1 = .ok (.iload_n 1, 1) := by decide +kernel
theorem d1_2 : decode jdk_29_method_65_code 2 = .ok (.if_icmp .lt 7, 3) := by decide +kernel
theorem d1_10 : decode jdk_29_method_65_code 10 = .ok (.ireturn, 1) := by decide +kernel
theorem d1_9 : decode jdk_29_method_65_code 9 = .ok (.iload_n 1, 1) := by decide +kernel
theorem d1_5 : decode jdk_29_method_65_code 5 = .ok (.iload_n 0, 1) := by decide +kernel
theorem d1_6 : decode jdk_29_method_65_code 6 = .ok (.goto 4, 3) := by decide +kernel
theorem ef_1 (p0 : Int32) (p1 : Int32) : ∀ m : MethodId, entryFrame m #[(.int p0), (.int p1)] 2 = mkF m 0 #[.val (.int p0), .val (.int p1)] [] := by intro m; first | (simp [entryFrame, mkF, argsToLocals, Value.category]; done) | rfl
def F_max (p0 : Int32) (p1 : Int32) : Int32 :=
  let d2 : Int32 := (if p0 < p1 then p1 else p0)
  d2
set_option maxRecDepth 65536 in
set_option maxHeartbeats 40000000 in
theorem rm1 (l : Launch) (Z : State) (az : Array Value) (hw : ∀ d ∈ tables_1, d.before az Z = true) (ws : List Jvm.Cond) (p0 : Int32) (p1 : Int32) (h0 : Heap) :
    Met l (⟨"java/lang/Math", "max", "(II)I"⟩ : MethodName) jdk_29_method_65_code 2 (some .int) ws ({ frames := 0, cells := 0, slots := 0, locals := 0 } : Room) Z #[(.int p0), (.int p1)] h0 (fun v h' L => v = some (Value.int (F_max p0 p1)) ∧ h' = h0 ∧ L = []) := by
  refine enter (Jvm.Free.JP.mathPlain rfl (by decide +kernel)) (ef_1 p0 p1) ?_
  intro p e s m below meth c T0 kc kn Q hkc hkn hQ K' X0 e0
  have K : Fx p s m meth c jdk_29_method_65_code 2 "java/lang/Math" "max" (some .int) Z := K'
  refine k_iloadN K X0 d1_0 rfl (q := 1) rfl ?_
  refine k_iloadN K X0 d1_1 rfl (q := 2) rfl ?_
  have J3 : ∀ (d2 : Int32), (if p0 < p1 then p1 else p0) = d2 → Run p e below s kc kn Q T0 (mkF m 10 #[.val (.int p0), .val (.int p1)] [(.int d2)]) := by
    intro d2 hv_d2
    exact k_reti K X0 e0 d1_10 (Nat.le_trans (by decide) hkc) (Nat.le_trans (by decide) hkn) (hQ _ _ _ ⟨(by show some (Value.int d2) = some (Value.int (F_max p0 p1)); first | (simp only [F_max, hv_d2]; done) | (subst hv_d2; simp only [F_max])), rfl, rfl⟩)
  refine k_icmp_lt K X0 d1_2 (by decide) (q := 9) rfl (q' := 5) rfl ?_ ?_
  · intro hc4
    refine k_iloadN K X0 d1_9 rfl (q := 10) rfl ?_
    exact J3 _ (by first | (simp only [if_pos hc4]; done) | rfl)
  · intro hc4
    refine k_iloadN K X0 d1_5 rfl (q := 6) rfl ?_
    refine k_goto K X0 d1_6 (by decide) (q := 10) rfl ?_
    exact J3 _ (by first | (simp only [if_neg hc4]; done) | rfl)
theorem d4_0 : decode method_4_code 0 = .ok (.iload_n 1, 1) := by decide +kernel
theorem d4_1 : decode method_4_code 1 = .ok (.iload_n 0, 1) := by decide +kernel
theorem d4_2 : decode method_4_code 2 = .ok (.if_icmp .ge 12, 3) := by decide +kernel
theorem d4_15 : decode method_4_code 15 = .ok (.ireturn, 1) := by decide +kernel
theorem d4_14 : decode method_4_code 14 = .ok (.iconst 0, 1) := by decide +kernel
theorem d4_5 : decode method_4_code 5 = .ok (.iload_n 2, 1) := by decide +kernel
theorem d4_6 : decode method_4_code 6 = .ok (.iload_n 3, 1) := by decide +kernel
theorem d4_7 : decode method_4_code 7 = .ok (.if_icmp .ge 7, 3) := by decide +kernel
theorem d4_10 : decode method_4_code 10 = .ok (.iconst 1, 1) := by decide +kernel
theorem d4_11 : decode method_4_code 11 = .ok (.goto 4, 3) := by decide +kernel
theorem ef_4 (p0 : Int32) (p1 : Int32) (p2 : Int32) (p3 : Int32) : ∀ m : MethodId, entryFrame m #[(.int p0), (.int p1), (.int p2), (.int p3)] 4 = mkF m 0 #[.val (.int p0), .val (.int p1), .val (.int p2), .val (.int p3)] [] := by intro m; first | (simp [entryFrame, mkF, argsToLocals, Value.category]; done) | rfl
theorem pn_0 : plainName "com/example/muster/muster/search/GroupingStartsPinLaw" = true := by first | (simp [plainName, overriddenIn]; done) | decide +kernel
def F_below (p0 : Int32) (p1 : Int32) (p2 : Int32) (p3 : Int32) : Int32 :=
  let d7 : Int32 := (if p1 < p0 then (if p2 < p3 then (1 : Int32) else (0 : Int32)) else (0 : Int32))
  d7
set_option maxRecDepth 65536 in
set_option maxHeartbeats 40000000 in
theorem rm4 (l : Launch) (Z : State) (az : Array Value) (hw : ∀ d ∈ tables_1, d.before az Z = true) (ws : List Jvm.Cond) (p0 : Int32) (p1 : Int32) (p2 : Int32) (p3 : Int32) (h0 : Heap) :
    Met l (⟨"com/example/muster/muster/search/GroupingStartsPinLaw", "below", "(IIII)I"⟩ : MethodName) method_4_code 4 (some .int) ws ({ frames := 0, cells := 0, slots := 0, locals := 0 } : Room) Z #[(.int p0), (.int p1), (.int p2), (.int p3)] h0 (fun v h' L => v = some (Value.int (F_below p0 p1 p2 p3)) ∧ h' = h0 ∧ L = []) := by
  refine enter (plainFor_of_name pn_0) (ef_4 p0 p1 p2 p3) ?_
  intro p e s m below meth c T0 kc kn Q hkc hkn hQ K' X0 e0
  have K : Fx p s m meth c method_4_code 4 "com/example/muster/muster/search/GroupingStartsPinLaw" "below" (some .int) Z := K'
  refine k_iloadN K X0 d4_0 rfl (q := 1) rfl ?_
  refine k_iloadN K X0 d4_1 rfl (q := 2) rfl ?_
  have J8 : ∀ (d7 : Int32), (if p1 < p0 then (if p2 < p3 then (1 : Int32) else (0 : Int32)) else (0 : Int32)) = d7 → Run p e below s kc kn Q T0 (mkF m 15 #[.val (.int p0), .val (.int p1), .val (.int p2), .val (.int p3)] [(.int d7)]) := by
    intro d7 hv_d7
    exact k_reti K X0 e0 d4_15 (Nat.le_trans (by decide) hkc) (Nat.le_trans (by decide) hkn) (hQ _ _ _ ⟨(by show some (Value.int d7) = some (Value.int (F_below p0 p1 p2 p3)); first | (simp only [F_below, hv_d7]; done) | (subst hv_d7; simp only [F_below])), rfl, rfl⟩)
  refine k_icmp_ge K X0 d4_2 (by decide) (q := 14) rfl (q' := 5) rfl ?_ ?_
  · intro hc9
    refine k_iconst K X0 d4_14 (v := (0 : Int32)) rfl (q := 15) rfl ?_
    exact J8 _ (by first | (simp only [if_neg hc9]; done) | rfl)
  · intro hc9
    refine k_iloadN K X0 d4_5 rfl (q := 6) rfl ?_
    refine k_iloadN K X0 d4_6 rfl (q := 7) rfl ?_
    refine k_icmp_ge K X0 d4_7 (by decide) (q := 14) rfl (q' := 10) rfl ?_ ?_
    · intro hc10
      refine k_iconst K X0 d4_14 (v := (0 : Int32)) rfl (q := 15) rfl ?_
      exact J8 _ (by first | (simp only [if_pos hc9, if_neg hc10]; done) | rfl)
    · intro hc10
      refine k_iconst K X0 d4_10 (v := (1 : Int32)) rfl (q := 11) rfl ?_
      refine k_goto K X0 d4_11 (by decide) (q := 15) rfl ?_
      exact J8 _ (by first | (simp only [if_pos hc9, if_pos hc10]; done) | rfl)
theorem d3_0 : decode method_3_code 0 = .ok (.iload 7, 2) := by decide +kernel
theorem d3_2 : decode method_3_code 2 = .ok (.iload_n 1, 1) := by decide +kernel
theorem d3_3 : decode method_3_code 3 = .ok (.if_icmp .le 5, 3) := by decide +kernel
theorem d3_8 : decode method_3_code 8 = .ok (.iload_n 2, 1) := by decide +kernel
theorem d3_9 : decode method_3_code 9 = .ok (.iconst 0, 1) := by decide +kernel
theorem d3_10 : decode method_3_code 10 = .ok (.iload_n 3, 1) := by decide +kernel
theorem d3_11 : decode method_3_code 11 = .ok (.iload 7, 2) := by decide +kernel
theorem d3_13 : decode method_3_code 13 = .ok (.invokestatic 26, 3) := by decide +kernel
theorem pd_0 : parseMethodDescriptor "(IIII)I" = some ⟨[.int, .int, .int, .int], some .int⟩ := by decide +kernel
theorem d3_16 : decode method_3_code 16 = .ok (.iload_n 2, 1) := by decide +kernel
theorem d3_17 : decode method_3_code 17 = .ok (.iconst 1, 1) := by decide +kernel
theorem d3_18 : decode method_3_code 18 = .ok (.iload 4, 2) := by decide +kernel
theorem d3_20 : decode method_3_code 20 = .ok (.iload 7, 2) := by decide +kernel
theorem d3_22 : decode method_3_code 22 = .ok (.invokestatic 26, 3) := by decide +kernel
theorem d3_25 : decode method_3_code 25 = .ok (.iadd, 1) := by decide +kernel
theorem d3_26 : decode method_3_code 26 = .ok (.iload_n 2, 1) := by decide +kernel
theorem d3_27 : decode method_3_code 27 = .ok (.iconst 2, 1) := by decide +kernel
theorem d3_28 : decode method_3_code 28 = .ok (.iload 5, 2) := by decide +kernel
theorem d3_30 : decode method_3_code 30 = .ok (.iload 7, 2) := by decide +kernel
theorem d3_32 : decode method_3_code 32 = .ok (.invokestatic 26, 3) := by decide +kernel
theorem d3_35 : decode method_3_code 35 = .ok (.iadd, 1) := by decide +kernel
theorem d3_36 : decode method_3_code 36 = .ok (.iload_n 2, 1) := by decide +kernel
theorem d3_37 : decode method_3_code 37 = .ok (.iconst 3, 1) := by decide +kernel
theorem d3_38 : decode method_3_code 38 = .ok (.iload 6, 2) := by decide +kernel
theorem d3_40 : decode method_3_code 40 = .ok (.iload 7, 2) := by decide +kernel
theorem d3_42 : decode method_3_code 42 = .ok (.invokestatic 26, 3) := by decide +kernel
theorem d3_45 : decode method_3_code 45 = .ok (.iadd, 1) := by decide +kernel
theorem d3_46 : decode method_3_code 46 = .ok (.istore 8, 2) := by decide +kernel
theorem d3_48 : decode method_3_code 48 = .ok (.aload_n 0, 1) := by decide +kernel
theorem d3_49 : decode method_3_code 49 = .ok (.iload 7, 2) := by decide +kernel
theorem d3_51 : decode method_3_code 51 = .ok (.iaload, 1) := by decide +kernel
theorem d3_52 : decode method_3_code 52 = .ok (.iload 8, 2) := by decide +kernel
theorem d3_54 : decode method_3_code 54 = .ok (.if_icmp .ne 7, 3) := by decide +kernel
theorem d3_62 : decode method_3_code 62 = .ok (.ireturn, 1) := by decide +kernel
theorem d3_61 : decode method_3_code 61 = .ok (.iconst 0, 1) := by decide +kernel
theorem d3_57 : decode method_3_code 57 = .ok (.iconst 1, 1) := by decide +kernel
theorem d3_58 : decode method_3_code 58 = .ok (.goto 4, 3) := by decide +kernel
theorem d3_6 : decode method_3_code 6 = .ok (.iconst 1, 1) := by decide +kernel
theorem d3_7 : decode method_3_code 7 = .ok (.ireturn, 1) := by decide +kernel
theorem ef_3 (a0 : Addr) (p1 : Int32) (p2 : Int32) (p3 : Int32) (p4 : Int32) (p5 : Int32) (p6 : Int32) (p7 : Int32) : ∀ m : MethodId, entryFrame m #[(.ref a0), (.int p1), (.int p2), (.int p3), (.int p4), (.int p5), (.int p6), (.int p7)] 9 = mkF m 0 #[.val (.ref a0), .val (.int p1), .val (.int p2), .val (.int p3), .val (.int p4), .val (.int p5), .val (.int p6), .val (.int p7), .unset] [] := by intro m; first | (simp [entryFrame, mkF, argsToLocals, Value.category]; done) | rfl
def F_check (p1 : Int32) (p2 : Int32) (p3 : Int32) (p4 : Int32) (p5 : Int32) (p6 : Int32) (p7 : Int32) (n_a0 : Nat) (g_a0 : Nat → Int32) : Int32 :=
  if p1 < p7 then
    (1 : Int32)
  else
    let v38 : Int32 := ((((F_below p2 (0 : Int32) p3 p7) + (F_below p2 (1 : Int32) p4 p7)) + (F_below p2 (2 : Int32) p5 p7)) + (F_below p2 (3 : Int32) p6 p7))
    let v39 : Int32 := (g_a0 (Int32.toNatClampNeg p7))
    let d41 : Int32 := (if v39 = v38 then (1 : Int32) else (0 : Int32))
    (nar .boolean d41)
set_option maxRecDepth 65536 in
set_option maxHeartbeats 40000000 in
theorem rm3 (l : Launch) (Z : State) (az : Array Value) (hw : ∀ d ∈ tables_1, d.before az Z = true) (ws : List Jvm.Cond) (a0 : Addr) (p1 : Int32) (p2 : Int32) (p3 : Int32) (p4 : Int32) (p5 : Int32) (p6 : Int32) (p7 : Int32) (n_a0 : Nat) (g_a0 : Nat → Int32) (h0 : Heap) (A_a0 : Ary Z h0 a0 .int n_a0 (fun i => Value.int (g_a0 i))) (ob_0 : ¬ (p1 < p7) → ¬ p7 < (0 : Int32) ∧ Int32.toNatClampNeg p7 < n_a0) :
    Met l (⟨"com/example/muster/muster/search/GroupingStartsPinLaw", "check", "([IIIIIIII)Z"⟩ : MethodName) method_3_code 9 (some .boolean) ws ({ frames := 1, cells := 0, slots := 0, locals := 16 } : Room) Z #[(.ref a0), (.int p1), (.int p2), (.int p3), (.int p4), (.int p5), (.int p6), (.int p7)] h0 (fun v h' L => v = some (Value.int (F_check p1 p2 p3 p4 p5 p6 p7 n_a0 g_a0)) ∧ h' = h0 ∧ L = []) := by
  refine enter (plainFor_of_name pn_0) (ef_3 a0 p1 p2 p3 p4 p5 p6 p7) ?_
  intro p e s m below meth c T0 kc kn Q hkc hkn hQ K' X0 e0
  have K : Fx p s m meth c method_3_code 9 "com/example/muster/muster/search/GroupingStartsPinLaw" "check" (some .boolean) Z := K'
  refine k_iload K X0 d3_0 rfl (q := 2) rfl ?_
  refine k_iloadN K X0 d3_2 rfl (q := 3) rfl ?_
  refine k_icmp_le K X0 d3_3 (by decide) (q := 8) rfl (q' := 6) rfl ?_ ?_
  · intro hc25
    refine k_iloadN K X0 d3_8 rfl (q := 9) rfl ?_
    refine k_iconst K X0 d3_9 (v := (0 : Int32)) rfl (q := 10) rfl ?_
    refine k_iloadN K X0 d3_10 rfl (q := 11) rfl ?_
    refine k_iload K X0 d3_11 rfl (q := 13) rfl ?_
    refine k_staticP K X0 e0 d3_13 (wd hw 14 rfl) (wd hw 15 rfl) (wd hw 12 rfl) (wd hw 16 rfl) (by decide) (rm4 l Z az hw [] p2 (0 : Int32) p3 p7 h0) (W := 0) (by decide) (by decide) (by decide) (by decide) rfl pd_0 (argsL := [(.int p2), (.int (0 : Int32)), (.int p3), (.int p7)]) (rest := []) rfl rfl rfl (Nat.le_of_eq rfl) (q := 16) rfl ?_
    intro T26 X27 e28
    refine k_iloadN K X27 d3_16 rfl (q := 17) rfl ?_
    refine k_iconst K X27 d3_17 (v := (1 : Int32)) rfl (q := 18) rfl ?_
    refine k_iload K X27 d3_18 rfl (q := 20) rfl ?_
    refine k_iload K X27 d3_20 rfl (q := 22) rfl ?_
    refine k_staticP K X27 e28 d3_22 (wd hw 14 rfl) (wd hw 15 rfl) (wd hw 12 rfl) (wd hw 16 rfl) (by decide) (rm4 l Z az hw [] p2 (1 : Int32) p4 p7 h0) (W := 1) (by decide) (by decide) (by decide) (by decide) rfl pd_0 (argsL := [(.int p2), (.int (1 : Int32)), (.int p4), (.int p7)]) (rest := [(.int (F_below p2 (0 : Int32) p3 p7))]) rfl rfl rfl (Nat.le_of_eq rfl) (q := 25) rfl ?_
    intro T29 X30 e31
    refine k_iadd K X30 d3_25 (q := 26) rfl ?_
    refine k_iloadN K X30 d3_26 rfl (q := 27) rfl ?_
    refine k_iconst K X30 d3_27 (v := (2 : Int32)) rfl (q := 28) rfl ?_
    refine k_iload K X30 d3_28 rfl (q := 30) rfl ?_
    refine k_iload K X30 d3_30 rfl (q := 32) rfl ?_
    refine k_staticP K X30 e31 d3_32 (wd hw 14 rfl) (wd hw 15 rfl) (wd hw 12 rfl) (wd hw 16 rfl) (by decide) (rm4 l Z az hw [] p2 (2 : Int32) p5 p7 h0) (W := 1) (by decide) (by decide) (by decide) (by decide) rfl pd_0 (argsL := [(.int p2), (.int (2 : Int32)), (.int p5), (.int p7)]) (rest := [(.int ((F_below p2 (0 : Int32) p3 p7) + (F_below p2 (1 : Int32) p4 p7)))]) rfl rfl rfl (Nat.le_of_eq rfl) (q := 35) rfl ?_
    intro T32 X33 e34
    refine k_iadd K X33 d3_35 (q := 36) rfl ?_
    refine k_iloadN K X33 d3_36 rfl (q := 37) rfl ?_
    refine k_iconst K X33 d3_37 (v := (3 : Int32)) rfl (q := 38) rfl ?_
    refine k_iload K X33 d3_38 rfl (q := 40) rfl ?_
    refine k_iload K X33 d3_40 rfl (q := 42) rfl ?_
    refine k_staticP K X33 e34 d3_42 (wd hw 14 rfl) (wd hw 15 rfl) (wd hw 12 rfl) (wd hw 16 rfl) (by decide) (rm4 l Z az hw [] p2 (3 : Int32) p6 p7 h0) (W := 1) (by decide) (by decide) (by decide) (by decide) rfl pd_0 (argsL := [(.int p2), (.int (3 : Int32)), (.int p6), (.int p7)]) (rest := [(.int (((F_below p2 (0 : Int32) p3 p7) + (F_below p2 (1 : Int32) p4 p7)) + (F_below p2 (2 : Int32) p5 p7)))]) rfl rfl rfl (Nat.le_of_eq rfl) (q := 45) rfl ?_
    intro T35 X36 e37
    refine k_iadd K X36 d3_45 (q := 46) rfl ?_
    obtain ⟨v38, hv_v38⟩ : ∃ z : Int32, ((((F_below p2 (0 : Int32) p3 p7) + (F_below p2 (1 : Int32) p4 p7)) + (F_below p2 (2 : Int32) p5 p7)) + (F_below p2 (3 : Int32) p6 p7)) = z := ⟨_, rfl⟩
    refine k_istore K X36 d3_46 hv_v38 (Ls' := #[.val (.ref a0), .val (.int p1), .val (.int p2), .val (.int p3), .val (.int p4), .val (.int p5), .val (.int p6), .val (.int p7), .val (.int v38)]) rfl (q := 48) rfl ?_
    refine k_aloadN K X36 d3_48 rfl rfl (q := 49) rfl ?_
    refine k_iload K X36 d3_49 rfl (q := 51) rfl ?_
    refine k_iaload K X36 e37 d3_51 A_a0 (i := (Int32.toNatClampNeg p7)) (v := (.int (g_a0 (Int32.toNatClampNeg p7)))) ⟨((ob_0 hc25)).1, rfl⟩ ((ob_0 hc25)).2 rfl (q := 52) rfl ?_
    obtain ⟨v39, hv_v39⟩ : ∃ z : Int32, (g_a0 (Int32.toNatClampNeg p7)) = z := ⟨_, rfl⟩
    refine k_nameI hv_v39 ?_
    refine k_iload K X36 d3_52 rfl (q := 54) rfl ?_
    have J42 : ∀ (d41 : Int32), (if v39 = v38 then (1 : Int32) else (0 : Int32)) = d41 → Run p e below s kc kn Q T35 (mkF m 62 #[.val (.ref a0), .val (.int p1), .val (.int p2), .val (.int p3), .val (.int p4), .val (.int p5), .val (.int p6), .val (.int p7), .val (.int v38)] [(.int d41)]) := by
      intro d41 hv_d41
      exact k_retz K X36 e37 d3_62 (Nat.le_trans (by decide) hkc) (Nat.le_trans (by decide) hkn) (hQ _ _ _ ⟨(by show some (Value.int (nar .boolean d41)) = some (Value.int (F_check p1 p2 p3 p4 p5 p6 p7 n_a0 g_a0)); first | (simp only [F_check, hv_v38, hv_v39, hv_d41, if_neg hc25]; done) | (subst hv_v38; subst hv_v39; subst hv_d41; simp only [F_check, if_neg hc25])), rfl, rfl⟩)
    refine k_icmp_ne K X36 d3_54 (by decide) (q := 61) rfl (q' := 57) rfl ?_ ?_
    · intro hc43
      refine k_iconst K X36 d3_61 (v := (0 : Int32)) rfl (q := 62) rfl ?_
      exact J42 _ (by first | (simp only [if_neg hc43]; done) | rfl)
    · intro hc43
      refine k_iconst K X36 d3_57 (v := (1 : Int32)) rfl (q := 58) rfl ?_
      refine k_goto K X36 d3_58 (by decide) (q := 62) rfl ?_
      exact J42 _ (by first | (simp only [if_pos hc43]; done) | rfl)
  · intro hc25
    refine k_iconst K X0 d3_6 (v := (1 : Int32)) rfl (q := 7) rfl ?_
    exact k_retz K X0 e0 d3_7 (Nat.le_trans (by decide) hkc) (Nat.le_trans (by decide) hkn) (hQ _ _ _ ⟨(by show some (Value.int (1 : Int32)) = some (Value.int (F_check p1 p2 p3 p4 p5 p6 p7 n_a0 g_a0)); first | (simp only [F_check, if_pos hc25]; done) | (simp only [F_check, if_pos hc25])), rfl, rfl⟩)
theorem own_eqI {x y : Int32} : x = y ↔ x.toInt = y.toInt := Int32.toInt_inj.symm
theorem own_eqJ {x y : Int64} : x = y ↔ x.toInt = y.toInt := Int64.toInt_inj.symm
theorem own_ltI {x y : Int32} : x < y ↔ x.toInt < y.toInt := Int32.lt_iff_toInt_lt
theorem own_ltJ {x y : Int64} : x < y ↔ x.toInt < y.toInt := Int64.lt_iff_toInt_lt
def own_okn (n : Nat) (g : Nat → Int32) (p : Int32) : Prop := n ≤ 4 ∧ 0 ≤ p.toInt ∧ p.toInt ≤ 4 ∧ ∀ i, i < n → 0 ≤ (g i).toInt ∧ (g i).toInt < p.toInt
theorem own_n32 {n : Nat} (h : n ≤ 4) : (Nat.toInt32 n).toInt = n := Int32.toInt_ofNat_of_lt (by omega)
def own_s1 (k : Nat) (x : Int32) (n : Nat) (g : Nat → Int32) (p : Int32) : Prop := own_okn n g p ∧ 0 ≤ x.toInt ∧ x.toInt + k = n
def own_s2 (k : Nat) (x p : Int32) : Prop := p.toInt ≤ 4 ∧ 0 ≤ x.toInt ∧ x.toInt + k = p.toInt
theorem own_s10 {n : Nat} {g : Nat → Int32} {p : Int32} (h : own_okn n g p) : own_s1 n 0 n g p := ⟨h, by decide, by show (0 : Int) + n = n; omega⟩
theorem own_s1z {x : Int32} {n : Nat} {g : Nat → Int32} {p v : Int32} (h : own_s1 0 x n g p) (hv : Nat.toInt32 n = v) : ¬ x < v := by
  obtain ⟨a, b, c⟩ := h
  subst hv
  rw [own_ltI, own_n32 a.1]; omega
theorem own_s1n {k : Nat} {x : Int32} {n : Nat} {g : Nat → Int32} {p v : Int32} (h : own_s1 (k + 1) x n g p) (hv : Nat.toInt32 n = v) : x < v := by
  obtain ⟨a, b, c⟩ := h
  subst hv
  rw [own_ltI, own_n32 a.1]; omega
theorem own_s1c {k : Nat} {x : Int32} {n : Nat} {g : Nat → Int32} {p : Int32} (h : own_s1 (k + 1) x n g p) : own_s1 k (x + 1) n g p ∧ (¬ x < 0 ∧ Int32.toNatClampNeg x < n) := by
  obtain ⟨a, b, c⟩ := h
  have := a.1
  have s := c_iadd x 1; have r := rng32 (x + 1)
  have e1 : (1 : Int32).toInt = 1 := rfl
  have e0 : (0 : Int32).toInt = 0 := rfl
  refine ⟨⟨a, by omega, by omega⟩, by rw [own_ltI]; omega, ?_⟩
  simp only [Int32.toNatClampNeg]; omega
theorem own_s1b {k : Nat} {x : Int32} {n : Nat} {g : Nat → Int32} {p v : Int32} (h : own_s1 (k + 1) x n g p) (hv : g (Int32.toNatClampNeg x) = v) : ¬ (v + 1) < 0 ∧ Int32.toNatClampNeg (v + 1) < Int32.toNatClampNeg (p + 1) := by
  have i := (own_s1c h).2.2
  obtain ⟨⟨a1, a2, a3, a4⟩, b, c⟩ := h
  have a5 := a4 _ i
  rw [hv] at a5
  have s := c_iadd v 1; have r := rng32 (v + 1)
  have s2 := c_iadd p 1; have r2 := rng32 (p + 1)
  have e1 : (1 : Int32).toInt = 1 := rfl
  have e0 : (0 : Int32).toInt = 0 := rfl
  refine ⟨by rw [own_ltI]; omega, ?_⟩
  simp only [Int32.toNatClampNeg]; omega
theorem own_s20 {p : Int32} (h1 : 0 ≤ p.toInt) (h2 : p.toInt ≤ 4) : own_s2 p.toInt.toNat 0 p := ⟨h2, by decide, by show (0 : Int) + _ = _; omega⟩
theorem own_s2z {x p : Int32} (h : own_s2 0 x p) : ¬ x < p := by
  obtain ⟨a, b, c⟩ := h
  rw [own_ltI]; omega
theorem own_s2n {k : Nat} {x p : Int32} (h : own_s2 (k + 1) x p) : x < p ∧ own_s2 k (x + 1) p ∧ (¬ (x + 1) < 0 ∧ Int32.toNatClampNeg (x + 1) < Int32.toNatClampNeg (p + 1)) ∧ (¬ x < 0 ∧ Int32.toNatClampNeg x < Int32.toNatClampNeg (p + 1)) := by
  obtain ⟨a, b, c⟩ := h
  have s := c_iadd x 1; have r := rng32 (x + 1)
  have s2 := c_iadd p 1; have r2 := rng32 (p + 1)
  have e1 : (1 : Int32).toInt = 1 := rfl
  have e0 : (0 : Int32).toInt = 0 := rfl
  refine ⟨by rw [own_ltI]; omega, ⟨a, by omega, by omega⟩, ⟨by rw [own_ltI]; omega, ?_⟩, by rw [own_ltI]; omega, ?_⟩
  · simp only [Int32.toNatClampNeg]; omega
  · simp only [Int32.toNatClampNeg]; omega
theorem d2_0 : decode prog_46_method_2_code 0 = .ok (.iload_n 0, 1) := by decide +kernel
theorem d2_1 : decode prog_46_method_2_code 1 = .ok (.iconst 1, 1) := by decide +kernel
theorem d2_2 : decode prog_46_method_2_code 2 = .ok (.iadd, 1) := by decide +kernel
theorem d2_3 : decode prog_46_method_2_code 3 = .ok (.newarray .int, 2) := by decide +kernel
theorem d2_5 : decode prog_46_method_2_code 5 = .ok (.astore_n 2, 1) := by decide +kernel
theorem d2_6 : decode prog_46_method_2_code 6 = .ok (.aload_n 1, 1) := by decide +kernel
theorem d2_7 : decode prog_46_method_2_code 7 = .ok (.astore_n 3, 1) := by decide +kernel
theorem d2_8 : decode prog_46_method_2_code 8 = .ok (.aload_n 3, 1) := by decide +kernel
theorem d2_9 : decode prog_46_method_2_code 9 = .ok (.arraylength, 1) := by decide +kernel
theorem d2_10 : decode prog_46_method_2_code 10 = .ok (.istore 4, 2) := by decide +kernel
theorem d2_12 : decode prog_46_method_2_code 12 = .ok (.iconst 0, 1) := by decide +kernel
theorem d2_13 : decode prog_46_method_2_code 13 = .ok (.istore 5, 2) := by decide +kernel
theorem d2_15 : decode prog_46_method_2_code 15 = .ok (.iload 5, 2) := by decide +kernel
theorem d2_17 : decode prog_46_method_2_code 17 = .ok (.iload 4, 2) := by decide +kernel
theorem d2_19 : decode prog_46_method_2_code 19 = .ok (.if_icmp .ge 25, 3) := by decide +kernel
theorem d2_44 : decode prog_46_method_2_code 44 = .ok (.iconst 0, 1) := by decide +kernel
theorem d2_45 : decode prog_46_method_2_code 45 = .ok (.istore_n 3, 1) := by decide +kernel
theorem d2_46 : decode prog_46_method_2_code 46 = .ok (.iload_n 3, 1) := by decide +kernel
theorem d2_47 : decode prog_46_method_2_code 47 = .ok (.iload_n 0, 1) := by decide +kernel
theorem d2_48 : decode prog_46_method_2_code 48 = .ok (.if_icmp .ge 20, 3) := by decide +kernel
theorem d2_68 : decode prog_46_method_2_code 68 = .ok (.aload_n 2, 1) := by decide +kernel
theorem d2_69 : decode prog_46_method_2_code 69 = .ok (.areturn, 1) := by decide +kernel
theorem d2_51 : decode prog_46_method_2_code 51 = .ok (.aload_n 2, 1) := by decide +kernel
theorem d2_52 : decode prog_46_method_2_code 52 = .ok (.iload_n 3, 1) := by decide +kernel
theorem d2_53 : decode prog_46_method_2_code 53 = .ok (.iconst 1, 1) := by decide +kernel
theorem d2_54 : decode prog_46_method_2_code 54 = .ok (.iadd, 1) := by decide +kernel
theorem d2_55 : decode prog_46_method_2_code 55 = .ok (.dup2, 1) := by decide +kernel
theorem d2_56 : decode prog_46_method_2_code 56 = .ok (.iaload, 1) := by decide +kernel
theorem d2_57 : decode prog_46_method_2_code 57 = .ok (.aload_n 2, 1) := by decide +kernel
theorem d2_58 : decode prog_46_method_2_code 58 = .ok (.iload_n 3, 1) := by decide +kernel
theorem d2_59 : decode prog_46_method_2_code 59 = .ok (.iaload, 1) := by decide +kernel
theorem d2_60 : decode prog_46_method_2_code 60 = .ok (.iadd, 1) := by decide +kernel
theorem d2_61 : decode prog_46_method_2_code 61 = .ok (.iastore, 1) := by decide +kernel
theorem d2_62 : decode prog_46_method_2_code 62 = .ok (.iinc 3 1, 3) := by decide +kernel
theorem d2_65 : decode prog_46_method_2_code 65 = .ok (.goto (-19), 3) := by decide +kernel
theorem d2_22 : decode prog_46_method_2_code 22 = .ok (.aload_n 3, 1) := by decide +kernel
theorem d2_23 : decode prog_46_method_2_code 23 = .ok (.iload 5, 2) := by decide +kernel
theorem d2_25 : decode prog_46_method_2_code 25 = .ok (.iaload, 1) := by decide +kernel
theorem d2_26 : decode prog_46_method_2_code 26 = .ok (.istore 6, 2) := by decide +kernel
theorem d2_28 : decode prog_46_method_2_code 28 = .ok (.aload_n 2, 1) := by decide +kernel
theorem d2_29 : decode prog_46_method_2_code 29 = .ok (.iload 6, 2) := by decide +kernel
theorem d2_31 : decode prog_46_method_2_code 31 = .ok (.iconst 1, 1) := by decide +kernel
theorem d2_32 : decode prog_46_method_2_code 32 = .ok (.iadd, 1) := by decide +kernel
theorem d2_33 : decode prog_46_method_2_code 33 = .ok (.dup2, 1) := by decide +kernel
theorem d2_34 : decode prog_46_method_2_code 34 = .ok (.iaload, 1) := by decide +kernel
theorem d2_35 : decode prog_46_method_2_code 35 = .ok (.iconst 1, 1) := by decide +kernel
theorem d2_36 : decode prog_46_method_2_code 36 = .ok (.iadd, 1) := by decide +kernel
theorem d2_37 : decode prog_46_method_2_code 37 = .ok (.iastore, 1) := by decide +kernel
theorem d2_38 : decode prog_46_method_2_code 38 = .ok (.iinc 5 1, 3) := by decide +kernel
theorem d2_41 : decode prog_46_method_2_code 41 = .ok (.goto (-26), 3) := by decide +kernel
theorem ef_2 (p0 : Int32) (a1 : Addr) : ∀ m : MethodId, entryFrame m #[(.int p0), (.ref a1)] 7 = mkF m 0 #[.val (.int p0), .val (.ref a1), .unset, .unset, .unset, .unset, .unset] [] := by intro m; first | (simp [entryFrame, mkF, argsToLocals, Value.category]; done) | rfl
theorem pn_1 : plainName "com/example/muster/muster/search/Grouping" = true := by first | (simp [plainName, overriddenIn]; done) | decide +kernel
def U2_46_0 (p0 : Int32) (n_a1 : Nat) (g_a1 : Nat → Int32) (v72 : Int32) (x73 : Int32) (x74 : Nat → Int32) (x90 : Int32) (x91 : Nat → Int32) : Int32 :=
  let v106 : Int32 := (x91 (Int32.toNatClampNeg (x90 + (1 : Int32))))
  let v107 : Int32 := (x91 (Int32.toNatClampNeg x90))
  let v108 : Nat → Int32 := (upd x91 (Int32.toNatClampNeg (x90 + (1 : Int32))) (v106 + v107))
  let v120 : Int32 := (x90 + (1 : Int32))
  v120
def U2_46_1 (p0 : Int32) (n_a1 : Nat) (g_a1 : Nat → Int32) (v72 : Int32) (x73 : Int32) (x74 : Nat → Int32) (x90 : Int32) (x91 : Nat → Int32) : Nat → Int32 :=
  let v106 : Int32 := (x91 (Int32.toNatClampNeg (x90 + (1 : Int32))))
  let v107 : Int32 := (x91 (Int32.toNatClampNeg x90))
  let v108 : Nat → Int32 := (upd x91 (Int32.toNatClampNeg (x90 + (1 : Int32))) (v106 + v107))
  let v120 : Int32 := (x90 + (1 : Int32))
  v108
def L2_46_0 (k : Nat) (p0 : Int32) (n_a1 : Nat) (g_a1 : Nat → Int32) (v72 : Int32) (x73 : Int32) (x74 : Nat → Int32) : Int32 → (Nat → Int32) → Int32 := match k with
  | 0 => fun x90 x91 => x90
  | k + 1 => fun x90 x91 => L2_46_0 k p0 n_a1 g_a1 v72 x73 x74 (U2_46_0 p0 n_a1 g_a1 v72 x73 x74 x90 x91) (U2_46_1 p0 n_a1 g_a1 v72 x73 x74 x90 x91)
def L2_46_1 (k : Nat) (p0 : Int32) (n_a1 : Nat) (g_a1 : Nat → Int32) (v72 : Int32) (x73 : Int32) (x74 : Nat → Int32) : Int32 → (Nat → Int32) → Nat → Int32 := match k with
  | 0 => fun x90 x91 => x91
  | k + 1 => fun x90 x91 => L2_46_1 k p0 n_a1 g_a1 v72 x73 x74 (U2_46_0 p0 n_a1 g_a1 v72 x73 x74 x90 x91) (U2_46_1 p0 n_a1 g_a1 v72 x73 x74 x90 x91)
def U2_15_0 (p0 : Int32) (n_a1 : Nat) (g_a1 : Nat → Int32) (v72 : Int32) (x73 : Int32) (x74 : Nat → Int32) : Int32 :=
  let v123 : Int32 := (g_a1 (Int32.toNatClampNeg x73))
  let v124 : Int32 := (x74 (Int32.toNatClampNeg (v123 + (1 : Int32))))
  let v125 : Nat → Int32 := (upd x74 (Int32.toNatClampNeg (v123 + (1 : Int32))) (v124 + (1 : Int32)))
  let v137 : Int32 := (x73 + (1 : Int32))
  v137
def U2_15_1 (p0 : Int32) (n_a1 : Nat) (g_a1 : Nat → Int32) (v72 : Int32) (x73 : Int32) (x74 : Nat → Int32) : Nat → Int32 :=
  let v123 : Int32 := (g_a1 (Int32.toNatClampNeg x73))
  let v124 : Int32 := (x74 (Int32.toNatClampNeg (v123 + (1 : Int32))))
  let v125 : Nat → Int32 := (upd x74 (Int32.toNatClampNeg (v123 + (1 : Int32))) (v124 + (1 : Int32)))
  let v137 : Int32 := (x73 + (1 : Int32))
  v125
def L2_15_0 (k : Nat) (p0 : Int32) (n_a1 : Nat) (g_a1 : Nat → Int32) (v72 : Int32) : Int32 → (Nat → Int32) → Int32 := match k with
  | 0 => fun x73 x74 => x73
  | k + 1 => fun x73 x74 => L2_15_0 k p0 n_a1 g_a1 v72 (U2_15_0 p0 n_a1 g_a1 v72 x73 x74) (U2_15_1 p0 n_a1 g_a1 v72 x73 x74)
def L2_15_1 (k : Nat) (p0 : Int32) (n_a1 : Nat) (g_a1 : Nat → Int32) (v72 : Int32) : Int32 → (Nat → Int32) → Nat → Int32 := match k with
  | 0 => fun x73 x74 => x74
  | k + 1 => fun x73 x74 => L2_15_1 k p0 n_a1 g_a1 v72 (U2_15_0 p0 n_a1 g_a1 v72 x73 x74) (U2_15_1 p0 n_a1 g_a1 v72 x73 x74)
def F_starts_new0_g (p0 : Int32) (n_a1 : Nat) (g_a1 : Nat → Int32) : Nat → Int32 :=
  let v72 : Int32 := (Nat.toInt32 n_a1)
  let x73 : Int32 := (L2_15_0 n_a1 p0 n_a1 g_a1 v72 (0 : Int32) (fun _ => (0 : Int32)))
  let x74 : Nat → Int32 := (L2_15_1 n_a1 p0 n_a1 g_a1 v72 (0 : Int32) (fun _ => (0 : Int32)))
  let x90 : Int32 := (L2_46_0 p0.toInt.toNat p0 n_a1 g_a1 v72 x73 x74 (0 : Int32) x74)
  let x91 : Nat → Int32 := (L2_46_1 p0.toInt.toNat p0 n_a1 g_a1 v72 x73 x74 (0 : Int32) x74)
  x91
set_option maxRecDepth 65536 in
set_option maxHeartbeats 40000000 in
theorem rm2 (l : Launch) (Z : State) (az : Array Value) (hw : ∀ d ∈ tables_1, d.before az Z = true) (ws : List Jvm.Cond) (p0 : Int32) (a1 : Addr) (n_a1 : Nat) (g_a1 : Nat → Int32) (h0 : Heap) (n0 : Nat) (Z0 : n0 ≤ h0.size) (A_a1 : Ary Z h0 a1 .int n_a1 (fun i => Value.int (g_a1 i))) (ob_0 : ¬ (p0 + (1 : Int32)) < (0 : Int32) ∧ (Int32.toNatClampNeg (p0 + (1 : Int32))) ≤ 5) (ob_1 : own_okn n_a1 g_a1 p0) :
    Met l (⟨"com/example/muster/muster/search/Grouping", "starts", "(I[I)[I"⟩ : MethodName) prog_46_method_2_code 7 (some (.array .int)) ws ({ frames := 0, cells := 1, slots := 5, locals := 0 } : Room) Z #[(.int p0), (.ref a1)] h0 (fun v h' L => ∃ b59 : Addr, n0 ≤ b59 ∧ h0.size ≤ b59 ∧ v = some (.ref b59) ∧ Fr n0 L ∧ Keep h0 h' [] ∧ Ary Z h' b59 .int (Int32.toNatClampNeg (p0 + (1 : Int32))) (fun i => Value.int ((F_starts_new0_g p0 n_a1 g_a1) i))) := by
  refine enter (plainFor_of_name pn_1) (ef_2 p0 a1) ?_
  intro p e s m below meth c T0 kc kn Q hkc hkn hQ K' X0 e0
  have K : Fx p s m meth c prog_46_method_2_code 7 "com/example/muster/muster/search/Grouping" "starts" (some (.array .int)) Z := K'
  have N0 := Fr.nil n0
  have K0 : Keep h0 h0 [] := Keep.refl _ _
  refine k_iloadN K X0 d2_0 rfl (q := 1) rfl ?_
  refine k_iconst K X0 d2_1 (v := (1 : Int32)) rfl (q := 2) rfl ?_
  refine k_iadd K X0 d2_2 (q := 3) rfl ?_
  refine k_newarray K X0 e0 d2_3 (ty := .int) rfl (wd hw 5 rfl) (n := (Int32.toNatClampNeg (p0 + (1 : Int32)))) (cap := 5) ⟨((ob_0)).1, rfl⟩ ((ob_0)).2 (by decide) (by decide) (by decide) (q := 5) rfl ?_
  intro T57 h58 b59 X60 e61 g62 E63 A64 
  have ne65 : a1 ≠ b59 := Nat.ne_of_lt (Nat.lt_of_lt_of_eq (A_a1).lt g62.symm)
  have ge66 : n0 ≤ b59 := Nat.le_trans Z0 (Nat.le_of_eq g62.symm)
  have bn67 : h0.size ≤ b59 := Nat.le_trans K0.1 (Nat.le_of_eq g62.symm)
  have f68 := Ary.ext A_a1 E63
  have K69 := Keep.ext K0 E63
  have Z70 := Nat.le_trans Z0 E63.1
  have f71 : Ary Z h58 b59 .int (Int32.toNatClampNeg (p0 + (1 : Int32))) (fun i => Value.int ((fun _ => (0 : Int32)) i)) := A64
  refine k_astoreN K X60 d2_5 rfl (Ls' := #[.val (.int p0), .val (.ref a1), .val (.ref b59), .unset, .unset, .unset, .unset]) rfl (q := 6) rfl ?_
  refine k_aloadN K X60 d2_6 rfl rfl (q := 7) rfl ?_
  refine k_astoreN K X60 d2_7 rfl (Ls' := #[.val (.int p0), .val (.ref a1), .val (.ref b59), .val (.ref a1), .unset, .unset, .unset]) rfl (q := 8) rfl ?_
  refine k_aloadN K X60 d2_8 rfl rfl (q := 9) rfl ?_
  refine k_arraylength K X60 e61 d2_9 f68 (v := (Nat.toInt32 n_a1)) rfl (q := 10) rfl ?_
  obtain ⟨v72, hv_v72⟩ : ∃ z : Int32, (Nat.toInt32 n_a1) = z := ⟨_, rfl⟩
  refine k_istore K X60 d2_10 hv_v72 (Ls' := #[.val (.int p0), .val (.ref a1), .val (.ref b59), .val (.ref a1), .val (.int v72), .unset, .unset]) rfl (q := 12) rfl ?_
  refine k_iconst K X60 d2_12 (v := (0 : Int32)) rfl (q := 13) rfl ?_
  refine k_istore K X60 d2_13 rfl (Ls' := #[.val (.int p0), .val (.ref a1), .val (.ref b59), .val (.ref a1), .val (.int v72), .val (.int (0 : Int32)), .unset]) rfl (q := 15) rfl ?_
  have LP89 : ∀ (k : Nat) (x73 : Int32) (x74 : Nat → Int32) (s75 : Slot) (T76 : State) (h77 : Heap) (Lc78 : List Loc), Stand p l e ({ frames := 0, cells := 1, slots := 5, locals := 0 } : Room) s m #[(.int p0), (.ref a1)] below meth c T76 Lc78 1 5 → Fr n0 Lc78 → T76.heap = h77 → Keep h0 h77 [] → n0 ≤ h77.size → Ary Z h77 a1 .int n_a1 (fun i => Value.int (g_a1 i)) → Ary Z h77 b59 .int (Int32.toNatClampNeg (p0 + (1 : Int32))) (fun i => Value.int (x74 i)) → (s75 = .unset ∨ ∃ w : Value, s75 = .val w ∧ w.category = 1) → own_s1 k x73 n_a1 g_a1 p0 → L2_15_0 k p0 n_a1 g_a1 v72 x73 x74 = (L2_15_0 n_a1 p0 n_a1 g_a1 v72 (0 : Int32) (fun _ => (0 : Int32))) → L2_15_1 k p0 n_a1 g_a1 v72 x73 x74 = (L2_15_1 n_a1 p0 n_a1 g_a1 v72 (0 : Int32) (fun _ => (0 : Int32))) → Run p e below s kc kn Q T76 (mkF m 15 #[.val (.int p0), .val (.ref a1), .val (.ref b59), .val (.ref a1), .val (.int v72), .val (.int x73), s75] []) := by
    intro k
    induction k with
    | zero =>
      intro x73 x74 s75 T76 h77 Lc78 X79 N80 e81 K82 Z83 f84 f85 hsl_s75 hi88 hR86 hR87
      have hv_x73 : (L2_15_0 n_a1 p0 n_a1 g_a1 v72 (0 : Int32) (fun _ => (0 : Int32))) = x73 := hR86.symm
      have hv_x74 : (L2_15_1 n_a1 p0 n_a1 g_a1 v72 (0 : Int32) (fun _ => (0 : Int32))) = x74 := hR87.symm
      refine k_iload K X79 d2_15 rfl (q := 17) rfl ?_
      refine k_iload K X79 d2_17 rfl (q := 19) rfl ?_
      refine k_icmp_ge_y K X79 d2_19 (own_s1z hi88 hv_v72) (by decide) (q := 44) rfl ?_
      refine k_iconst K X79 d2_44 (v := (0 : Int32)) rfl (q := 45) rfl ?_
      refine k_istoreN K X79 d2_45 rfl (Ls' := #[.val (.int p0), .val (.ref a1), .val (.ref b59), .val (.int (0 : Int32)), .val (.int v72), .val (.int x73), s75]) rfl (q := 46) rfl ?_
      have LP105 : ∀ (k : Nat) (x90 : Int32) (x91 : Nat → Int32) (T92 : State) (h93 : Heap) (Lc94 : List Loc), Stand p l e ({ frames := 0, cells := 1, slots := 5, locals := 0 } : Room) s m #[(.int p0), (.ref a1)] below meth c T92 Lc94 1 5 → Fr n0 Lc94 → T92.heap = h93 → Keep h0 h93 [] → n0 ≤ h93.size → Ary Z h93 a1 .int n_a1 (fun i => Value.int (g_a1 i)) → Ary Z h93 b59 .int (Int32.toNatClampNeg (p0 + (1 : Int32))) (fun i => Value.int (x91 i)) → own_s2 k x90 p0 → L2_46_0 k p0 n_a1 g_a1 v72 x73 x74 x90 x91 = (L2_46_0 p0.toInt.toNat p0 n_a1 g_a1 v72 x73 x74 (0 : Int32) x74) → L2_46_1 k p0 n_a1 g_a1 v72 x73 x74 x90 x91 = (L2_46_1 p0.toInt.toNat p0 n_a1 g_a1 v72 x73 x74 (0 : Int32) x74) → Run p e below s kc kn Q T92 (mkF m 46 #[.val (.int p0), .val (.ref a1), .val (.ref b59), .val (.int x90), .val (.int v72), .val (.int x73), s75] []) := by
        intro k
        induction k with
        | zero =>
          intro x90 x91 T92 h93 Lc94 X95 N96 e97 K98 Z99 f100 f101 hi104 hR102 hR103
          have hv_x90 : (L2_46_0 p0.toInt.toNat p0 n_a1 g_a1 v72 x73 x74 (0 : Int32) x74) = x90 := hR102.symm
          have hv_x91 : (L2_46_1 p0.toInt.toNat p0 n_a1 g_a1 v72 x73 x74 (0 : Int32) x74) = x91 := hR103.symm
          refine k_iloadN K X95 d2_46 rfl (q := 47) rfl ?_
          refine k_iloadN K X95 d2_47 rfl (q := 48) rfl ?_
          refine k_icmp_ge_y K X95 d2_48 (own_s2z hi104) (by decide) (q := 68) rfl ?_
          refine k_aloadN K X95 d2_68 rfl rfl (q := 69) rfl ?_
          exact k_reta K X95 e97 d2_69 rfl rfl (Nat.le_trans (by decide) hkc) (Nat.le_trans (by decide) hkn) (hQ _ _ _ ⟨b59, ge66, bn67, rfl, N96, K98, (by rw [(show F_starts_new0_g p0 n_a1 g_a1 = x91 from by first | (simp only [F_starts_new0_g, hv_v72, hv_x73, hv_x74, hv_x90, hv_x91]; done) | (subst hv_v72; subst hv_x73; subst hv_x74; subst hv_x90; subst hv_x91; simp only [F_starts_new0_g]))]; exact f101)⟩)
        | succ k ih =>
          intro x90 x91 T92 h93 Lc94 X95 N96 e97 K98 Z99 f100 f101 hi104 hR102 hR103
          refine k_iloadN K X95 d2_46 rfl (q := 47) rfl ?_
          refine k_iloadN K X95 d2_47 rfl (q := 48) rfl ?_
          refine k_icmp_ge_n K X95 d2_48 (own_s2n hi104).1 (q := 51) rfl ?_
          refine k_aloadN K X95 d2_51 rfl rfl (q := 52) rfl ?_
          refine k_iloadN K X95 d2_52 rfl (q := 53) rfl ?_
          refine k_iconst K X95 d2_53 (v := (1 : Int32)) rfl (q := 54) rfl ?_
          refine k_iadd K X95 d2_54 (q := 55) rfl ?_
          refine k_dup2 K X95 d2_55 rfl rfl (q := 56) rfl ?_
          refine k_iaload K X95 e97 d2_56 f101 (i := (Int32.toNatClampNeg (x90 + (1 : Int32)))) (v := (.int (x91 (Int32.toNatClampNeg (x90 + (1 : Int32)))))) ⟨((own_s2n hi104).2.2.1).1, rfl⟩ ((own_s2n hi104).2.2.1).2 rfl (q := 57) rfl ?_
          obtain ⟨v106, hv_v106⟩ : ∃ z : Int32, (x91 (Int32.toNatClampNeg (x90 + (1 : Int32)))) = z := ⟨_, rfl⟩
          refine k_nameI hv_v106 ?_
          refine k_aloadN K X95 d2_57 rfl rfl (q := 58) rfl ?_
          refine k_iloadN K X95 d2_58 rfl (q := 59) rfl ?_
          refine k_iaload K X95 e97 d2_59 f101 (i := (Int32.toNatClampNeg x90)) (v := (.int (x91 (Int32.toNatClampNeg x90)))) ⟨((own_s2n hi104).2.2.2).1, rfl⟩ ((own_s2n hi104).2.2.2).2 rfl (q := 60) rfl ?_
          obtain ⟨v107, hv_v107⟩ : ∃ z : Int32, (x91 (Int32.toNatClampNeg x90)) = z := ⟨_, rfl⟩
          refine k_nameI hv_v107 ?_
          refine k_iadd K X95 d2_60 (q := 61) rfl ?_
          obtain ⟨v108, hv_v108⟩ : ∃ z : Nat → Int32, (upd x91 (Int32.toNatClampNeg (x90 + (1 : Int32))) (v106 + v107)) = z := ⟨_, rfl⟩
          refine k_iastore K X95 e97 d2_61 f101 (i := (Int32.toNatClampNeg (x90 + (1 : Int32)))) ⟨((own_s2n hi104).2.2.1).1, rfl⟩ ((own_s2n hi104).2.2.1).2 (q := 62) rfl ?_
          intro T109 h110 X111 e112 W113 A114
          have f115 : Ary Z h110 b59 .int (Int32.toNatClampNeg (p0 + (1 : Int32))) (fun i => Value.int (v108 i)) := Ary.eqv A114 (fun k _ => by rw [← hv_v108]; show (if k = (Int32.toNatClampNeg (x90 + (1 : Int32))) then _ else _) = _; unfold upd; split <;> rfl)
          have f116 := Ary.other f100 W113 ne65
          have N117 := Fr.snoc X111 N96 ge66
          have K118 := Keep.wr K98 W113 (Or.inr bn67)
          have Z119 := Nat.le_trans Z99 (Nat.le_of_eq (Wr.size W113).symm)
          obtain ⟨v120, hv_v120⟩ : ∃ z : Int32, (x90 + (1 : Int32)) = z := ⟨_, rfl⟩
          refine k_iinc K X111 d2_62 rfl hv_v120 (Ls' := #[.val (.int p0), .val (.ref a1), .val (.ref b59), .val (.int v120), .val (.int v72), .val (.int x73), s75]) rfl (q := 65) rfl ?_
          refine k_goto K X111 d2_65 (by decide) (q := 46) rfl ?_
          have hu121 : U2_46_0 p0 n_a1 g_a1 v72 x73 x74 x90 x91 = v120 := by first | (simp only [U2_46_0, hv_v106, hv_v107, hv_v108, hv_v120]; done) | (subst hv_v106; subst hv_v107; subst hv_v108; subst hv_v120; simp only [U2_46_0])
          have hu122 : U2_46_1 p0 n_a1 g_a1 v72 x73 x74 x90 x91 = v108 := by first | (simp only [U2_46_1, hv_v106, hv_v107, hv_v108, hv_v120]; done) | (subst hv_v106; subst hv_v107; subst hv_v108; subst hv_v120; simp only [U2_46_1])
          have hR102' : L2_46_0 k p0 n_a1 g_a1 v72 x73 x74 v120 v108 = (L2_46_0 p0.toInt.toNat p0 n_a1 g_a1 v72 x73 x74 (0 : Int32) x74) := by
            rw [← hR102]
            show _ = L2_46_0 k p0 n_a1 g_a1 v72 x73 x74 (U2_46_0 p0 n_a1 g_a1 v72 x73 x74 x90 x91) (U2_46_1 p0 n_a1 g_a1 v72 x73 x74 x90 x91)
            rw [hu121, hu122]
          have hR103' : L2_46_1 k p0 n_a1 g_a1 v72 x73 x74 v120 v108 = (L2_46_1 p0.toInt.toNat p0 n_a1 g_a1 v72 x73 x74 (0 : Int32) x74) := by
            rw [← hR103]
            show _ = L2_46_1 k p0 n_a1 g_a1 v72 x73 x74 (U2_46_0 p0 n_a1 g_a1 v72 x73 x74 x90 x91) (U2_46_1 p0 n_a1 g_a1 v72 x73 x74 x90 x91)
            rw [hu121, hu122]
          exact ih v120 v108 T109 _ _ X111 N117 e112 K118 Z119 f116 f115 (by rw [← hv_v120]; exact (own_s2n hi104).2.1) hR102' hR103'
      exact LP105 p0.toInt.toNat (0 : Int32) x74 T76 _ _ X79 N80 e81 K82 Z83 f84 f85 (own_s20 ((ob_1)).2.1 ((ob_1)).2.2.1) rfl rfl
    | succ k ih =>
      intro x73 x74 s75 T76 h77 Lc78 X79 N80 e81 K82 Z83 f84 f85 hsl_s75 hi88 hR86 hR87
      refine k_iload K X79 d2_15 rfl (q := 17) rfl ?_
      refine k_iload K X79 d2_17 rfl (q := 19) rfl ?_
      refine k_icmp_ge_n K X79 d2_19 (own_s1n hi88 hv_v72) (q := 22) rfl ?_
      refine k_aloadN K X79 d2_22 rfl rfl (q := 23) rfl ?_
      refine k_iload K X79 d2_23 rfl (q := 25) rfl ?_
      refine k_iaload K X79 e81 d2_25 f84 (i := (Int32.toNatClampNeg x73)) (v := (.int (g_a1 (Int32.toNatClampNeg x73)))) ⟨((own_s1c hi88).2).1, rfl⟩ ((own_s1c hi88).2).2 rfl (q := 26) rfl ?_
      obtain ⟨v123, hv_v123⟩ : ∃ z : Int32, (g_a1 (Int32.toNatClampNeg x73)) = z := ⟨_, rfl⟩
      refine k_nameI hv_v123 ?_
      refine k_istore K X79 d2_26 rfl (Ls' := #[.val (.int p0), .val (.ref a1), .val (.ref b59), .val (.ref a1), .val (.int v72), .val (.int x73), .val (.int v123)]) (XS.store1 rfl hsl_s75 rfl) (q := 28) rfl ?_
      refine k_aloadN K X79 d2_28 rfl rfl (q := 29) rfl ?_
      refine k_iload K X79 d2_29 rfl (q := 31) rfl ?_
      refine k_iconst K X79 d2_31 (v := (1 : Int32)) rfl (q := 32) rfl ?_
      refine k_iadd K X79 d2_32 (q := 33) rfl ?_
      refine k_dup2 K X79 d2_33 rfl rfl (q := 34) rfl ?_
      refine k_iaload K X79 e81 d2_34 f85 (i := (Int32.toNatClampNeg (v123 + (1 : Int32)))) (v := (.int (x74 (Int32.toNatClampNeg (v123 + (1 : Int32)))))) ⟨(own_s1b hi88 hv_v123).1, rfl⟩ (own_s1b hi88 hv_v123).2 rfl (q := 35) rfl ?_
      obtain ⟨v124, hv_v124⟩ : ∃ z : Int32, (x74 (Int32.toNatClampNeg (v123 + (1 : Int32)))) = z := ⟨_, rfl⟩
      refine k_nameI hv_v124 ?_
      refine k_iconst K X79 d2_35 (v := (1 : Int32)) rfl (q := 36) rfl ?_
      refine k_iadd K X79 d2_36 (q := 37) rfl ?_
      obtain ⟨v125, hv_v125⟩ : ∃ z : Nat → Int32, (upd x74 (Int32.toNatClampNeg (v123 + (1 : Int32))) (v124 + (1 : Int32))) = z := ⟨_, rfl⟩
      refine k_iastore K X79 e81 d2_37 f85 (i := (Int32.toNatClampNeg (v123 + (1 : Int32)))) ⟨(own_s1b hi88 hv_v123).1, rfl⟩ (own_s1b hi88 hv_v123).2 (q := 38) rfl ?_
      intro T126 h127 X128 e129 W130 A131
      have f132 : Ary Z h127 b59 .int (Int32.toNatClampNeg (p0 + (1 : Int32))) (fun i => Value.int (v125 i)) := Ary.eqv A131 (fun k _ => by rw [← hv_v125]; show (if k = (Int32.toNatClampNeg (v123 + (1 : Int32))) then _ else _) = _; unfold upd; split <;> rfl)
      have f133 := Ary.other f84 W130 ne65
      have N134 := Fr.snoc X128 N80 ge66
      have K135 := Keep.wr K82 W130 (Or.inr bn67)
      have Z136 := Nat.le_trans Z83 (Nat.le_of_eq (Wr.size W130).symm)
      obtain ⟨v137, hv_v137⟩ : ∃ z : Int32, (x73 + (1 : Int32)) = z := ⟨_, rfl⟩
      refine k_iinc K X128 d2_38 rfl hv_v137 (Ls' := #[.val (.int p0), .val (.ref a1), .val (.ref b59), .val (.ref a1), .val (.int v72), .val (.int v137), .val (.int v123)]) rfl (q := 41) rfl ?_
      refine k_goto K X128 d2_41 (by decide) (q := 15) rfl ?_
      have hu138 : U2_15_0 p0 n_a1 g_a1 v72 x73 x74 = v137 := by first | (simp only [U2_15_0, hv_v123, hv_v124, hv_v125, hv_v137]; done) | (subst hv_v123; subst hv_v124; subst hv_v125; subst hv_v137; simp only [U2_15_0])
      have hu139 : U2_15_1 p0 n_a1 g_a1 v72 x73 x74 = v125 := by first | (simp only [U2_15_1, hv_v123, hv_v124, hv_v125, hv_v137]; done) | (subst hv_v123; subst hv_v124; subst hv_v125; subst hv_v137; simp only [U2_15_1])
      have hR86' : L2_15_0 k p0 n_a1 g_a1 v72 v137 v125 = (L2_15_0 n_a1 p0 n_a1 g_a1 v72 (0 : Int32) (fun _ => (0 : Int32))) := by
        rw [← hR86]
        show _ = L2_15_0 k p0 n_a1 g_a1 v72 (U2_15_0 p0 n_a1 g_a1 v72 x73 x74) (U2_15_1 p0 n_a1 g_a1 v72 x73 x74)
        rw [hu138, hu139]
      have hR87' : L2_15_1 k p0 n_a1 g_a1 v72 v137 v125 = (L2_15_1 n_a1 p0 n_a1 g_a1 v72 (0 : Int32) (fun _ => (0 : Int32))) := by
        rw [← hR87]
        show _ = L2_15_1 k p0 n_a1 g_a1 v72 (U2_15_0 p0 n_a1 g_a1 v72 x73 x74) (U2_15_1 p0 n_a1 g_a1 v72 x73 x74)
        rw [hu138, hu139]
      exact ih v137 v125 _ T126 _ _ X128 N134 e129 K135 Z136 f133 f132 (Or.inr ⟨_, rfl, rfl⟩) (by rw [← hv_v137]; exact (own_s1c hi88).1) hR86' hR87'
  exact LP89 n_a1 (0 : Int32) (fun _ => (0 : Int32)) _ T57 _ _ X60 N0 e61 K69 Z70 f68 f71 (Or.inl rfl) (own_s10 (ob_1)) rfl rfl
theorem own_okn1 (nc v0 : Int32) (h : nc.toInt ≤ 4) (h0 : 0 ≤ v0.toInt ∧ v0.toInt < nc.toInt) : own_okn 1 (fun i => List.getD [v0] i 0) nc := by
  refine ⟨by decide, by omega, h, fun i hi => ?_⟩
  match i, hi with
  | 0, _ => exact h0
  | (k + 1), hi => exact absurd hi (by omega)
theorem own_okn2 (nc v0 v1 : Int32) (h : nc.toInt ≤ 4) (h0 : 0 ≤ v0.toInt ∧ v0.toInt < nc.toInt) (h1 : 0 ≤ v1.toInt ∧ v1.toInt < nc.toInt) : own_okn 2 (fun i => List.getD [v0, v1] i 0) nc := by
  refine ⟨by decide, by omega, h, fun i hi => ?_⟩
  match i, hi with
  | 0, _ => exact h0
  | 1, _ => exact h1
  | (k + 2), hi => exact absurd hi (by omega)
theorem own_okn3 (nc v0 v1 v2 : Int32) (h : nc.toInt ≤ 4) (h0 : 0 ≤ v0.toInt ∧ v0.toInt < nc.toInt) (h1 : 0 ≤ v1.toInt ∧ v1.toInt < nc.toInt) (h2 : 0 ≤ v2.toInt ∧ v2.toInt < nc.toInt) : own_okn 3 (fun i => List.getD [v0, v1, v2] i 0) nc := by
  refine ⟨by decide, by omega, h, fun i hi => ?_⟩
  match i, hi with
  | 0, _ => exact h0
  | 1, _ => exact h1
  | 2, _ => exact h2
  | (k + 3), hi => exact absurd hi (by omega)
theorem own_okn4 (nc v0 v1 v2 v3 : Int32) (h : nc.toInt ≤ 4) (h0 : 0 ≤ v0.toInt ∧ v0.toInt < nc.toInt) (h1 : 0 ≤ v1.toInt ∧ v1.toInt < nc.toInt) (h2 : 0 ≤ v2.toInt ∧ v2.toInt < nc.toInt) (h3 : 0 ≤ v3.toInt ∧ v3.toInt < nc.toInt) : own_okn 4 (fun i => List.getD [v0, v1, v2, v3] i 0) nc := by
  refine ⟨by decide, by omega, h, fun i hi => ?_⟩
  match i, hi with
  | 0, _ => exact h0
  | 1, _ => exact h1
  | 2, _ => exact h2
  | 3, _ => exact h3
  | (k + 4), hi => exact absurd hi (by omega)
theorem own_5 (p : Int32) : (p &&& 2147483647) % 5 = 0 ∨ (p &&& 2147483647) % 5 = 1 ∨ (p &&& 2147483647) % 5 = 2 ∨ (p &&& 2147483647) % 5 = 3 ∨ (p &&& 2147483647) % 5 = 4 := by
  have a := (c_and p 2147483647 (by decide)).1
  have b := (c_irem (p &&& 2147483647) 5 5 rfl).1 a
  rw [own_eqI, own_eqI, own_eqI, own_eqI, own_eqI]
  have e0 : (0 : Int32).toInt = 0 := rfl
  have e1 : (1 : Int32).toInt = 1 := rfl
  have e2 : (2 : Int32).toInt = 2 := rfl
  have e3 : (3 : Int32).toInt = 3 := rfl
  have e4 : (4 : Int32).toInt = 4 := rfl
  omega
theorem own_el (p nc : Int32) (h : nc = 1 ∨ nc = 2 ∨ nc = 3 ∨ nc = 4) : 0 ≤ ((p &&& 2147483647) % F_max nc 1).toInt ∧ ((p &&& 2147483647) % F_max nc 1).toInt < nc.toInt := by
  have a := (c_and p 2147483647 (by decide)).1
  rcases h with rfl | rfl | rfl | rfl
  · have b := (c_irem (p &&& 2147483647) (F_max 1 1) 1 (by decide)).1 a
    have e : (1 : Int32).toInt = 1 := rfl
    omega
  · have b := (c_irem (p &&& 2147483647) (F_max 2 1) 2 (by decide)).1 a
    have e : (2 : Int32).toInt = 2 := rfl
    omega
  · have b := (c_irem (p &&& 2147483647) (F_max 3 1) 3 (by decide)).1 a
    have e : (3 : Int32).toInt = 3 := rfl
    omega
  · have b := (c_irem (p &&& 2147483647) (F_max 4 1) 4 (by decide)).1 a
    have e : (4 : Int32).toInt = 4 := rfl
    omega

theorem pd_1 : parseMethodDescriptor "(II)I" = some ⟨[.int, .int], some .int⟩ := by decide +kernel
theorem pd_2 : parseMethodDescriptor "(I[I)[I" = some ⟨[.int, (.array .int)], some (.array .int)⟩ := by decide +kernel
theorem pd_3 : parseMethodDescriptor "([IIIIIIII)Z" = some ⟨[(.array .int), .int, .int, .int, .int, .int, .int, .int], some .boolean⟩ := by decide +kernel
theorem ef_0 (p0 : Int32) (p1 : Int32) (p2 : Int32) (p3 : Int32) (p4 : Int32) (p5 : Int32) : ∀ m : MethodId, entryFrame m #[(.int p0), (.int p1), (.int p2), (.int p3), (.int p4), (.int p5)] maxLocals = mkF m 0 #[.val (.int p0), .val (.int p1), .val (.int p2), .val (.int p3), .val (.int p4), .val (.int p5), .unset, .unset, .unset, .unset, .unset, .unset, .unset, .unset, .unset] [] := by intro m; first | (simp [entryFrame, mkF, argsToLocals, Value.category, maxLocals]; done) | rfl
def M0_797 (v140 : Int32) (d142 : Int32) (v148 : Int32) (v149 : Int32) (v150 : Int32) (v151 : Int32) : Int32 :=
  (if (F_check v140 d142 v148 v149 v150 v151 (0 : Int32) (Int32.toNatClampNeg (v140 + (1 : Int32))) (F_starts_new0_g v140 4 (fun i => List.getD [v148, v149, v150, v151] i 0))) = (0 : Int32) then (0 : Int32) else (if (F_check v140 d142 v148 v149 v150 v151 (1 : Int32) (Int32.toNatClampNeg (v140 + (1 : Int32))) (F_starts_new0_g v140 4 (fun i => List.getD [v148, v149, v150, v151] i 0))) = (0 : Int32) then (0 : Int32) else (if (F_check v140 d142 v148 v149 v150 v151 (2 : Int32) (Int32.toNatClampNeg (v140 + (1 : Int32))) (F_starts_new0_g v140 4 (fun i => List.getD [v148, v149, v150, v151] i 0))) = (0 : Int32) then (0 : Int32) else (if (F_check v140 d142 v148 v149 v150 v151 (3 : Int32) (Int32.toNatClampNeg (v140 + (1 : Int32))) (F_starts_new0_g v140 4 (fun i => List.getD [v148, v149, v150, v151] i 0))) = (0 : Int32) then (0 : Int32) else (if (F_check v140 d142 v148 v149 v150 v151 (4 : Int32) (Int32.toNatClampNeg (v140 + (1 : Int32))) (F_starts_new0_g v140 4 (fun i => List.getD [v148, v149, v150, v151] i 0))) = (0 : Int32) then (0 : Int32) else (1 : Int32))))))
def M0_901 (v140 : Int32) (d142 : Int32) (v148 : Int32) (v149 : Int32) (v150 : Int32) (v151 : Int32) : Int32 :=
  (if (F_check v140 d142 v148 v149 v150 v151 (0 : Int32) (Int32.toNatClampNeg (v140 + (1 : Int32))) (F_starts_new0_g v140 3 (fun i => List.getD [v148, v149, v150] i 0))) = (0 : Int32) then (0 : Int32) else (if (F_check v140 d142 v148 v149 v150 v151 (1 : Int32) (Int32.toNatClampNeg (v140 + (1 : Int32))) (F_starts_new0_g v140 3 (fun i => List.getD [v148, v149, v150] i 0))) = (0 : Int32) then (0 : Int32) else (if (F_check v140 d142 v148 v149 v150 v151 (2 : Int32) (Int32.toNatClampNeg (v140 + (1 : Int32))) (F_starts_new0_g v140 3 (fun i => List.getD [v148, v149, v150] i 0))) = (0 : Int32) then (0 : Int32) else (if (F_check v140 d142 v148 v149 v150 v151 (3 : Int32) (Int32.toNatClampNeg (v140 + (1 : Int32))) (F_starts_new0_g v140 3 (fun i => List.getD [v148, v149, v150] i 0))) = (0 : Int32) then (0 : Int32) else (if (F_check v140 d142 v148 v149 v150 v151 (4 : Int32) (Int32.toNatClampNeg (v140 + (1 : Int32))) (F_starts_new0_g v140 3 (fun i => List.getD [v148, v149, v150] i 0))) = (0 : Int32) then (0 : Int32) else (1 : Int32))))))
def M0_995 (v140 : Int32) (d142 : Int32) (v148 : Int32) (v149 : Int32) (v150 : Int32) (v151 : Int32) : Int32 :=
  (if (F_check v140 d142 v148 v149 v150 v151 (0 : Int32) (Int32.toNatClampNeg (v140 + (1 : Int32))) (F_starts_new0_g v140 2 (fun i => List.getD [v148, v149] i 0))) = (0 : Int32) then (0 : Int32) else (if (F_check v140 d142 v148 v149 v150 v151 (1 : Int32) (Int32.toNatClampNeg (v140 + (1 : Int32))) (F_starts_new0_g v140 2 (fun i => List.getD [v148, v149] i 0))) = (0 : Int32) then (0 : Int32) else (if (F_check v140 d142 v148 v149 v150 v151 (2 : Int32) (Int32.toNatClampNeg (v140 + (1 : Int32))) (F_starts_new0_g v140 2 (fun i => List.getD [v148, v149] i 0))) = (0 : Int32) then (0 : Int32) else (if (F_check v140 d142 v148 v149 v150 v151 (3 : Int32) (Int32.toNatClampNeg (v140 + (1 : Int32))) (F_starts_new0_g v140 2 (fun i => List.getD [v148, v149] i 0))) = (0 : Int32) then (0 : Int32) else (if (F_check v140 d142 v148 v149 v150 v151 (4 : Int32) (Int32.toNatClampNeg (v140 + (1 : Int32))) (F_starts_new0_g v140 2 (fun i => List.getD [v148, v149] i 0))) = (0 : Int32) then (0 : Int32) else (1 : Int32))))))
def M0_1079 (v140 : Int32) (d142 : Int32) (v148 : Int32) (v149 : Int32) (v150 : Int32) (v151 : Int32) : Int32 :=
  (if (F_check v140 d142 v148 v149 v150 v151 (0 : Int32) (Int32.toNatClampNeg (v140 + (1 : Int32))) (F_starts_new0_g v140 1 (fun i => List.getD [v148] i 0))) = (0 : Int32) then (0 : Int32) else (if (F_check v140 d142 v148 v149 v150 v151 (1 : Int32) (Int32.toNatClampNeg (v140 + (1 : Int32))) (F_starts_new0_g v140 1 (fun i => List.getD [v148] i 0))) = (0 : Int32) then (0 : Int32) else (if (F_check v140 d142 v148 v149 v150 v151 (2 : Int32) (Int32.toNatClampNeg (v140 + (1 : Int32))) (F_starts_new0_g v140 1 (fun i => List.getD [v148] i 0))) = (0 : Int32) then (0 : Int32) else (if (F_check v140 d142 v148 v149 v150 v151 (3 : Int32) (Int32.toNatClampNeg (v140 + (1 : Int32))) (F_starts_new0_g v140 1 (fun i => List.getD [v148] i 0))) = (0 : Int32) then (0 : Int32) else (if (F_check v140 d142 v148 v149 v150 v151 (4 : Int32) (Int32.toNatClampNeg (v140 + (1 : Int32))) (F_starts_new0_g v140 1 (fun i => List.getD [v148] i 0))) = (0 : Int32) then (0 : Int32) else (1 : Int32))))))
def M0_1153 (v140 : Int32) (d142 : Int32) (v148 : Int32) (v149 : Int32) (v150 : Int32) (v151 : Int32) : Int32 :=
  (if (F_check v140 d142 v148 v149 v150 v151 (0 : Int32) (Int32.toNatClampNeg (v140 + (1 : Int32))) (F_starts_new0_g v140 0 (fun i => List.getD [] i 0))) = (0 : Int32) then (0 : Int32) else (if (F_check v140 d142 v148 v149 v150 v151 (1 : Int32) (Int32.toNatClampNeg (v140 + (1 : Int32))) (F_starts_new0_g v140 0 (fun i => List.getD [] i 0))) = (0 : Int32) then (0 : Int32) else (if (F_check v140 d142 v148 v149 v150 v151 (2 : Int32) (Int32.toNatClampNeg (v140 + (1 : Int32))) (F_starts_new0_g v140 0 (fun i => List.getD [] i 0))) = (0 : Int32) then (0 : Int32) else (if (F_check v140 d142 v148 v149 v150 v151 (3 : Int32) (Int32.toNatClampNeg (v140 + (1 : Int32))) (F_starts_new0_g v140 0 (fun i => List.getD [] i 0))) = (0 : Int32) then (0 : Int32) else (if (F_check v140 d142 v148 v149 v150 v151 (4 : Int32) (Int32.toNatClampNeg (v140 + (1 : Int32))) (F_starts_new0_g v140 0 (fun i => List.getD [] i 0))) = (0 : Int32) then (0 : Int32) else (1 : Int32))))))
def F_law (p0 : Int32) (p1 : Int32) (p2 : Int32) (p3 : Int32) (p4 : Int32) (p5 : Int32) : Int32 :=
  let v140 : Int32 := ((p0 &&& (2147483647 : Int32)) % (5 : Int32))
  let d142 : Int32 := (if v140 = (0 : Int32) then (0 : Int32) else ((p1 &&& (2147483647 : Int32)) % (5 : Int32)))
  let v147 : Int32 := (F_max v140 (1 : Int32))
  let v148 : Int32 := ((p2 &&& (2147483647 : Int32)) % v147)
  let v149 : Int32 := ((p3 &&& (2147483647 : Int32)) % v147)
  let v150 : Int32 := ((p4 &&& (2147483647 : Int32)) % v147)
  let v151 : Int32 := ((p5 &&& (2147483647 : Int32)) % v147)
  if d142 = (0 : Int32) then
    let d1154 : Int32 := (M0_1153 v140 d142 v148 v149 v150 v151)
    (nar .boolean d1154)
  else
    if d142 = (1 : Int32) then
      let d1080 : Int32 := (M0_1079 v140 d142 v148 v149 v150 v151)
      (nar .boolean d1080)
    else
      if d142 = (2 : Int32) then
        let d996 : Int32 := (M0_995 v140 d142 v148 v149 v150 v151)
        (nar .boolean d996)
      else
        if d142 = (3 : Int32) then
          let d902 : Int32 := (M0_901 v140 d142 v148 v149 v150 v151)
          (nar .boolean d902)
        else
          let d798 : Int32 := (M0_797 v140 d142 v148 v149 v150 v151)
          (nar .boolean d798)
theorem own_ob_0 (p0 : Int32) (p1 : Int32) (p2 : Int32) (p3 : Int32) (p4 : Int32) (p5 : Int32) : ∀ (v140 : Int32) (v147 : Int32), ((p0 &&& (2147483647 : Int32)) % (5 : Int32)) = v140 → (F_max v140 (1 : Int32)) = v147 → ¬ v147 = (0 : Int32) := by
  have h5 := own_5 p0
  intros
  subst_vars
  rcases h5 with h5 | h5 | h5 | h5 | h5 <;> rw [h5] <;> decide
theorem own_ob_1 (p0 : Int32) (p1 : Int32) (p2 : Int32) (p3 : Int32) (p4 : Int32) (p5 : Int32) : ∀ (v140 : Int32) (d142 : Int32), ((p0 &&& (2147483647 : Int32)) % (5 : Int32)) = v140 → (if v140 = (0 : Int32) then (0 : Int32) else ((p1 &&& (2147483647 : Int32)) % (5 : Int32))) = d142 → ¬ (d142 = (0 : Int32)) → ¬ (d142 = (1 : Int32)) → ¬ (d142 = (2 : Int32)) → ¬ (d142 = (3 : Int32)) → (¬ (v140 + (1 : Int32)) < (0 : Int32) ∧ (Int32.toNatClampNeg (v140 + (1 : Int32))) ≤ 5) := by
  have h5 := own_5 p0
  intros
  subst_vars
  rcases h5 with h5 | h5 | h5 | h5 | h5 <;> rw [h5] <;> decide
theorem own_ob_2 (p0 : Int32) (p1 : Int32) (p2 : Int32) (p3 : Int32) (p4 : Int32) (p5 : Int32) : ∀ (v140 : Int32) (d142 : Int32) (v147 : Int32) (v148 : Int32) (v149 : Int32) (v150 : Int32) (v151 : Int32), ((p0 &&& (2147483647 : Int32)) % (5 : Int32)) = v140 → (if v140 = (0 : Int32) then (0 : Int32) else ((p1 &&& (2147483647 : Int32)) % (5 : Int32))) = d142 → (F_max v140 (1 : Int32)) = v147 → ((p2 &&& (2147483647 : Int32)) % v147) = v148 → ((p3 &&& (2147483647 : Int32)) % v147) = v149 → ((p4 &&& (2147483647 : Int32)) % v147) = v150 → ((p5 &&& (2147483647 : Int32)) % v147) = v151 → ¬ (d142 = (0 : Int32)) → ¬ (d142 = (1 : Int32)) → ¬ (d142 = (2 : Int32)) → ¬ (d142 = (3 : Int32)) → (own_okn 4 (fun i => List.getD [v148, v149, v150, v151] i 0) v140) := by
  have h5 := own_5 p0
  have h4 : ∀ nc : Int32, (nc = 1 ∨ nc = 2 ∨ nc = 3 ∨ nc = 4) → nc.toInt ≤ 4 := by rintro nc (rfl | rfl | rfl | rfl) <;> decide
  intro v140 d142 m w0 w1 w2 w3 h0 h1 h2 k0 k1 k2 k3 c0 _c0 _c1 _c2
  have hz : ¬ v140 = 0 := fun z => by rw [if_pos z] at h1; exact c0 h1.symm
  rw [h0] at h5
  have hh := h5.resolve_left hz
  subst h2
  subst k0
  subst k1
  subst k2
  subst k3
  exact own_okn4 _ _ _ _ _ (h4 _ hh) (own_el _ _ hh) (own_el _ _ hh) (own_el _ _ hh) (own_el _ _ hh)
theorem own_ob_3 (p0 : Int32) (p1 : Int32) (p2 : Int32) (p3 : Int32) (p4 : Int32) (p5 : Int32) : ∀ (v140 : Int32) (d142 : Int32), ((p0 &&& (2147483647 : Int32)) % (5 : Int32)) = v140 → (if v140 = (0 : Int32) then (0 : Int32) else ((p1 &&& (2147483647 : Int32)) % (5 : Int32))) = d142 → ¬ (d142 = (0 : Int32)) → ¬ (d142 = (1 : Int32)) → ¬ (d142 = (2 : Int32)) → ¬ (d142 = (3 : Int32)) → (Nat.toInt32 (Int32.toNatClampNeg (v140 + (1 : Int32)))) = (v140 + (1 : Int32)) := by
  have h5 := own_5 p0
  intros
  subst_vars
  rcases h5 with h5 | h5 | h5 | h5 | h5 <;> rw [h5] <;> decide
theorem own_ob_4 (p0 : Int32) (p1 : Int32) (p2 : Int32) (p3 : Int32) (p4 : Int32) (p5 : Int32) : ∀ (v140 : Int32) (d142 : Int32), ((p0 &&& (2147483647 : Int32)) % (5 : Int32)) = v140 → (if v140 = (0 : Int32) then (0 : Int32) else ((p1 &&& (2147483647 : Int32)) % (5 : Int32))) = d142 → ¬ (d142 = (0 : Int32)) → ¬ (d142 = (1 : Int32)) → ¬ (d142 = (2 : Int32)) → ¬ (d142 = (3 : Int32)) → (¬ (v140 < (0 : Int32)) → ¬ (0 : Int32) < (0 : Int32) ∧ Int32.toNatClampNeg (0 : Int32) < (Int32.toNatClampNeg (v140 + (1 : Int32)))) := by
  have h5 := own_5 p0
  intros
  subst_vars
  have hc : ¬ ((p0 &&& 2147483647) % 5 < (0 : Int32)) := by assumption
  revert hc
  rcases h5 with h5 | h5 | h5 | h5 | h5 <;> rw [h5] <;> decide
theorem own_ob_5 (p0 : Int32) (p1 : Int32) (p2 : Int32) (p3 : Int32) (p4 : Int32) (p5 : Int32) : ∀ (v140 : Int32) (d142 : Int32), ((p0 &&& (2147483647 : Int32)) % (5 : Int32)) = v140 → (if v140 = (0 : Int32) then (0 : Int32) else ((p1 &&& (2147483647 : Int32)) % (5 : Int32))) = d142 → ¬ (d142 = (0 : Int32)) → ¬ (d142 = (1 : Int32)) → ¬ (d142 = (2 : Int32)) → ¬ (d142 = (3 : Int32)) → (¬ (v140 < (1 : Int32)) → ¬ (1 : Int32) < (0 : Int32) ∧ Int32.toNatClampNeg (1 : Int32) < (Int32.toNatClampNeg (v140 + (1 : Int32)))) := by
  have h5 := own_5 p0
  intros
  subst_vars
  have hc : ¬ ((p0 &&& 2147483647) % 5 < (1 : Int32)) := by assumption
  revert hc
  rcases h5 with h5 | h5 | h5 | h5 | h5 <;> rw [h5] <;> decide
theorem own_ob_6 (p0 : Int32) (p1 : Int32) (p2 : Int32) (p3 : Int32) (p4 : Int32) (p5 : Int32) : ∀ (v140 : Int32) (d142 : Int32), ((p0 &&& (2147483647 : Int32)) % (5 : Int32)) = v140 → (if v140 = (0 : Int32) then (0 : Int32) else ((p1 &&& (2147483647 : Int32)) % (5 : Int32))) = d142 → ¬ (d142 = (0 : Int32)) → ¬ (d142 = (1 : Int32)) → ¬ (d142 = (2 : Int32)) → ¬ (d142 = (3 : Int32)) → (¬ (v140 < (2 : Int32)) → ¬ (2 : Int32) < (0 : Int32) ∧ Int32.toNatClampNeg (2 : Int32) < (Int32.toNatClampNeg (v140 + (1 : Int32)))) := by
  have h5 := own_5 p0
  intros
  subst_vars
  have hc : ¬ ((p0 &&& 2147483647) % 5 < (2 : Int32)) := by assumption
  revert hc
  rcases h5 with h5 | h5 | h5 | h5 | h5 <;> rw [h5] <;> decide
theorem own_ob_7 (p0 : Int32) (p1 : Int32) (p2 : Int32) (p3 : Int32) (p4 : Int32) (p5 : Int32) : ∀ (v140 : Int32) (d142 : Int32), ((p0 &&& (2147483647 : Int32)) % (5 : Int32)) = v140 → (if v140 = (0 : Int32) then (0 : Int32) else ((p1 &&& (2147483647 : Int32)) % (5 : Int32))) = d142 → ¬ (d142 = (0 : Int32)) → ¬ (d142 = (1 : Int32)) → ¬ (d142 = (2 : Int32)) → ¬ (d142 = (3 : Int32)) → (¬ (v140 < (3 : Int32)) → ¬ (3 : Int32) < (0 : Int32) ∧ Int32.toNatClampNeg (3 : Int32) < (Int32.toNatClampNeg (v140 + (1 : Int32)))) := by
  have h5 := own_5 p0
  intros
  subst_vars
  have hc : ¬ ((p0 &&& 2147483647) % 5 < (3 : Int32)) := by assumption
  revert hc
  rcases h5 with h5 | h5 | h5 | h5 | h5 <;> rw [h5] <;> decide
theorem own_ob_8 (p0 : Int32) (p1 : Int32) (p2 : Int32) (p3 : Int32) (p4 : Int32) (p5 : Int32) : ∀ (v140 : Int32) (d142 : Int32), ((p0 &&& (2147483647 : Int32)) % (5 : Int32)) = v140 → (if v140 = (0 : Int32) then (0 : Int32) else ((p1 &&& (2147483647 : Int32)) % (5 : Int32))) = d142 → ¬ (d142 = (0 : Int32)) → ¬ (d142 = (1 : Int32)) → ¬ (d142 = (2 : Int32)) → ¬ (d142 = (3 : Int32)) → (¬ (v140 < (4 : Int32)) → ¬ (4 : Int32) < (0 : Int32) ∧ Int32.toNatClampNeg (4 : Int32) < (Int32.toNatClampNeg (v140 + (1 : Int32)))) := by
  have h5 := own_5 p0
  intros
  subst_vars
  have hc : ¬ ((p0 &&& 2147483647) % 5 < (4 : Int32)) := by assumption
  revert hc
  rcases h5 with h5 | h5 | h5 | h5 | h5 <;> rw [h5] <;> decide
theorem own_ob_9 (p0 : Int32) (p1 : Int32) (p2 : Int32) (p3 : Int32) (p4 : Int32) (p5 : Int32) : ∀ (v140 : Int32) (d142 : Int32), ((p0 &&& (2147483647 : Int32)) % (5 : Int32)) = v140 → (if v140 = (0 : Int32) then (0 : Int32) else ((p1 &&& (2147483647 : Int32)) % (5 : Int32))) = d142 → ¬ (d142 = (0 : Int32)) → ¬ (d142 = (1 : Int32)) → ¬ (d142 = (2 : Int32)) → d142 = (3 : Int32) → (¬ (v140 + (1 : Int32)) < (0 : Int32) ∧ (Int32.toNatClampNeg (v140 + (1 : Int32))) ≤ 5) := by
  have h5 := own_5 p0
  intros
  subst_vars
  rcases h5 with h5 | h5 | h5 | h5 | h5 <;> rw [h5] <;> decide
theorem own_ob_10 (p0 : Int32) (p1 : Int32) (p2 : Int32) (p3 : Int32) (p4 : Int32) (p5 : Int32) : ∀ (v140 : Int32) (d142 : Int32) (v147 : Int32) (v148 : Int32) (v149 : Int32) (v150 : Int32), ((p0 &&& (2147483647 : Int32)) % (5 : Int32)) = v140 → (if v140 = (0 : Int32) then (0 : Int32) else ((p1 &&& (2147483647 : Int32)) % (5 : Int32))) = d142 → (F_max v140 (1 : Int32)) = v147 → ((p2 &&& (2147483647 : Int32)) % v147) = v148 → ((p3 &&& (2147483647 : Int32)) % v147) = v149 → ((p4 &&& (2147483647 : Int32)) % v147) = v150 → ¬ (d142 = (0 : Int32)) → ¬ (d142 = (1 : Int32)) → ¬ (d142 = (2 : Int32)) → d142 = (3 : Int32) → (own_okn 3 (fun i => List.getD [v148, v149, v150] i 0) v140) := by
  have h5 := own_5 p0
  have h4 : ∀ nc : Int32, (nc = 1 ∨ nc = 2 ∨ nc = 3 ∨ nc = 4) → nc.toInt ≤ 4 := by rintro nc (rfl | rfl | rfl | rfl) <;> decide
  intro v140 d142 m w0 w1 w2 h0 h1 h2 k0 k1 k2 c0 _c0 _c1 _c2
  have hz : ¬ v140 = 0 := fun z => by rw [if_pos z] at h1; exact c0 h1.symm
  rw [h0] at h5
  have hh := h5.resolve_left hz
  subst h2
  subst k0
  subst k1
  subst k2
  exact own_okn3 _ _ _ _ (h4 _ hh) (own_el _ _ hh) (own_el _ _ hh) (own_el _ _ hh)
theorem own_ob_11 (p0 : Int32) (p1 : Int32) (p2 : Int32) (p3 : Int32) (p4 : Int32) (p5 : Int32) : ∀ (v140 : Int32) (d142 : Int32), ((p0 &&& (2147483647 : Int32)) % (5 : Int32)) = v140 → (if v140 = (0 : Int32) then (0 : Int32) else ((p1 &&& (2147483647 : Int32)) % (5 : Int32))) = d142 → ¬ (d142 = (0 : Int32)) → ¬ (d142 = (1 : Int32)) → ¬ (d142 = (2 : Int32)) → d142 = (3 : Int32) → (Nat.toInt32 (Int32.toNatClampNeg (v140 + (1 : Int32)))) = (v140 + (1 : Int32)) := by
  have h5 := own_5 p0
  intros
  subst_vars
  rcases h5 with h5 | h5 | h5 | h5 | h5 <;> rw [h5] <;> decide
theorem own_ob_12 (p0 : Int32) (p1 : Int32) (p2 : Int32) (p3 : Int32) (p4 : Int32) (p5 : Int32) : ∀ (v140 : Int32) (d142 : Int32), ((p0 &&& (2147483647 : Int32)) % (5 : Int32)) = v140 → (if v140 = (0 : Int32) then (0 : Int32) else ((p1 &&& (2147483647 : Int32)) % (5 : Int32))) = d142 → ¬ (d142 = (0 : Int32)) → ¬ (d142 = (1 : Int32)) → ¬ (d142 = (2 : Int32)) → d142 = (3 : Int32) → (¬ (v140 < (0 : Int32)) → ¬ (0 : Int32) < (0 : Int32) ∧ Int32.toNatClampNeg (0 : Int32) < (Int32.toNatClampNeg (v140 + (1 : Int32)))) := by
  have h5 := own_5 p0
  intros
  subst_vars
  have hc : ¬ ((p0 &&& 2147483647) % 5 < (0 : Int32)) := by assumption
  revert hc
  rcases h5 with h5 | h5 | h5 | h5 | h5 <;> rw [h5] <;> decide
theorem own_ob_13 (p0 : Int32) (p1 : Int32) (p2 : Int32) (p3 : Int32) (p4 : Int32) (p5 : Int32) : ∀ (v140 : Int32) (d142 : Int32), ((p0 &&& (2147483647 : Int32)) % (5 : Int32)) = v140 → (if v140 = (0 : Int32) then (0 : Int32) else ((p1 &&& (2147483647 : Int32)) % (5 : Int32))) = d142 → ¬ (d142 = (0 : Int32)) → ¬ (d142 = (1 : Int32)) → ¬ (d142 = (2 : Int32)) → d142 = (3 : Int32) → (¬ (v140 < (1 : Int32)) → ¬ (1 : Int32) < (0 : Int32) ∧ Int32.toNatClampNeg (1 : Int32) < (Int32.toNatClampNeg (v140 + (1 : Int32)))) := by
  have h5 := own_5 p0
  intros
  subst_vars
  have hc : ¬ ((p0 &&& 2147483647) % 5 < (1 : Int32)) := by assumption
  revert hc
  rcases h5 with h5 | h5 | h5 | h5 | h5 <;> rw [h5] <;> decide
theorem own_ob_14 (p0 : Int32) (p1 : Int32) (p2 : Int32) (p3 : Int32) (p4 : Int32) (p5 : Int32) : ∀ (v140 : Int32) (d142 : Int32), ((p0 &&& (2147483647 : Int32)) % (5 : Int32)) = v140 → (if v140 = (0 : Int32) then (0 : Int32) else ((p1 &&& (2147483647 : Int32)) % (5 : Int32))) = d142 → ¬ (d142 = (0 : Int32)) → ¬ (d142 = (1 : Int32)) → ¬ (d142 = (2 : Int32)) → d142 = (3 : Int32) → (¬ (v140 < (2 : Int32)) → ¬ (2 : Int32) < (0 : Int32) ∧ Int32.toNatClampNeg (2 : Int32) < (Int32.toNatClampNeg (v140 + (1 : Int32)))) := by
  have h5 := own_5 p0
  intros
  subst_vars
  have hc : ¬ ((p0 &&& 2147483647) % 5 < (2 : Int32)) := by assumption
  revert hc
  rcases h5 with h5 | h5 | h5 | h5 | h5 <;> rw [h5] <;> decide
theorem own_ob_15 (p0 : Int32) (p1 : Int32) (p2 : Int32) (p3 : Int32) (p4 : Int32) (p5 : Int32) : ∀ (v140 : Int32) (d142 : Int32), ((p0 &&& (2147483647 : Int32)) % (5 : Int32)) = v140 → (if v140 = (0 : Int32) then (0 : Int32) else ((p1 &&& (2147483647 : Int32)) % (5 : Int32))) = d142 → ¬ (d142 = (0 : Int32)) → ¬ (d142 = (1 : Int32)) → ¬ (d142 = (2 : Int32)) → d142 = (3 : Int32) → (¬ (v140 < (3 : Int32)) → ¬ (3 : Int32) < (0 : Int32) ∧ Int32.toNatClampNeg (3 : Int32) < (Int32.toNatClampNeg (v140 + (1 : Int32)))) := by
  have h5 := own_5 p0
  intros
  subst_vars
  have hc : ¬ ((p0 &&& 2147483647) % 5 < (3 : Int32)) := by assumption
  revert hc
  rcases h5 with h5 | h5 | h5 | h5 | h5 <;> rw [h5] <;> decide
theorem own_ob_16 (p0 : Int32) (p1 : Int32) (p2 : Int32) (p3 : Int32) (p4 : Int32) (p5 : Int32) : ∀ (v140 : Int32) (d142 : Int32), ((p0 &&& (2147483647 : Int32)) % (5 : Int32)) = v140 → (if v140 = (0 : Int32) then (0 : Int32) else ((p1 &&& (2147483647 : Int32)) % (5 : Int32))) = d142 → ¬ (d142 = (0 : Int32)) → ¬ (d142 = (1 : Int32)) → ¬ (d142 = (2 : Int32)) → d142 = (3 : Int32) → (¬ (v140 < (4 : Int32)) → ¬ (4 : Int32) < (0 : Int32) ∧ Int32.toNatClampNeg (4 : Int32) < (Int32.toNatClampNeg (v140 + (1 : Int32)))) := by
  have h5 := own_5 p0
  intros
  subst_vars
  have hc : ¬ ((p0 &&& 2147483647) % 5 < (4 : Int32)) := by assumption
  revert hc
  rcases h5 with h5 | h5 | h5 | h5 | h5 <;> rw [h5] <;> decide
theorem own_ob_17 (p0 : Int32) (p1 : Int32) (p2 : Int32) (p3 : Int32) (p4 : Int32) (p5 : Int32) : ∀ (v140 : Int32) (d142 : Int32), ((p0 &&& (2147483647 : Int32)) % (5 : Int32)) = v140 → (if v140 = (0 : Int32) then (0 : Int32) else ((p1 &&& (2147483647 : Int32)) % (5 : Int32))) = d142 → ¬ (d142 = (0 : Int32)) → ¬ (d142 = (1 : Int32)) → d142 = (2 : Int32) → (¬ (v140 + (1 : Int32)) < (0 : Int32) ∧ (Int32.toNatClampNeg (v140 + (1 : Int32))) ≤ 5) := by
  have h5 := own_5 p0
  intros
  subst_vars
  rcases h5 with h5 | h5 | h5 | h5 | h5 <;> rw [h5] <;> decide
theorem own_ob_18 (p0 : Int32) (p1 : Int32) (p2 : Int32) (p3 : Int32) (p4 : Int32) (p5 : Int32) : ∀ (v140 : Int32) (d142 : Int32) (v147 : Int32) (v148 : Int32) (v149 : Int32), ((p0 &&& (2147483647 : Int32)) % (5 : Int32)) = v140 → (if v140 = (0 : Int32) then (0 : Int32) else ((p1 &&& (2147483647 : Int32)) % (5 : Int32))) = d142 → (F_max v140 (1 : Int32)) = v147 → ((p2 &&& (2147483647 : Int32)) % v147) = v148 → ((p3 &&& (2147483647 : Int32)) % v147) = v149 → ¬ (d142 = (0 : Int32)) → ¬ (d142 = (1 : Int32)) → d142 = (2 : Int32) → (own_okn 2 (fun i => List.getD [v148, v149] i 0) v140) := by
  have h5 := own_5 p0
  have h4 : ∀ nc : Int32, (nc = 1 ∨ nc = 2 ∨ nc = 3 ∨ nc = 4) → nc.toInt ≤ 4 := by rintro nc (rfl | rfl | rfl | rfl) <;> decide
  intro v140 d142 m w0 w1 h0 h1 h2 k0 k1 c0 _c0 _c1
  have hz : ¬ v140 = 0 := fun z => by rw [if_pos z] at h1; exact c0 h1.symm
  rw [h0] at h5
  have hh := h5.resolve_left hz
  subst h2
  subst k0
  subst k1
  exact own_okn2 _ _ _ (h4 _ hh) (own_el _ _ hh) (own_el _ _ hh)
theorem own_ob_19 (p0 : Int32) (p1 : Int32) (p2 : Int32) (p3 : Int32) (p4 : Int32) (p5 : Int32) : ∀ (v140 : Int32) (d142 : Int32), ((p0 &&& (2147483647 : Int32)) % (5 : Int32)) = v140 → (if v140 = (0 : Int32) then (0 : Int32) else ((p1 &&& (2147483647 : Int32)) % (5 : Int32))) = d142 → ¬ (d142 = (0 : Int32)) → ¬ (d142 = (1 : Int32)) → d142 = (2 : Int32) → (Nat.toInt32 (Int32.toNatClampNeg (v140 + (1 : Int32)))) = (v140 + (1 : Int32)) := by
  have h5 := own_5 p0
  intros
  subst_vars
  rcases h5 with h5 | h5 | h5 | h5 | h5 <;> rw [h5] <;> decide
theorem own_ob_20 (p0 : Int32) (p1 : Int32) (p2 : Int32) (p3 : Int32) (p4 : Int32) (p5 : Int32) : ∀ (v140 : Int32) (d142 : Int32), ((p0 &&& (2147483647 : Int32)) % (5 : Int32)) = v140 → (if v140 = (0 : Int32) then (0 : Int32) else ((p1 &&& (2147483647 : Int32)) % (5 : Int32))) = d142 → ¬ (d142 = (0 : Int32)) → ¬ (d142 = (1 : Int32)) → d142 = (2 : Int32) → (¬ (v140 < (0 : Int32)) → ¬ (0 : Int32) < (0 : Int32) ∧ Int32.toNatClampNeg (0 : Int32) < (Int32.toNatClampNeg (v140 + (1 : Int32)))) := by
  have h5 := own_5 p0
  intros
  subst_vars
  have hc : ¬ ((p0 &&& 2147483647) % 5 < (0 : Int32)) := by assumption
  revert hc
  rcases h5 with h5 | h5 | h5 | h5 | h5 <;> rw [h5] <;> decide
theorem own_ob_21 (p0 : Int32) (p1 : Int32) (p2 : Int32) (p3 : Int32) (p4 : Int32) (p5 : Int32) : ∀ (v140 : Int32) (d142 : Int32), ((p0 &&& (2147483647 : Int32)) % (5 : Int32)) = v140 → (if v140 = (0 : Int32) then (0 : Int32) else ((p1 &&& (2147483647 : Int32)) % (5 : Int32))) = d142 → ¬ (d142 = (0 : Int32)) → ¬ (d142 = (1 : Int32)) → d142 = (2 : Int32) → (¬ (v140 < (1 : Int32)) → ¬ (1 : Int32) < (0 : Int32) ∧ Int32.toNatClampNeg (1 : Int32) < (Int32.toNatClampNeg (v140 + (1 : Int32)))) := by
  have h5 := own_5 p0
  intros
  subst_vars
  have hc : ¬ ((p0 &&& 2147483647) % 5 < (1 : Int32)) := by assumption
  revert hc
  rcases h5 with h5 | h5 | h5 | h5 | h5 <;> rw [h5] <;> decide
theorem own_ob_22 (p0 : Int32) (p1 : Int32) (p2 : Int32) (p3 : Int32) (p4 : Int32) (p5 : Int32) : ∀ (v140 : Int32) (d142 : Int32), ((p0 &&& (2147483647 : Int32)) % (5 : Int32)) = v140 → (if v140 = (0 : Int32) then (0 : Int32) else ((p1 &&& (2147483647 : Int32)) % (5 : Int32))) = d142 → ¬ (d142 = (0 : Int32)) → ¬ (d142 = (1 : Int32)) → d142 = (2 : Int32) → (¬ (v140 < (2 : Int32)) → ¬ (2 : Int32) < (0 : Int32) ∧ Int32.toNatClampNeg (2 : Int32) < (Int32.toNatClampNeg (v140 + (1 : Int32)))) := by
  have h5 := own_5 p0
  intros
  subst_vars
  have hc : ¬ ((p0 &&& 2147483647) % 5 < (2 : Int32)) := by assumption
  revert hc
  rcases h5 with h5 | h5 | h5 | h5 | h5 <;> rw [h5] <;> decide
theorem own_ob_23 (p0 : Int32) (p1 : Int32) (p2 : Int32) (p3 : Int32) (p4 : Int32) (p5 : Int32) : ∀ (v140 : Int32) (d142 : Int32), ((p0 &&& (2147483647 : Int32)) % (5 : Int32)) = v140 → (if v140 = (0 : Int32) then (0 : Int32) else ((p1 &&& (2147483647 : Int32)) % (5 : Int32))) = d142 → ¬ (d142 = (0 : Int32)) → ¬ (d142 = (1 : Int32)) → d142 = (2 : Int32) → (¬ (v140 < (3 : Int32)) → ¬ (3 : Int32) < (0 : Int32) ∧ Int32.toNatClampNeg (3 : Int32) < (Int32.toNatClampNeg (v140 + (1 : Int32)))) := by
  have h5 := own_5 p0
  intros
  subst_vars
  have hc : ¬ ((p0 &&& 2147483647) % 5 < (3 : Int32)) := by assumption
  revert hc
  rcases h5 with h5 | h5 | h5 | h5 | h5 <;> rw [h5] <;> decide
theorem own_ob_24 (p0 : Int32) (p1 : Int32) (p2 : Int32) (p3 : Int32) (p4 : Int32) (p5 : Int32) : ∀ (v140 : Int32) (d142 : Int32), ((p0 &&& (2147483647 : Int32)) % (5 : Int32)) = v140 → (if v140 = (0 : Int32) then (0 : Int32) else ((p1 &&& (2147483647 : Int32)) % (5 : Int32))) = d142 → ¬ (d142 = (0 : Int32)) → ¬ (d142 = (1 : Int32)) → d142 = (2 : Int32) → (¬ (v140 < (4 : Int32)) → ¬ (4 : Int32) < (0 : Int32) ∧ Int32.toNatClampNeg (4 : Int32) < (Int32.toNatClampNeg (v140 + (1 : Int32)))) := by
  have h5 := own_5 p0
  intros
  subst_vars
  have hc : ¬ ((p0 &&& 2147483647) % 5 < (4 : Int32)) := by assumption
  revert hc
  rcases h5 with h5 | h5 | h5 | h5 | h5 <;> rw [h5] <;> decide
theorem own_ob_25 (p0 : Int32) (p1 : Int32) (p2 : Int32) (p3 : Int32) (p4 : Int32) (p5 : Int32) : ∀ (v140 : Int32) (d142 : Int32), ((p0 &&& (2147483647 : Int32)) % (5 : Int32)) = v140 → (if v140 = (0 : Int32) then (0 : Int32) else ((p1 &&& (2147483647 : Int32)) % (5 : Int32))) = d142 → ¬ (d142 = (0 : Int32)) → d142 = (1 : Int32) → (¬ (v140 + (1 : Int32)) < (0 : Int32) ∧ (Int32.toNatClampNeg (v140 + (1 : Int32))) ≤ 5) := by
  have h5 := own_5 p0
  intros
  subst_vars
  rcases h5 with h5 | h5 | h5 | h5 | h5 <;> rw [h5] <;> decide
theorem own_ob_26 (p0 : Int32) (p1 : Int32) (p2 : Int32) (p3 : Int32) (p4 : Int32) (p5 : Int32) : ∀ (v140 : Int32) (d142 : Int32) (v147 : Int32) (v148 : Int32), ((p0 &&& (2147483647 : Int32)) % (5 : Int32)) = v140 → (if v140 = (0 : Int32) then (0 : Int32) else ((p1 &&& (2147483647 : Int32)) % (5 : Int32))) = d142 → (F_max v140 (1 : Int32)) = v147 → ((p2 &&& (2147483647 : Int32)) % v147) = v148 → ¬ (d142 = (0 : Int32)) → d142 = (1 : Int32) → (own_okn 1 (fun i => List.getD [v148] i 0) v140) := by
  have h5 := own_5 p0
  have h4 : ∀ nc : Int32, (nc = 1 ∨ nc = 2 ∨ nc = 3 ∨ nc = 4) → nc.toInt ≤ 4 := by rintro nc (rfl | rfl | rfl | rfl) <;> decide
  intro v140 d142 m w0 h0 h1 h2 k0 c0 _c0
  have hz : ¬ v140 = 0 := fun z => by rw [if_pos z] at h1; exact c0 h1.symm
  rw [h0] at h5
  have hh := h5.resolve_left hz
  subst h2
  subst k0
  exact own_okn1 _ _ (h4 _ hh) (own_el _ _ hh)
theorem own_ob_27 (p0 : Int32) (p1 : Int32) (p2 : Int32) (p3 : Int32) (p4 : Int32) (p5 : Int32) : ∀ (v140 : Int32) (d142 : Int32), ((p0 &&& (2147483647 : Int32)) % (5 : Int32)) = v140 → (if v140 = (0 : Int32) then (0 : Int32) else ((p1 &&& (2147483647 : Int32)) % (5 : Int32))) = d142 → ¬ (d142 = (0 : Int32)) → d142 = (1 : Int32) → (Nat.toInt32 (Int32.toNatClampNeg (v140 + (1 : Int32)))) = (v140 + (1 : Int32)) := by
  have h5 := own_5 p0
  intros
  subst_vars
  rcases h5 with h5 | h5 | h5 | h5 | h5 <;> rw [h5] <;> decide
theorem own_ob_28 (p0 : Int32) (p1 : Int32) (p2 : Int32) (p3 : Int32) (p4 : Int32) (p5 : Int32) : ∀ (v140 : Int32) (d142 : Int32), ((p0 &&& (2147483647 : Int32)) % (5 : Int32)) = v140 → (if v140 = (0 : Int32) then (0 : Int32) else ((p1 &&& (2147483647 : Int32)) % (5 : Int32))) = d142 → ¬ (d142 = (0 : Int32)) → d142 = (1 : Int32) → (¬ (v140 < (0 : Int32)) → ¬ (0 : Int32) < (0 : Int32) ∧ Int32.toNatClampNeg (0 : Int32) < (Int32.toNatClampNeg (v140 + (1 : Int32)))) := by
  have h5 := own_5 p0
  intros
  subst_vars
  have hc : ¬ ((p0 &&& 2147483647) % 5 < (0 : Int32)) := by assumption
  revert hc
  rcases h5 with h5 | h5 | h5 | h5 | h5 <;> rw [h5] <;> decide
theorem own_ob_29 (p0 : Int32) (p1 : Int32) (p2 : Int32) (p3 : Int32) (p4 : Int32) (p5 : Int32) : ∀ (v140 : Int32) (d142 : Int32), ((p0 &&& (2147483647 : Int32)) % (5 : Int32)) = v140 → (if v140 = (0 : Int32) then (0 : Int32) else ((p1 &&& (2147483647 : Int32)) % (5 : Int32))) = d142 → ¬ (d142 = (0 : Int32)) → d142 = (1 : Int32) → (¬ (v140 < (1 : Int32)) → ¬ (1 : Int32) < (0 : Int32) ∧ Int32.toNatClampNeg (1 : Int32) < (Int32.toNatClampNeg (v140 + (1 : Int32)))) := by
  have h5 := own_5 p0
  intros
  subst_vars
  have hc : ¬ ((p0 &&& 2147483647) % 5 < (1 : Int32)) := by assumption
  revert hc
  rcases h5 with h5 | h5 | h5 | h5 | h5 <;> rw [h5] <;> decide
theorem own_ob_30 (p0 : Int32) (p1 : Int32) (p2 : Int32) (p3 : Int32) (p4 : Int32) (p5 : Int32) : ∀ (v140 : Int32) (d142 : Int32), ((p0 &&& (2147483647 : Int32)) % (5 : Int32)) = v140 → (if v140 = (0 : Int32) then (0 : Int32) else ((p1 &&& (2147483647 : Int32)) % (5 : Int32))) = d142 → ¬ (d142 = (0 : Int32)) → d142 = (1 : Int32) → (¬ (v140 < (2 : Int32)) → ¬ (2 : Int32) < (0 : Int32) ∧ Int32.toNatClampNeg (2 : Int32) < (Int32.toNatClampNeg (v140 + (1 : Int32)))) := by
  have h5 := own_5 p0
  intros
  subst_vars
  have hc : ¬ ((p0 &&& 2147483647) % 5 < (2 : Int32)) := by assumption
  revert hc
  rcases h5 with h5 | h5 | h5 | h5 | h5 <;> rw [h5] <;> decide
theorem own_ob_31 (p0 : Int32) (p1 : Int32) (p2 : Int32) (p3 : Int32) (p4 : Int32) (p5 : Int32) : ∀ (v140 : Int32) (d142 : Int32), ((p0 &&& (2147483647 : Int32)) % (5 : Int32)) = v140 → (if v140 = (0 : Int32) then (0 : Int32) else ((p1 &&& (2147483647 : Int32)) % (5 : Int32))) = d142 → ¬ (d142 = (0 : Int32)) → d142 = (1 : Int32) → (¬ (v140 < (3 : Int32)) → ¬ (3 : Int32) < (0 : Int32) ∧ Int32.toNatClampNeg (3 : Int32) < (Int32.toNatClampNeg (v140 + (1 : Int32)))) := by
  have h5 := own_5 p0
  intros
  subst_vars
  have hc : ¬ ((p0 &&& 2147483647) % 5 < (3 : Int32)) := by assumption
  revert hc
  rcases h5 with h5 | h5 | h5 | h5 | h5 <;> rw [h5] <;> decide
theorem own_ob_32 (p0 : Int32) (p1 : Int32) (p2 : Int32) (p3 : Int32) (p4 : Int32) (p5 : Int32) : ∀ (v140 : Int32) (d142 : Int32), ((p0 &&& (2147483647 : Int32)) % (5 : Int32)) = v140 → (if v140 = (0 : Int32) then (0 : Int32) else ((p1 &&& (2147483647 : Int32)) % (5 : Int32))) = d142 → ¬ (d142 = (0 : Int32)) → d142 = (1 : Int32) → (¬ (v140 < (4 : Int32)) → ¬ (4 : Int32) < (0 : Int32) ∧ Int32.toNatClampNeg (4 : Int32) < (Int32.toNatClampNeg (v140 + (1 : Int32)))) := by
  have h5 := own_5 p0
  intros
  subst_vars
  have hc : ¬ ((p0 &&& 2147483647) % 5 < (4 : Int32)) := by assumption
  revert hc
  rcases h5 with h5 | h5 | h5 | h5 | h5 <;> rw [h5] <;> decide
theorem own_ob_33 (p0 : Int32) (p1 : Int32) (p2 : Int32) (p3 : Int32) (p4 : Int32) (p5 : Int32) : ∀ (v140 : Int32) (d142 : Int32), ((p0 &&& (2147483647 : Int32)) % (5 : Int32)) = v140 → (if v140 = (0 : Int32) then (0 : Int32) else ((p1 &&& (2147483647 : Int32)) % (5 : Int32))) = d142 → d142 = (0 : Int32) → (¬ (v140 + (1 : Int32)) < (0 : Int32) ∧ (Int32.toNatClampNeg (v140 + (1 : Int32))) ≤ 5) := by
  have h5 := own_5 p0
  intros
  subst_vars
  rcases h5 with h5 | h5 | h5 | h5 | h5 <;> rw [h5] <;> decide
theorem own_ob_34 (p0 : Int32) (p1 : Int32) (p2 : Int32) (p3 : Int32) (p4 : Int32) (p5 : Int32) : ∀ (v140 : Int32) (d142 : Int32), ((p0 &&& (2147483647 : Int32)) % (5 : Int32)) = v140 → (if v140 = (0 : Int32) then (0 : Int32) else ((p1 &&& (2147483647 : Int32)) % (5 : Int32))) = d142 → d142 = (0 : Int32) → (own_okn 0 (fun i => List.getD [] i 0) v140) := by
  have h5 := own_5 p0
  intros
  subst_vars
  rcases h5 with h5 | h5 | h5 | h5 | h5 <;> rw [h5] <;> exact ⟨by decide, by decide, by decide, fun i hi => absurd hi (Nat.not_lt_zero _)⟩
theorem own_ob_35 (p0 : Int32) (p1 : Int32) (p2 : Int32) (p3 : Int32) (p4 : Int32) (p5 : Int32) : ∀ (v140 : Int32) (d142 : Int32), ((p0 &&& (2147483647 : Int32)) % (5 : Int32)) = v140 → (if v140 = (0 : Int32) then (0 : Int32) else ((p1 &&& (2147483647 : Int32)) % (5 : Int32))) = d142 → d142 = (0 : Int32) → (Nat.toInt32 (Int32.toNatClampNeg (v140 + (1 : Int32)))) = (v140 + (1 : Int32)) := by
  have h5 := own_5 p0
  intros
  subst_vars
  rcases h5 with h5 | h5 | h5 | h5 | h5 <;> rw [h5] <;> decide
theorem own_ob_36 (p0 : Int32) (p1 : Int32) (p2 : Int32) (p3 : Int32) (p4 : Int32) (p5 : Int32) : ∀ (v140 : Int32) (d142 : Int32), ((p0 &&& (2147483647 : Int32)) % (5 : Int32)) = v140 → (if v140 = (0 : Int32) then (0 : Int32) else ((p1 &&& (2147483647 : Int32)) % (5 : Int32))) = d142 → d142 = (0 : Int32) → (¬ (v140 < (0 : Int32)) → ¬ (0 : Int32) < (0 : Int32) ∧ Int32.toNatClampNeg (0 : Int32) < (Int32.toNatClampNeg (v140 + (1 : Int32)))) := by
  have h5 := own_5 p0
  intros
  subst_vars
  have hc : ¬ ((p0 &&& 2147483647) % 5 < (0 : Int32)) := by assumption
  revert hc
  rcases h5 with h5 | h5 | h5 | h5 | h5 <;> rw [h5] <;> decide
theorem own_ob_37 (p0 : Int32) (p1 : Int32) (p2 : Int32) (p3 : Int32) (p4 : Int32) (p5 : Int32) : ∀ (v140 : Int32) (d142 : Int32), ((p0 &&& (2147483647 : Int32)) % (5 : Int32)) = v140 → (if v140 = (0 : Int32) then (0 : Int32) else ((p1 &&& (2147483647 : Int32)) % (5 : Int32))) = d142 → d142 = (0 : Int32) → (¬ (v140 < (1 : Int32)) → ¬ (1 : Int32) < (0 : Int32) ∧ Int32.toNatClampNeg (1 : Int32) < (Int32.toNatClampNeg (v140 + (1 : Int32)))) := by
  have h5 := own_5 p0
  intros
  subst_vars
  have hc : ¬ ((p0 &&& 2147483647) % 5 < (1 : Int32)) := by assumption
  revert hc
  rcases h5 with h5 | h5 | h5 | h5 | h5 <;> rw [h5] <;> decide
theorem own_ob_38 (p0 : Int32) (p1 : Int32) (p2 : Int32) (p3 : Int32) (p4 : Int32) (p5 : Int32) : ∀ (v140 : Int32) (d142 : Int32), ((p0 &&& (2147483647 : Int32)) % (5 : Int32)) = v140 → (if v140 = (0 : Int32) then (0 : Int32) else ((p1 &&& (2147483647 : Int32)) % (5 : Int32))) = d142 → d142 = (0 : Int32) → (¬ (v140 < (2 : Int32)) → ¬ (2 : Int32) < (0 : Int32) ∧ Int32.toNatClampNeg (2 : Int32) < (Int32.toNatClampNeg (v140 + (1 : Int32)))) := by
  have h5 := own_5 p0
  intros
  subst_vars
  have hc : ¬ ((p0 &&& 2147483647) % 5 < (2 : Int32)) := by assumption
  revert hc
  rcases h5 with h5 | h5 | h5 | h5 | h5 <;> rw [h5] <;> decide
theorem own_ob_39 (p0 : Int32) (p1 : Int32) (p2 : Int32) (p3 : Int32) (p4 : Int32) (p5 : Int32) : ∀ (v140 : Int32) (d142 : Int32), ((p0 &&& (2147483647 : Int32)) % (5 : Int32)) = v140 → (if v140 = (0 : Int32) then (0 : Int32) else ((p1 &&& (2147483647 : Int32)) % (5 : Int32))) = d142 → d142 = (0 : Int32) → (¬ (v140 < (3 : Int32)) → ¬ (3 : Int32) < (0 : Int32) ∧ Int32.toNatClampNeg (3 : Int32) < (Int32.toNatClampNeg (v140 + (1 : Int32)))) := by
  have h5 := own_5 p0
  intros
  subst_vars
  have hc : ¬ ((p0 &&& 2147483647) % 5 < (3 : Int32)) := by assumption
  revert hc
  rcases h5 with h5 | h5 | h5 | h5 | h5 <;> rw [h5] <;> decide
theorem own_ob_40 (p0 : Int32) (p1 : Int32) (p2 : Int32) (p3 : Int32) (p4 : Int32) (p5 : Int32) : ∀ (v140 : Int32) (d142 : Int32), ((p0 &&& (2147483647 : Int32)) % (5 : Int32)) = v140 → (if v140 = (0 : Int32) then (0 : Int32) else ((p1 &&& (2147483647 : Int32)) % (5 : Int32))) = d142 → d142 = (0 : Int32) → (¬ (v140 < (4 : Int32)) → ¬ (4 : Int32) < (0 : Int32) ∧ Int32.toNatClampNeg (4 : Int32) < (Int32.toNatClampNeg (v140 + (1 : Int32)))) := by
  have h5 := own_5 p0
  intros
  subst_vars
  have hc : ¬ ((p0 &&& 2147483647) % 5 < (4 : Int32)) := by assumption
  revert hc
  rcases h5 with h5 | h5 | h5 | h5 | h5 <;> rw [h5] <;> decide
set_option maxRecDepth 65536 in
set_option maxHeartbeats 40000000 in
theorem rm0 (l : Launch) (Z : State) (az : Array Value) (hw : ∀ d ∈ tables_1, d.before az Z = true) (ws : List Jvm.Cond) (p0 : Int32) (p1 : Int32) (p2 : Int32) (p3 : Int32) (p4 : Int32) (p5 : Int32) (h0 : Heap) (n0 : Nat) (Z0 : n0 ≤ h0.size) :
    Met l x code maxLocals ret ws room_1 Z #[(.int p0), (.int p1), (.int p2), (.int p3), (.int p4), (.int p5)] h0 (fun v h' L => v = some (Value.int (F_law p0 p1 p2 p3 p4 p5)) ∧ Fr n0 L) := by
  refine enter (plainFor_of_name pn_0) (ef_0 p0 p1 p2 p3 p4 p5) ?_
  intro p e s m below meth c T0 kc kn Q hkc hkn hQ K' X0 e0
  have K : Fx p s m meth c code 15 "com/example/muster/muster/search/GroupingStartsPinLaw" "law" (some .boolean) Z := K'
  have N0 := Fr.nil n0
  have K0 : Keep h0 h0 [] := Keep.refl _ _
  refine k_iloadN K X0 at_0 rfl (q := 1) rfl ?_
  refine k_ldc K X0 at_1 (wd hw 0 rfl) (q := 3) rfl ?_
  refine k_iand K X0 at_3 (q := 4) rfl ?_
  refine k_iconst K X0 at_4 (v := (5 : Int32)) rfl (q := 5) rfl ?_
  refine k_irem K X0 at_5 (by decide) (q := 6) rfl ?_
  obtain ⟨v140, hv_v140⟩ : ∃ z : Int32, ((p0 &&& (2147483647 : Int32)) % (5 : Int32)) = z := ⟨_, rfl⟩
  refine k_istore K X0 at_6 hv_v140 (Ls' := #[.val (.int p0), .val (.int p1), .val (.int p2), .val (.int p3), .val (.int p4), .val (.int p5), .val (.int v140), .unset, .unset, .unset, .unset, .unset, .unset, .unset, .unset]) rfl (q := 8) rfl ?_
  refine k_iload K X0 at_8 rfl (q := 10) rfl ?_
  have J143 : ∀ (d142 : Int32), (if v140 = (0 : Int32) then (0 : Int32) else ((p1 &&& (2147483647 : Int32)) % (5 : Int32))) = d142 → Run p e below s kc kn Q T0 (mkF m 23 #[.val (.int p0), .val (.int p1), .val (.int p2), .val (.int p3), .val (.int p4), .val (.int p5), .val (.int v140), .unset, .unset, .unset, .unset, .unset, .unset, .unset, .unset] [(.int d142)]) := by
    intro d142 hv_d142
    refine k_istore K X0 at_23 rfl (Ls' := #[.val (.int p0), .val (.int p1), .val (.int p2), .val (.int p3), .val (.int p4), .val (.int p5), .val (.int v140), .val (.int d142), .unset, .unset, .unset, .unset, .unset, .unset, .unset]) rfl (q := 25) rfl ?_
    refine k_iload K X0 at_25 rfl (q := 27) rfl ?_
    refine k_iconst K X0 at_27 (v := (1 : Int32)) rfl (q := 28) rfl ?_
    refine k_staticP K X0 e0 at_28 (wd hw 1 rfl) (wd hw 2 rfl) (wd hw 3 rfl) (wd hw 4 rfl) (by decide) (rm1 l Z az hw [] v140 (1 : Int32) h0) (W := 0) (by decide) (by decide) (by decide) (by decide) rfl pd_1 (argsL := [(.int v140), (.int (1 : Int32))]) (rest := []) rfl rfl rfl (Nat.le_of_eq rfl) (q := 31) rfl ?_
    intro T144 X145 e146
    obtain ⟨v147, hv_v147⟩ : ∃ z : Int32, (F_max v140 (1 : Int32)) = z := ⟨_, rfl⟩
    refine k_istore K X145 at_31 hv_v147 (Ls' := #[.val (.int p0), .val (.int p1), .val (.int p2), .val (.int p3), .val (.int p4), .val (.int p5), .val (.int v140), .val (.int d142), .val (.int v147), .unset, .unset, .unset, .unset, .unset, .unset]) rfl (q := 33) rfl ?_
    refine k_iloadN K X145 at_33 rfl (q := 34) rfl ?_
    refine k_ldc K X145 at_34 (wd hw 0 rfl) (q := 36) rfl ?_
    refine k_iand K X145 at_36 (q := 37) rfl ?_
    refine k_iload K X145 at_37 rfl (q := 39) rfl ?_
    refine k_irem K X145 at_39 (own_ob_0 p0 p1 p2 p3 p4 p5 v140 v147 hv_v140 hv_v147) (q := 40) rfl ?_
    obtain ⟨v148, hv_v148⟩ : ∃ z : Int32, ((p2 &&& (2147483647 : Int32)) % v147) = z := ⟨_, rfl⟩
    refine k_istore K X145 at_40 hv_v148 (Ls' := #[.val (.int p0), .val (.int p1), .val (.int p2), .val (.int p3), .val (.int p4), .val (.int p5), .val (.int v140), .val (.int d142), .val (.int v147), .val (.int v148), .unset, .unset, .unset, .unset, .unset]) rfl (q := 42) rfl ?_
    refine k_iloadN K X145 at_42 rfl (q := 43) rfl ?_
    refine k_ldc K X145 at_43 (wd hw 0 rfl) (q := 45) rfl ?_
    refine k_iand K X145 at_45 (q := 46) rfl ?_
    refine k_iload K X145 at_46 rfl (q := 48) rfl ?_
    refine k_irem K X145 at_48 (own_ob_0 p0 p1 p2 p3 p4 p5 v140 v147 hv_v140 hv_v147) (q := 49) rfl ?_
    obtain ⟨v149, hv_v149⟩ : ∃ z : Int32, ((p3 &&& (2147483647 : Int32)) % v147) = z := ⟨_, rfl⟩
    refine k_istore K X145 at_49 hv_v149 (Ls' := #[.val (.int p0), .val (.int p1), .val (.int p2), .val (.int p3), .val (.int p4), .val (.int p5), .val (.int v140), .val (.int d142), .val (.int v147), .val (.int v148), .val (.int v149), .unset, .unset, .unset, .unset]) rfl (q := 51) rfl ?_
    refine k_iload K X145 at_51 rfl (q := 53) rfl ?_
    refine k_ldc K X145 at_53 (wd hw 0 rfl) (q := 55) rfl ?_
    refine k_iand K X145 at_55 (q := 56) rfl ?_
    refine k_iload K X145 at_56 rfl (q := 58) rfl ?_
    refine k_irem K X145 at_58 (own_ob_0 p0 p1 p2 p3 p4 p5 v140 v147 hv_v140 hv_v147) (q := 59) rfl ?_
    obtain ⟨v150, hv_v150⟩ : ∃ z : Int32, ((p4 &&& (2147483647 : Int32)) % v147) = z := ⟨_, rfl⟩
    refine k_istore K X145 at_59 hv_v150 (Ls' := #[.val (.int p0), .val (.int p1), .val (.int p2), .val (.int p3), .val (.int p4), .val (.int p5), .val (.int v140), .val (.int d142), .val (.int v147), .val (.int v148), .val (.int v149), .val (.int v150), .unset, .unset, .unset]) rfl (q := 61) rfl ?_
    refine k_iload K X145 at_61 rfl (q := 63) rfl ?_
    refine k_ldc K X145 at_63 (wd hw 0 rfl) (q := 65) rfl ?_
    refine k_iand K X145 at_65 (q := 66) rfl ?_
    refine k_iload K X145 at_66 rfl (q := 68) rfl ?_
    refine k_irem K X145 at_68 (own_ob_0 p0 p1 p2 p3 p4 p5 v140 v147 hv_v140 hv_v147) (q := 69) rfl ?_
    obtain ⟨v151, hv_v151⟩ : ∃ z : Int32, ((p5 &&& (2147483647 : Int32)) % v147) = z := ⟨_, rfl⟩
    refine k_istore K X145 at_69 hv_v151 (Ls' := #[.val (.int p0), .val (.int p1), .val (.int p2), .val (.int p3), .val (.int p4), .val (.int p5), .val (.int v140), .val (.int d142), .val (.int v147), .val (.int v148), .val (.int v149), .val (.int v150), .val (.int v151), .unset, .unset]) rfl (q := 71) rfl ?_
    refine k_iload K X145 at_71 rfl (q := 73) rfl ?_
    refine k_if_ne K X145 at_73 (by decide) (q := 84) rfl (q' := 76) rfl ?_ ?_
    · intro hc321
      refine k_iload K X145 at_84 rfl (q := 86) rfl ?_
      refine k_iconst K X145 at_86 (v := (1 : Int32)) rfl (q := 87) rfl ?_
      refine k_icmp_ne K X145 at_87 (by decide) (q := 103) rfl (q' := 90) rfl ?_ ?_
      · intro hc477
        refine k_iload K X145 at_103 rfl (q := 105) rfl ?_
        refine k_iconst K X145 at_105 (v := (2 : Int32)) rfl (q := 106) rfl ?_
        refine k_icmp_ne K X145 at_106 (by decide) (q := 127) rfl (q' := 109) rfl ?_ ?_
        · intro hc609
          refine k_iload K X145 at_127 rfl (q := 129) rfl ?_
          refine k_iconst K X145 at_129 (v := (3 : Int32)) rfl (q := 130) rfl ?_
          refine k_icmp_ne K X145 at_130 (by decide) (q := 156) rfl (q' := 133) rfl ?_ ?_
          · intro hc707
            refine k_iconst K X145 at_156 (v := (4 : Int32)) rfl (q := 157) rfl ?_
            refine k_newarray K X145 e146 at_157 (ty := .int) rfl (wd hw 5 rfl) (n := 4) (cap := 4) (by decide) (by decide) (by decide) (by decide) (by decide) (q := 159) rfl ?_
            intro T708 h709 b710 X711 e712 g713 E714 A715 
            have ge716 : n0 ≤ b710 := Nat.le_trans Z0 (Nat.le_of_eq g713.symm)
            have bn717 : h0.size ≤ b710 := Nat.le_trans K0.1 (Nat.le_of_eq g713.symm)
            have K718 := Keep.ext K0 E714
            have Z719 := Nat.le_trans Z0 E714.1
            have f720 : Ary Z h709 b710 .int 4 (fun i => Value.int (List.getD [(0 : Int32), (0 : Int32), (0 : Int32), (0 : Int32)] i 0)) := Ary.eqv A715 (by intro i hi; match i, hi with | 0, _ => rfl | 1, _ => rfl | 2, _ => rfl | 3, _ => rfl | (k + 4), hi => exact absurd hi (by omega))
            refine k_dup K X711 at_159 rfl (q := 160) rfl ?_
            refine k_iconst K X711 at_160 (v := (0 : Int32)) rfl (q := 161) rfl ?_
            refine k_iload K X711 at_161 rfl (q := 163) rfl ?_
            refine k_iastore K X711 e712 at_163 f720 (i := 0) (by decide) (by decide) (q := 164) rfl ?_
            intro T721 h722 X723 e724 W725 A726
            have f727 : Ary Z h722 b710 .int 4 (fun i => Value.int (List.getD [v148, (0 : Int32), (0 : Int32), (0 : Int32)] i 0)) := Ary.eqv A726 (fun i _ => setD Value.int [(0 : Int32), (0 : Int32), (0 : Int32), (0 : Int32)] 0 v148 0 (Nat.le_of_ble_eq_true rfl) i)
            have N728 := Fr.snoc X723 N0 ge716
            have K729 := Keep.wr K718 W725 (Or.inr bn717)
            have Z730 := Nat.le_trans Z719 (Nat.le_of_eq (Wr.size W725).symm)
            refine k_dup K X723 at_164 rfl (q := 165) rfl ?_
            refine k_iconst K X723 at_165 (v := (1 : Int32)) rfl (q := 166) rfl ?_
            refine k_iload K X723 at_166 rfl (q := 168) rfl ?_
            refine k_iastore K X723 e724 at_168 f727 (i := 1) (by decide) (by decide) (q := 169) rfl ?_
            intro T731 h732 X733 e734 W735 A736
            have f737 : Ary Z h732 b710 .int 4 (fun i => Value.int (List.getD [v148, v149, (0 : Int32), (0 : Int32)] i 0)) := Ary.eqv A736 (fun i _ => setD Value.int [v148, (0 : Int32), (0 : Int32), (0 : Int32)] 1 v149 0 (Nat.le_of_ble_eq_true rfl) i)
            have N738 := Fr.snoc X733 N728 ge716
            have K739 := Keep.wr K729 W735 (Or.inr bn717)
            have Z740 := Nat.le_trans Z730 (Nat.le_of_eq (Wr.size W735).symm)
            refine k_dup K X733 at_169 rfl (q := 170) rfl ?_
            refine k_iconst K X733 at_170 (v := (2 : Int32)) rfl (q := 171) rfl ?_
            refine k_iload K X733 at_171 rfl (q := 173) rfl ?_
            refine k_iastore K X733 e734 at_173 f737 (i := 2) (by decide) (by decide) (q := 174) rfl ?_
            intro T741 h742 X743 e744 W745 A746
            have f747 : Ary Z h742 b710 .int 4 (fun i => Value.int (List.getD [v148, v149, v150, (0 : Int32)] i 0)) := Ary.eqv A746 (fun i _ => setD Value.int [v148, v149, (0 : Int32), (0 : Int32)] 2 v150 0 (Nat.le_of_ble_eq_true rfl) i)
            have N748 := Fr.snoc X743 N738 ge716
            have K749 := Keep.wr K739 W745 (Or.inr bn717)
            have Z750 := Nat.le_trans Z740 (Nat.le_of_eq (Wr.size W745).symm)
            refine k_dup K X743 at_174 rfl (q := 175) rfl ?_
            refine k_iconst K X743 at_175 (v := (3 : Int32)) rfl (q := 176) rfl ?_
            refine k_iload K X743 at_176 rfl (q := 178) rfl ?_
            refine k_iastore K X743 e744 at_178 f747 (i := 3) (by decide) (by decide) (q := 179) rfl ?_
            intro T751 h752 X753 e754 W755 A756
            have f757 : Ary Z h752 b710 .int 4 (fun i => Value.int (List.getD [v148, v149, v150, v151] i 0)) := Ary.eqv A756 (fun i _ => setD Value.int [v148, v149, v150, (0 : Int32)] 3 v151 0 (Nat.le_of_ble_eq_true rfl) i)
            have N758 := Fr.snoc X753 N748 ge716
            have K759 := Keep.wr K749 W755 (Or.inr bn717)
            have Z760 := Nat.le_trans Z750 (Nat.le_of_eq (Wr.size W755).symm)
            refine k_astore K X753 at_179 rfl (Ls' := #[.val (.int p0), .val (.int p1), .val (.int p2), .val (.int p3), .val (.int p4), .val (.int p5), .val (.int v140), .val (.int d142), .val (.int v147), .val (.int v148), .val (.int v149), .val (.int v150), .val (.int v151), .val (.ref b710), .unset]) rfl (q := 181) rfl ?_
            refine k_iload K X753 at_181 rfl (q := 183) rfl ?_
            refine k_aload K X753 at_183 rfl rfl (q := 185) rfl ?_
            refine k_static K X753 e754 at_185 (wd hw 6 rfl) (wd hw 7 rfl) (wd hw 8 rfl) (wd hw 9 rfl) (by decide) (rm2 l Z az hw [] v140 b710 4 (fun i => List.getD [v148, v149, v150, v151] i 0) h752 n0 Z760 f757 (own_ob_1 p0 p1 p2 p3 p4 p5 v140 d142 hv_v140 hv_d142 hc321 hc477 hc609 hc707) (own_ob_2 p0 p1 p2 p3 p4 p5 v140 d142 v147 v148 v149 v150 v151 hv_v140 hv_d142 hv_v147 hv_v148 hv_v149 hv_v150 hv_v151 hc321 hc477 hc609 hc707)) (W := 0) (by decide) (by decide) (by decide) (by decide) rfl pd_2 (argsL := [(.int v140), (.ref b710)]) (rest := []) rfl rfl rfl (Nat.le_of_eq rfl) (q := 188) rfl ?_
            rintro _ T761 L762 X763 ⟨b767, ge768, bn769, rfl, N764, K765, f770⟩
            have ne771 : b710 ≠ b767 := Nat.ne_of_lt (Nat.lt_of_lt_of_le (f757).lt bn769)
            have bn772 : h0.size ≤ b767 := Nat.le_trans K759.1 bn769
            have f773 := Ary.keep f757 K765 nin0
            have N774 := Fr.app N758 N764
            have K775 := Keep.trans K759 K765 all0
            have Z776 := Nat.le_trans Z760 K765.1
            refine k_astore K X763 at_188 rfl (Ls' := #[.val (.int p0), .val (.int p1), .val (.int p2), .val (.int p3), .val (.int p4), .val (.int p5), .val (.int v140), .val (.int d142), .val (.int v147), .val (.int v148), .val (.int v149), .val (.int v150), .val (.int v151), .val (.ref b710), .val (.ref b767)]) rfl (q := 190) rfl ?_
            refine k_aload K X763 at_190 rfl rfl (q := 192) rfl ?_
            refine k_ifnull_n K X763 at_192 (q := 195) rfl ?_
            refine k_aload K X763 at_195 rfl rfl (q := 197) rfl ?_
            refine k_arraylength K X763 rfl at_197 f770 (v := (Nat.toInt32 (Int32.toNatClampNeg (v140 + (1 : Int32))))) rfl (q := 198) rfl ?_
            refine k_iload K X763 at_198 rfl (q := 200) rfl ?_
            refine k_iconst K X763 at_200 (v := (1 : Int32)) rfl (q := 201) rfl ?_
            refine k_iadd K X763 at_201 (q := 202) rfl ?_
            refine k_icmp_eq_y K X763 at_202 (own_ob_3 p0 p1 p2 p3 p4 p5 v140 d142 hv_v140 hv_d142 hc321 hc477 hc609 hc707) (by decide) (q := 207) rfl ?_
            refine k_aload K X763 at_207 rfl rfl (q := 209) rfl ?_
            refine k_iload K X763 at_209 rfl (q := 211) rfl ?_
            refine k_iload K X763 at_211 rfl (q := 213) rfl ?_
            refine k_iload K X763 at_213 rfl (q := 215) rfl ?_
            refine k_iload K X763 at_215 rfl (q := 217) rfl ?_
            refine k_iload K X763 at_217 rfl (q := 219) rfl ?_
            refine k_iload K X763 at_219 rfl (q := 221) rfl ?_
            refine k_iconst K X763 at_221 (v := (0 : Int32)) rfl (q := 222) rfl ?_
            refine k_staticP K X763 rfl at_222 (wd hw 10 rfl) (wd hw 11 rfl) (wd hw 12 rfl) (wd hw 13 rfl) (by decide) (rm3 l Z az hw [] b767 v140 d142 v148 v149 v150 v151 (0 : Int32) (Int32.toNatClampNeg (v140 + (1 : Int32))) (F_starts_new0_g v140 4 (fun i => List.getD [v148, v149, v150, v151] i 0)) T761.heap f770 (own_ob_4 p0 p1 p2 p3 p4 p5 v140 d142 hv_v140 hv_d142 hc321 hc477 hc609 hc707)) (W := 0) (by decide) (by decide) (by decide) (by decide) rfl pd_3 (argsL := [(.ref b767), (.int v140), (.int d142), (.int v148), (.int v149), (.int v150), (.int v151), (.int (0 : Int32))]) (rest := []) rfl rfl rfl (Nat.le_of_eq rfl) (q := 225) rfl ?_
            intro T777 X778 e779
            have J799 : ∀ (T800 : State) (Lc803 : List Loc) (d798 : Int32), Stand p l e room_1 s m #[(.int p0), (.int p1), (.int p2), (.int p3), (.int p4), (.int p5)] below meth c T800 Lc803 2 9 → Fr n0 Lc803 → T800.heap = T761.heap → (M0_797 v140 d142 v148 v149 v150 v151) = d798 → Run p e below s kc kn Q T800 (mkF m 317 #[.val (.int p0), .val (.int p1), .val (.int p2), .val (.int p3), .val (.int p4), .val (.int p5), .val (.int v140), .val (.int d142), .val (.int v147), .val (.int v148), .val (.int v149), .val (.int v150), .val (.int v151), .val (.ref b710), .val (.ref b767)] [(.int d798)]) := by
              intro T800 Lc803 d798 X801 N804 e802 hv_d798
              exact k_retz K X801 e802 at_317 (Nat.le_trans (by decide) hkc) (Nat.le_trans (by decide) hkn) (hQ _ _ _ ⟨(by show some (Value.int (nar .boolean d798)) = some (Value.int (F_law p0 p1 p2 p3 p4 p5)); first | (simp only [F_law, hv_v140, hv_d142, hv_v147, hv_v148, hv_v149, hv_v150, hv_v151, hv_d798, if_neg hc321, if_neg hc477, if_neg hc609, if_neg hc707]; done) | (subst hv_v140; subst hv_d142; subst hv_v147; subst hv_v148; subst hv_v149; subst hv_v150; subst hv_v151; subst hv_d798; simp only [F_law, if_neg hc321, if_neg hc477, if_neg hc609, if_neg hc707])), N804⟩)
            refine k_if_eq K X778 at_225 (by decide) (q := 316) rfl (q' := 228) rfl ?_ ?_
            · intro hc805
              refine k_iconst K X778 at_316 (v := (0 : Int32)) rfl (q := 317) rfl ?_
              exact J799 T777 _ _ X778 N774 e779 (by first | (simp only [M0_797, if_pos hc805]; done) | rfl)
            · intro hc805
              refine k_aload K X778 at_228 rfl rfl (q := 230) rfl ?_
              refine k_iload K X778 at_230 rfl (q := 232) rfl ?_
              refine k_iload K X778 at_232 rfl (q := 234) rfl ?_
              refine k_iload K X778 at_234 rfl (q := 236) rfl ?_
              refine k_iload K X778 at_236 rfl (q := 238) rfl ?_
              refine k_iload K X778 at_238 rfl (q := 240) rfl ?_
              refine k_iload K X778 at_240 rfl (q := 242) rfl ?_
              refine k_iconst K X778 at_242 (v := (1 : Int32)) rfl (q := 243) rfl ?_
              refine k_staticP K X778 e779 at_243 (wd hw 10 rfl) (wd hw 11 rfl) (wd hw 12 rfl) (wd hw 13 rfl) (by decide) (rm3 l Z az hw [] b767 v140 d142 v148 v149 v150 v151 (1 : Int32) (Int32.toNatClampNeg (v140 + (1 : Int32))) (F_starts_new0_g v140 4 (fun i => List.getD [v148, v149, v150, v151] i 0)) T761.heap f770 (own_ob_5 p0 p1 p2 p3 p4 p5 v140 d142 hv_v140 hv_d142 hc321 hc477 hc609 hc707)) (W := 0) (by decide) (by decide) (by decide) (by decide) rfl pd_3 (argsL := [(.ref b767), (.int v140), (.int d142), (.int v148), (.int v149), (.int v150), (.int v151), (.int (1 : Int32))]) (rest := []) rfl rfl rfl (Nat.le_of_eq rfl) (q := 246) rfl ?_
              intro T806 X807 e808
              refine k_if_eq K X807 at_246 (by decide) (q := 316) rfl (q' := 249) rfl ?_ ?_
              · intro hc809
                refine k_iconst K X807 at_316 (v := (0 : Int32)) rfl (q := 317) rfl ?_
                exact J799 T806 _ _ X807 N774 e808 (by first | (simp only [M0_797, if_neg hc805, if_pos hc809]; done) | rfl)
              · intro hc809
                refine k_aload K X807 at_249 rfl rfl (q := 251) rfl ?_
                refine k_iload K X807 at_251 rfl (q := 253) rfl ?_
                refine k_iload K X807 at_253 rfl (q := 255) rfl ?_
                refine k_iload K X807 at_255 rfl (q := 257) rfl ?_
                refine k_iload K X807 at_257 rfl (q := 259) rfl ?_
                refine k_iload K X807 at_259 rfl (q := 261) rfl ?_
                refine k_iload K X807 at_261 rfl (q := 263) rfl ?_
                refine k_iconst K X807 at_263 (v := (2 : Int32)) rfl (q := 264) rfl ?_
                refine k_staticP K X807 e808 at_264 (wd hw 10 rfl) (wd hw 11 rfl) (wd hw 12 rfl) (wd hw 13 rfl) (by decide) (rm3 l Z az hw [] b767 v140 d142 v148 v149 v150 v151 (2 : Int32) (Int32.toNatClampNeg (v140 + (1 : Int32))) (F_starts_new0_g v140 4 (fun i => List.getD [v148, v149, v150, v151] i 0)) T761.heap f770 (own_ob_6 p0 p1 p2 p3 p4 p5 v140 d142 hv_v140 hv_d142 hc321 hc477 hc609 hc707)) (W := 0) (by decide) (by decide) (by decide) (by decide) rfl pd_3 (argsL := [(.ref b767), (.int v140), (.int d142), (.int v148), (.int v149), (.int v150), (.int v151), (.int (2 : Int32))]) (rest := []) rfl rfl rfl (Nat.le_of_eq rfl) (q := 267) rfl ?_
                intro T810 X811 e812
                refine k_if_eq K X811 at_267 (by decide) (q := 316) rfl (q' := 270) rfl ?_ ?_
                · intro hc813
                  refine k_iconst K X811 at_316 (v := (0 : Int32)) rfl (q := 317) rfl ?_
                  exact J799 T810 _ _ X811 N774 e812 (by first | (simp only [M0_797, if_neg hc805, if_neg hc809, if_pos hc813]; done) | rfl)
                · intro hc813
                  refine k_aload K X811 at_270 rfl rfl (q := 272) rfl ?_
                  refine k_iload K X811 at_272 rfl (q := 274) rfl ?_
                  refine k_iload K X811 at_274 rfl (q := 276) rfl ?_
                  refine k_iload K X811 at_276 rfl (q := 278) rfl ?_
                  refine k_iload K X811 at_278 rfl (q := 280) rfl ?_
                  refine k_iload K X811 at_280 rfl (q := 282) rfl ?_
                  refine k_iload K X811 at_282 rfl (q := 284) rfl ?_
                  refine k_iconst K X811 at_284 (v := (3 : Int32)) rfl (q := 285) rfl ?_
                  refine k_staticP K X811 e812 at_285 (wd hw 10 rfl) (wd hw 11 rfl) (wd hw 12 rfl) (wd hw 13 rfl) (by decide) (rm3 l Z az hw [] b767 v140 d142 v148 v149 v150 v151 (3 : Int32) (Int32.toNatClampNeg (v140 + (1 : Int32))) (F_starts_new0_g v140 4 (fun i => List.getD [v148, v149, v150, v151] i 0)) T761.heap f770 (own_ob_7 p0 p1 p2 p3 p4 p5 v140 d142 hv_v140 hv_d142 hc321 hc477 hc609 hc707)) (W := 0) (by decide) (by decide) (by decide) (by decide) rfl pd_3 (argsL := [(.ref b767), (.int v140), (.int d142), (.int v148), (.int v149), (.int v150), (.int v151), (.int (3 : Int32))]) (rest := []) rfl rfl rfl (Nat.le_of_eq rfl) (q := 288) rfl ?_
                  intro T814 X815 e816
                  refine k_if_eq K X815 at_288 (by decide) (q := 316) rfl (q' := 291) rfl ?_ ?_
                  · intro hc817
                    refine k_iconst K X815 at_316 (v := (0 : Int32)) rfl (q := 317) rfl ?_
                    exact J799 T814 _ _ X815 N774 e816 (by first | (simp only [M0_797, if_neg hc805, if_neg hc809, if_neg hc813, if_pos hc817]; done) | rfl)
                  · intro hc817
                    refine k_aload K X815 at_291 rfl rfl (q := 293) rfl ?_
                    refine k_iload K X815 at_293 rfl (q := 295) rfl ?_
                    refine k_iload K X815 at_295 rfl (q := 297) rfl ?_
                    refine k_iload K X815 at_297 rfl (q := 299) rfl ?_
                    refine k_iload K X815 at_299 rfl (q := 301) rfl ?_
                    refine k_iload K X815 at_301 rfl (q := 303) rfl ?_
                    refine k_iload K X815 at_303 rfl (q := 305) rfl ?_
                    refine k_iconst K X815 at_305 (v := (4 : Int32)) rfl (q := 306) rfl ?_
                    refine k_staticP K X815 e816 at_306 (wd hw 10 rfl) (wd hw 11 rfl) (wd hw 12 rfl) (wd hw 13 rfl) (by decide) (rm3 l Z az hw [] b767 v140 d142 v148 v149 v150 v151 (4 : Int32) (Int32.toNatClampNeg (v140 + (1 : Int32))) (F_starts_new0_g v140 4 (fun i => List.getD [v148, v149, v150, v151] i 0)) T761.heap f770 (own_ob_8 p0 p1 p2 p3 p4 p5 v140 d142 hv_v140 hv_d142 hc321 hc477 hc609 hc707)) (W := 0) (by decide) (by decide) (by decide) (by decide) rfl pd_3 (argsL := [(.ref b767), (.int v140), (.int d142), (.int v148), (.int v149), (.int v150), (.int v151), (.int (4 : Int32))]) (rest := []) rfl rfl rfl (Nat.le_of_eq rfl) (q := 309) rfl ?_
                    intro T818 X819 e820
                    refine k_if_eq K X819 at_309 (by decide) (q := 316) rfl (q' := 312) rfl ?_ ?_
                    · intro hc821
                      refine k_iconst K X819 at_316 (v := (0 : Int32)) rfl (q := 317) rfl ?_
                      exact J799 T818 _ _ X819 N774 e820 (by first | (simp only [M0_797, if_neg hc805, if_neg hc809, if_neg hc813, if_neg hc817, if_pos hc821]; done) | rfl)
                    · intro hc821
                      refine k_iconst K X819 at_312 (v := (1 : Int32)) rfl (q := 313) rfl ?_
                      refine k_goto K X819 at_313 (by decide) (q := 317) rfl ?_
                      exact J799 T818 _ _ X819 N774 e820 (by first | (simp only [M0_797, if_neg hc805, if_neg hc809, if_neg hc813, if_neg hc817, if_neg hc821]; done) | rfl)
          · intro hc707
            refine k_iconst K X145 at_133 (v := (3 : Int32)) rfl (q := 134) rfl ?_
            refine k_newarray K X145 e146 at_134 (ty := .int) rfl (wd hw 5 rfl) (n := 3) (cap := 3) (by decide) (by decide) (by decide) (by decide) (by decide) (q := 136) rfl ?_
            intro T822 h823 b824 X825 e826 g827 E828 A829 
            have ge830 : n0 ≤ b824 := Nat.le_trans Z0 (Nat.le_of_eq g827.symm)
            have bn831 : h0.size ≤ b824 := Nat.le_trans K0.1 (Nat.le_of_eq g827.symm)
            have K832 := Keep.ext K0 E828
            have Z833 := Nat.le_trans Z0 E828.1
            have f834 : Ary Z h823 b824 .int 3 (fun i => Value.int (List.getD [(0 : Int32), (0 : Int32), (0 : Int32)] i 0)) := Ary.eqv A829 (by intro i hi; match i, hi with | 0, _ => rfl | 1, _ => rfl | 2, _ => rfl | (k + 3), hi => exact absurd hi (by omega))
            refine k_dup K X825 at_136 rfl (q := 137) rfl ?_
            refine k_iconst K X825 at_137 (v := (0 : Int32)) rfl (q := 138) rfl ?_
            refine k_iload K X825 at_138 rfl (q := 140) rfl ?_
            refine k_iastore K X825 e826 at_140 f834 (i := 0) (by decide) (by decide) (q := 141) rfl ?_
            intro T835 h836 X837 e838 W839 A840
            have f841 : Ary Z h836 b824 .int 3 (fun i => Value.int (List.getD [v148, (0 : Int32), (0 : Int32)] i 0)) := Ary.eqv A840 (fun i _ => setD Value.int [(0 : Int32), (0 : Int32), (0 : Int32)] 0 v148 0 (Nat.le_of_ble_eq_true rfl) i)
            have N842 := Fr.snoc X837 N0 ge830
            have K843 := Keep.wr K832 W839 (Or.inr bn831)
            have Z844 := Nat.le_trans Z833 (Nat.le_of_eq (Wr.size W839).symm)
            refine k_dup K X837 at_141 rfl (q := 142) rfl ?_
            refine k_iconst K X837 at_142 (v := (1 : Int32)) rfl (q := 143) rfl ?_
            refine k_iload K X837 at_143 rfl (q := 145) rfl ?_
            refine k_iastore K X837 e838 at_145 f841 (i := 1) (by decide) (by decide) (q := 146) rfl ?_
            intro T845 h846 X847 e848 W849 A850
            have f851 : Ary Z h846 b824 .int 3 (fun i => Value.int (List.getD [v148, v149, (0 : Int32)] i 0)) := Ary.eqv A850 (fun i _ => setD Value.int [v148, (0 : Int32), (0 : Int32)] 1 v149 0 (Nat.le_of_ble_eq_true rfl) i)
            have N852 := Fr.snoc X847 N842 ge830
            have K853 := Keep.wr K843 W849 (Or.inr bn831)
            have Z854 := Nat.le_trans Z844 (Nat.le_of_eq (Wr.size W849).symm)
            refine k_dup K X847 at_146 rfl (q := 147) rfl ?_
            refine k_iconst K X847 at_147 (v := (2 : Int32)) rfl (q := 148) rfl ?_
            refine k_iload K X847 at_148 rfl (q := 150) rfl ?_
            refine k_iastore K X847 e848 at_150 f851 (i := 2) (by decide) (by decide) (q := 151) rfl ?_
            intro T855 h856 X857 e858 W859 A860
            have f861 : Ary Z h856 b824 .int 3 (fun i => Value.int (List.getD [v148, v149, v150] i 0)) := Ary.eqv A860 (fun i _ => setD Value.int [v148, v149, (0 : Int32)] 2 v150 0 (Nat.le_of_ble_eq_true rfl) i)
            have N862 := Fr.snoc X857 N852 ge830
            have K863 := Keep.wr K853 W859 (Or.inr bn831)
            have Z864 := Nat.le_trans Z854 (Nat.le_of_eq (Wr.size W859).symm)
            refine k_astore K X857 at_151 rfl (Ls' := #[.val (.int p0), .val (.int p1), .val (.int p2), .val (.int p3), .val (.int p4), .val (.int p5), .val (.int v140), .val (.int d142), .val (.int v147), .val (.int v148), .val (.int v149), .val (.int v150), .val (.int v151), .val (.ref b824), .unset]) rfl (q := 153) rfl ?_
            refine k_goto K X857 at_153 (by decide) (q := 181) rfl ?_
            refine k_iload K X857 at_181 rfl (q := 183) rfl ?_
            refine k_aload K X857 at_183 rfl rfl (q := 185) rfl ?_
            refine k_static K X857 e858 at_185 (wd hw 6 rfl) (wd hw 7 rfl) (wd hw 8 rfl) (wd hw 9 rfl) (by decide) (rm2 l Z az hw [] v140 b824 3 (fun i => List.getD [v148, v149, v150] i 0) h856 n0 Z864 f861 (own_ob_9 p0 p1 p2 p3 p4 p5 v140 d142 hv_v140 hv_d142 hc321 hc477 hc609 hc707) (own_ob_10 p0 p1 p2 p3 p4 p5 v140 d142 v147 v148 v149 v150 hv_v140 hv_d142 hv_v147 hv_v148 hv_v149 hv_v150 hc321 hc477 hc609 hc707)) (W := 0) (by decide) (by decide) (by decide) (by decide) rfl pd_2 (argsL := [(.int v140), (.ref b824)]) (rest := []) rfl rfl rfl (Nat.le_of_eq rfl) (q := 188) rfl ?_
            rintro _ T865 L866 X867 ⟨b871, ge872, bn873, rfl, N868, K869, f874⟩
            have ne875 : b824 ≠ b871 := Nat.ne_of_lt (Nat.lt_of_lt_of_le (f861).lt bn873)
            have bn876 : h0.size ≤ b871 := Nat.le_trans K863.1 bn873
            have f877 := Ary.keep f861 K869 nin0
            have N878 := Fr.app N862 N868
            have K879 := Keep.trans K863 K869 all0
            have Z880 := Nat.le_trans Z864 K869.1
            refine k_astore K X867 at_188 rfl (Ls' := #[.val (.int p0), .val (.int p1), .val (.int p2), .val (.int p3), .val (.int p4), .val (.int p5), .val (.int v140), .val (.int d142), .val (.int v147), .val (.int v148), .val (.int v149), .val (.int v150), .val (.int v151), .val (.ref b824), .val (.ref b871)]) rfl (q := 190) rfl ?_
            refine k_aload K X867 at_190 rfl rfl (q := 192) rfl ?_
            refine k_ifnull_n K X867 at_192 (q := 195) rfl ?_
            refine k_aload K X867 at_195 rfl rfl (q := 197) rfl ?_
            refine k_arraylength K X867 rfl at_197 f874 (v := (Nat.toInt32 (Int32.toNatClampNeg (v140 + (1 : Int32))))) rfl (q := 198) rfl ?_
            refine k_iload K X867 at_198 rfl (q := 200) rfl ?_
            refine k_iconst K X867 at_200 (v := (1 : Int32)) rfl (q := 201) rfl ?_
            refine k_iadd K X867 at_201 (q := 202) rfl ?_
            refine k_icmp_eq_y K X867 at_202 (own_ob_11 p0 p1 p2 p3 p4 p5 v140 d142 hv_v140 hv_d142 hc321 hc477 hc609 hc707) (by decide) (q := 207) rfl ?_
            refine k_aload K X867 at_207 rfl rfl (q := 209) rfl ?_
            refine k_iload K X867 at_209 rfl (q := 211) rfl ?_
            refine k_iload K X867 at_211 rfl (q := 213) rfl ?_
            refine k_iload K X867 at_213 rfl (q := 215) rfl ?_
            refine k_iload K X867 at_215 rfl (q := 217) rfl ?_
            refine k_iload K X867 at_217 rfl (q := 219) rfl ?_
            refine k_iload K X867 at_219 rfl (q := 221) rfl ?_
            refine k_iconst K X867 at_221 (v := (0 : Int32)) rfl (q := 222) rfl ?_
            refine k_staticP K X867 rfl at_222 (wd hw 10 rfl) (wd hw 11 rfl) (wd hw 12 rfl) (wd hw 13 rfl) (by decide) (rm3 l Z az hw [] b871 v140 d142 v148 v149 v150 v151 (0 : Int32) (Int32.toNatClampNeg (v140 + (1 : Int32))) (F_starts_new0_g v140 3 (fun i => List.getD [v148, v149, v150] i 0)) T865.heap f874 (own_ob_12 p0 p1 p2 p3 p4 p5 v140 d142 hv_v140 hv_d142 hc321 hc477 hc609 hc707)) (W := 0) (by decide) (by decide) (by decide) (by decide) rfl pd_3 (argsL := [(.ref b871), (.int v140), (.int d142), (.int v148), (.int v149), (.int v150), (.int v151), (.int (0 : Int32))]) (rest := []) rfl rfl rfl (Nat.le_of_eq rfl) (q := 225) rfl ?_
            intro T881 X882 e883
            have J903 : ∀ (T904 : State) (Lc907 : List Loc) (d902 : Int32), Stand p l e room_1 s m #[(.int p0), (.int p1), (.int p2), (.int p3), (.int p4), (.int p5)] below meth c T904 Lc907 2 8 → Fr n0 Lc907 → T904.heap = T865.heap → (M0_901 v140 d142 v148 v149 v150 v151) = d902 → Run p e below s kc kn Q T904 (mkF m 317 #[.val (.int p0), .val (.int p1), .val (.int p2), .val (.int p3), .val (.int p4), .val (.int p5), .val (.int v140), .val (.int d142), .val (.int v147), .val (.int v148), .val (.int v149), .val (.int v150), .val (.int v151), .val (.ref b824), .val (.ref b871)] [(.int d902)]) := by
              intro T904 Lc907 d902 X905 N908 e906 hv_d902
              exact k_retz K X905 e906 at_317 (Nat.le_trans (by decide) hkc) (Nat.le_trans (by decide) hkn) (hQ _ _ _ ⟨(by show some (Value.int (nar .boolean d902)) = some (Value.int (F_law p0 p1 p2 p3 p4 p5)); first | (simp only [F_law, hv_v140, hv_d142, hv_v147, hv_v148, hv_v149, hv_v150, hv_v151, hv_d902, if_neg hc321, if_neg hc477, if_neg hc609, if_pos hc707]; done) | (subst hv_v140; subst hv_d142; subst hv_v147; subst hv_v148; subst hv_v149; subst hv_v150; subst hv_v151; subst hv_d902; simp only [F_law, if_neg hc321, if_neg hc477, if_neg hc609, if_pos hc707])), N908⟩)
            refine k_if_eq K X882 at_225 (by decide) (q := 316) rfl (q' := 228) rfl ?_ ?_
            · intro hc909
              refine k_iconst K X882 at_316 (v := (0 : Int32)) rfl (q := 317) rfl ?_
              exact J903 T881 _ _ X882 N878 e883 (by first | (simp only [M0_797, M0_901, if_pos hc909]; done) | rfl)
            · intro hc909
              refine k_aload K X882 at_228 rfl rfl (q := 230) rfl ?_
              refine k_iload K X882 at_230 rfl (q := 232) rfl ?_
              refine k_iload K X882 at_232 rfl (q := 234) rfl ?_
              refine k_iload K X882 at_234 rfl (q := 236) rfl ?_
              refine k_iload K X882 at_236 rfl (q := 238) rfl ?_
              refine k_iload K X882 at_238 rfl (q := 240) rfl ?_
              refine k_iload K X882 at_240 rfl (q := 242) rfl ?_
              refine k_iconst K X882 at_242 (v := (1 : Int32)) rfl (q := 243) rfl ?_
              refine k_staticP K X882 e883 at_243 (wd hw 10 rfl) (wd hw 11 rfl) (wd hw 12 rfl) (wd hw 13 rfl) (by decide) (rm3 l Z az hw [] b871 v140 d142 v148 v149 v150 v151 (1 : Int32) (Int32.toNatClampNeg (v140 + (1 : Int32))) (F_starts_new0_g v140 3 (fun i => List.getD [v148, v149, v150] i 0)) T865.heap f874 (own_ob_13 p0 p1 p2 p3 p4 p5 v140 d142 hv_v140 hv_d142 hc321 hc477 hc609 hc707)) (W := 0) (by decide) (by decide) (by decide) (by decide) rfl pd_3 (argsL := [(.ref b871), (.int v140), (.int d142), (.int v148), (.int v149), (.int v150), (.int v151), (.int (1 : Int32))]) (rest := []) rfl rfl rfl (Nat.le_of_eq rfl) (q := 246) rfl ?_
              intro T910 X911 e912
              refine k_if_eq K X911 at_246 (by decide) (q := 316) rfl (q' := 249) rfl ?_ ?_
              · intro hc913
                refine k_iconst K X911 at_316 (v := (0 : Int32)) rfl (q := 317) rfl ?_
                exact J903 T910 _ _ X911 N878 e912 (by first | (simp only [M0_797, M0_901, if_neg hc909, if_pos hc913]; done) | rfl)
              · intro hc913
                refine k_aload K X911 at_249 rfl rfl (q := 251) rfl ?_
                refine k_iload K X911 at_251 rfl (q := 253) rfl ?_
                refine k_iload K X911 at_253 rfl (q := 255) rfl ?_
                refine k_iload K X911 at_255 rfl (q := 257) rfl ?_
                refine k_iload K X911 at_257 rfl (q := 259) rfl ?_
                refine k_iload K X911 at_259 rfl (q := 261) rfl ?_
                refine k_iload K X911 at_261 rfl (q := 263) rfl ?_
                refine k_iconst K X911 at_263 (v := (2 : Int32)) rfl (q := 264) rfl ?_
                refine k_staticP K X911 e912 at_264 (wd hw 10 rfl) (wd hw 11 rfl) (wd hw 12 rfl) (wd hw 13 rfl) (by decide) (rm3 l Z az hw [] b871 v140 d142 v148 v149 v150 v151 (2 : Int32) (Int32.toNatClampNeg (v140 + (1 : Int32))) (F_starts_new0_g v140 3 (fun i => List.getD [v148, v149, v150] i 0)) T865.heap f874 (own_ob_14 p0 p1 p2 p3 p4 p5 v140 d142 hv_v140 hv_d142 hc321 hc477 hc609 hc707)) (W := 0) (by decide) (by decide) (by decide) (by decide) rfl pd_3 (argsL := [(.ref b871), (.int v140), (.int d142), (.int v148), (.int v149), (.int v150), (.int v151), (.int (2 : Int32))]) (rest := []) rfl rfl rfl (Nat.le_of_eq rfl) (q := 267) rfl ?_
                intro T914 X915 e916
                refine k_if_eq K X915 at_267 (by decide) (q := 316) rfl (q' := 270) rfl ?_ ?_
                · intro hc917
                  refine k_iconst K X915 at_316 (v := (0 : Int32)) rfl (q := 317) rfl ?_
                  exact J903 T914 _ _ X915 N878 e916 (by first | (simp only [M0_797, M0_901, if_neg hc909, if_neg hc913, if_pos hc917]; done) | rfl)
                · intro hc917
                  refine k_aload K X915 at_270 rfl rfl (q := 272) rfl ?_
                  refine k_iload K X915 at_272 rfl (q := 274) rfl ?_
                  refine k_iload K X915 at_274 rfl (q := 276) rfl ?_
                  refine k_iload K X915 at_276 rfl (q := 278) rfl ?_
                  refine k_iload K X915 at_278 rfl (q := 280) rfl ?_
                  refine k_iload K X915 at_280 rfl (q := 282) rfl ?_
                  refine k_iload K X915 at_282 rfl (q := 284) rfl ?_
                  refine k_iconst K X915 at_284 (v := (3 : Int32)) rfl (q := 285) rfl ?_
                  refine k_staticP K X915 e916 at_285 (wd hw 10 rfl) (wd hw 11 rfl) (wd hw 12 rfl) (wd hw 13 rfl) (by decide) (rm3 l Z az hw [] b871 v140 d142 v148 v149 v150 v151 (3 : Int32) (Int32.toNatClampNeg (v140 + (1 : Int32))) (F_starts_new0_g v140 3 (fun i => List.getD [v148, v149, v150] i 0)) T865.heap f874 (own_ob_15 p0 p1 p2 p3 p4 p5 v140 d142 hv_v140 hv_d142 hc321 hc477 hc609 hc707)) (W := 0) (by decide) (by decide) (by decide) (by decide) rfl pd_3 (argsL := [(.ref b871), (.int v140), (.int d142), (.int v148), (.int v149), (.int v150), (.int v151), (.int (3 : Int32))]) (rest := []) rfl rfl rfl (Nat.le_of_eq rfl) (q := 288) rfl ?_
                  intro T918 X919 e920
                  refine k_if_eq K X919 at_288 (by decide) (q := 316) rfl (q' := 291) rfl ?_ ?_
                  · intro hc921
                    refine k_iconst K X919 at_316 (v := (0 : Int32)) rfl (q := 317) rfl ?_
                    exact J903 T918 _ _ X919 N878 e920 (by first | (simp only [M0_797, M0_901, if_neg hc909, if_neg hc913, if_neg hc917, if_pos hc921]; done) | rfl)
                  · intro hc921
                    refine k_aload K X919 at_291 rfl rfl (q := 293) rfl ?_
                    refine k_iload K X919 at_293 rfl (q := 295) rfl ?_
                    refine k_iload K X919 at_295 rfl (q := 297) rfl ?_
                    refine k_iload K X919 at_297 rfl (q := 299) rfl ?_
                    refine k_iload K X919 at_299 rfl (q := 301) rfl ?_
                    refine k_iload K X919 at_301 rfl (q := 303) rfl ?_
                    refine k_iload K X919 at_303 rfl (q := 305) rfl ?_
                    refine k_iconst K X919 at_305 (v := (4 : Int32)) rfl (q := 306) rfl ?_
                    refine k_staticP K X919 e920 at_306 (wd hw 10 rfl) (wd hw 11 rfl) (wd hw 12 rfl) (wd hw 13 rfl) (by decide) (rm3 l Z az hw [] b871 v140 d142 v148 v149 v150 v151 (4 : Int32) (Int32.toNatClampNeg (v140 + (1 : Int32))) (F_starts_new0_g v140 3 (fun i => List.getD [v148, v149, v150] i 0)) T865.heap f874 (own_ob_16 p0 p1 p2 p3 p4 p5 v140 d142 hv_v140 hv_d142 hc321 hc477 hc609 hc707)) (W := 0) (by decide) (by decide) (by decide) (by decide) rfl pd_3 (argsL := [(.ref b871), (.int v140), (.int d142), (.int v148), (.int v149), (.int v150), (.int v151), (.int (4 : Int32))]) (rest := []) rfl rfl rfl (Nat.le_of_eq rfl) (q := 309) rfl ?_
                    intro T922 X923 e924
                    refine k_if_eq K X923 at_309 (by decide) (q := 316) rfl (q' := 312) rfl ?_ ?_
                    · intro hc925
                      refine k_iconst K X923 at_316 (v := (0 : Int32)) rfl (q := 317) rfl ?_
                      exact J903 T922 _ _ X923 N878 e924 (by first | (simp only [M0_797, M0_901, if_neg hc909, if_neg hc913, if_neg hc917, if_neg hc921, if_pos hc925]; done) | rfl)
                    · intro hc925
                      refine k_iconst K X923 at_312 (v := (1 : Int32)) rfl (q := 313) rfl ?_
                      refine k_goto K X923 at_313 (by decide) (q := 317) rfl ?_
                      exact J903 T922 _ _ X923 N878 e924 (by first | (simp only [M0_797, M0_901, if_neg hc909, if_neg hc913, if_neg hc917, if_neg hc921, if_neg hc925]; done) | rfl)
        · intro hc609
          refine k_iconst K X145 at_109 (v := (2 : Int32)) rfl (q := 110) rfl ?_
          refine k_newarray K X145 e146 at_110 (ty := .int) rfl (wd hw 5 rfl) (n := 2) (cap := 2) (by decide) (by decide) (by decide) (by decide) (by decide) (q := 112) rfl ?_
          intro T926 h927 b928 X929 e930 g931 E932 A933 
          have ge934 : n0 ≤ b928 := Nat.le_trans Z0 (Nat.le_of_eq g931.symm)
          have bn935 : h0.size ≤ b928 := Nat.le_trans K0.1 (Nat.le_of_eq g931.symm)
          have K936 := Keep.ext K0 E932
          have Z937 := Nat.le_trans Z0 E932.1
          have f938 : Ary Z h927 b928 .int 2 (fun i => Value.int (List.getD [(0 : Int32), (0 : Int32)] i 0)) := Ary.eqv A933 (by intro i hi; match i, hi with | 0, _ => rfl | 1, _ => rfl | (k + 2), hi => exact absurd hi (by omega))
          refine k_dup K X929 at_112 rfl (q := 113) rfl ?_
          refine k_iconst K X929 at_113 (v := (0 : Int32)) rfl (q := 114) rfl ?_
          refine k_iload K X929 at_114 rfl (q := 116) rfl ?_
          refine k_iastore K X929 e930 at_116 f938 (i := 0) (by decide) (by decide) (q := 117) rfl ?_
          intro T939 h940 X941 e942 W943 A944
          have f945 : Ary Z h940 b928 .int 2 (fun i => Value.int (List.getD [v148, (0 : Int32)] i 0)) := Ary.eqv A944 (fun i _ => setD Value.int [(0 : Int32), (0 : Int32)] 0 v148 0 (Nat.le_of_ble_eq_true rfl) i)
          have N946 := Fr.snoc X941 N0 ge934
          have K947 := Keep.wr K936 W943 (Or.inr bn935)
          have Z948 := Nat.le_trans Z937 (Nat.le_of_eq (Wr.size W943).symm)
          refine k_dup K X941 at_117 rfl (q := 118) rfl ?_
          refine k_iconst K X941 at_118 (v := (1 : Int32)) rfl (q := 119) rfl ?_
          refine k_iload K X941 at_119 rfl (q := 121) rfl ?_
          refine k_iastore K X941 e942 at_121 f945 (i := 1) (by decide) (by decide) (q := 122) rfl ?_
          intro T949 h950 X951 e952 W953 A954
          have f955 : Ary Z h950 b928 .int 2 (fun i => Value.int (List.getD [v148, v149] i 0)) := Ary.eqv A954 (fun i _ => setD Value.int [v148, (0 : Int32)] 1 v149 0 (Nat.le_of_ble_eq_true rfl) i)
          have N956 := Fr.snoc X951 N946 ge934
          have K957 := Keep.wr K947 W953 (Or.inr bn935)
          have Z958 := Nat.le_trans Z948 (Nat.le_of_eq (Wr.size W953).symm)
          refine k_astore K X951 at_122 rfl (Ls' := #[.val (.int p0), .val (.int p1), .val (.int p2), .val (.int p3), .val (.int p4), .val (.int p5), .val (.int v140), .val (.int d142), .val (.int v147), .val (.int v148), .val (.int v149), .val (.int v150), .val (.int v151), .val (.ref b928), .unset]) rfl (q := 124) rfl ?_
          refine k_goto K X951 at_124 (by decide) (q := 181) rfl ?_
          refine k_iload K X951 at_181 rfl (q := 183) rfl ?_
          refine k_aload K X951 at_183 rfl rfl (q := 185) rfl ?_
          refine k_static K X951 e952 at_185 (wd hw 6 rfl) (wd hw 7 rfl) (wd hw 8 rfl) (wd hw 9 rfl) (by decide) (rm2 l Z az hw [] v140 b928 2 (fun i => List.getD [v148, v149] i 0) h950 n0 Z958 f955 (own_ob_17 p0 p1 p2 p3 p4 p5 v140 d142 hv_v140 hv_d142 hc321 hc477 hc609) (own_ob_18 p0 p1 p2 p3 p4 p5 v140 d142 v147 v148 v149 hv_v140 hv_d142 hv_v147 hv_v148 hv_v149 hc321 hc477 hc609)) (W := 0) (by decide) (by decide) (by decide) (by decide) rfl pd_2 (argsL := [(.int v140), (.ref b928)]) (rest := []) rfl rfl rfl (Nat.le_of_eq rfl) (q := 188) rfl ?_
          rintro _ T959 L960 X961 ⟨b965, ge966, bn967, rfl, N962, K963, f968⟩
          have ne969 : b928 ≠ b965 := Nat.ne_of_lt (Nat.lt_of_lt_of_le (f955).lt bn967)
          have bn970 : h0.size ≤ b965 := Nat.le_trans K957.1 bn967
          have f971 := Ary.keep f955 K963 nin0
          have N972 := Fr.app N956 N962
          have K973 := Keep.trans K957 K963 all0
          have Z974 := Nat.le_trans Z958 K963.1
          refine k_astore K X961 at_188 rfl (Ls' := #[.val (.int p0), .val (.int p1), .val (.int p2), .val (.int p3), .val (.int p4), .val (.int p5), .val (.int v140), .val (.int d142), .val (.int v147), .val (.int v148), .val (.int v149), .val (.int v150), .val (.int v151), .val (.ref b928), .val (.ref b965)]) rfl (q := 190) rfl ?_
          refine k_aload K X961 at_190 rfl rfl (q := 192) rfl ?_
          refine k_ifnull_n K X961 at_192 (q := 195) rfl ?_
          refine k_aload K X961 at_195 rfl rfl (q := 197) rfl ?_
          refine k_arraylength K X961 rfl at_197 f968 (v := (Nat.toInt32 (Int32.toNatClampNeg (v140 + (1 : Int32))))) rfl (q := 198) rfl ?_
          refine k_iload K X961 at_198 rfl (q := 200) rfl ?_
          refine k_iconst K X961 at_200 (v := (1 : Int32)) rfl (q := 201) rfl ?_
          refine k_iadd K X961 at_201 (q := 202) rfl ?_
          refine k_icmp_eq_y K X961 at_202 (own_ob_19 p0 p1 p2 p3 p4 p5 v140 d142 hv_v140 hv_d142 hc321 hc477 hc609) (by decide) (q := 207) rfl ?_
          refine k_aload K X961 at_207 rfl rfl (q := 209) rfl ?_
          refine k_iload K X961 at_209 rfl (q := 211) rfl ?_
          refine k_iload K X961 at_211 rfl (q := 213) rfl ?_
          refine k_iload K X961 at_213 rfl (q := 215) rfl ?_
          refine k_iload K X961 at_215 rfl (q := 217) rfl ?_
          refine k_iload K X961 at_217 rfl (q := 219) rfl ?_
          refine k_iload K X961 at_219 rfl (q := 221) rfl ?_
          refine k_iconst K X961 at_221 (v := (0 : Int32)) rfl (q := 222) rfl ?_
          refine k_staticP K X961 rfl at_222 (wd hw 10 rfl) (wd hw 11 rfl) (wd hw 12 rfl) (wd hw 13 rfl) (by decide) (rm3 l Z az hw [] b965 v140 d142 v148 v149 v150 v151 (0 : Int32) (Int32.toNatClampNeg (v140 + (1 : Int32))) (F_starts_new0_g v140 2 (fun i => List.getD [v148, v149] i 0)) T959.heap f968 (own_ob_20 p0 p1 p2 p3 p4 p5 v140 d142 hv_v140 hv_d142 hc321 hc477 hc609)) (W := 0) (by decide) (by decide) (by decide) (by decide) rfl pd_3 (argsL := [(.ref b965), (.int v140), (.int d142), (.int v148), (.int v149), (.int v150), (.int v151), (.int (0 : Int32))]) (rest := []) rfl rfl rfl (Nat.le_of_eq rfl) (q := 225) rfl ?_
          intro T975 X976 e977
          have J997 : ∀ (T998 : State) (Lc1001 : List Loc) (d996 : Int32), Stand p l e room_1 s m #[(.int p0), (.int p1), (.int p2), (.int p3), (.int p4), (.int p5)] below meth c T998 Lc1001 2 7 → Fr n0 Lc1001 → T998.heap = T959.heap → (M0_995 v140 d142 v148 v149 v150 v151) = d996 → Run p e below s kc kn Q T998 (mkF m 317 #[.val (.int p0), .val (.int p1), .val (.int p2), .val (.int p3), .val (.int p4), .val (.int p5), .val (.int v140), .val (.int d142), .val (.int v147), .val (.int v148), .val (.int v149), .val (.int v150), .val (.int v151), .val (.ref b928), .val (.ref b965)] [(.int d996)]) := by
            intro T998 Lc1001 d996 X999 N1002 e1000 hv_d996
            exact k_retz K X999 e1000 at_317 (Nat.le_trans (by decide) hkc) (Nat.le_trans (by decide) hkn) (hQ _ _ _ ⟨(by show some (Value.int (nar .boolean d996)) = some (Value.int (F_law p0 p1 p2 p3 p4 p5)); first | (simp only [F_law, hv_v140, hv_d142, hv_v147, hv_v148, hv_v149, hv_v150, hv_v151, hv_d996, if_neg hc321, if_neg hc477, if_pos hc609]; done) | (subst hv_v140; subst hv_d142; subst hv_v147; subst hv_v148; subst hv_v149; subst hv_v150; subst hv_v151; subst hv_d996; simp only [F_law, if_neg hc321, if_neg hc477, if_pos hc609])), N1002⟩)
          refine k_if_eq K X976 at_225 (by decide) (q := 316) rfl (q' := 228) rfl ?_ ?_
          · intro hc1003
            refine k_iconst K X976 at_316 (v := (0 : Int32)) rfl (q := 317) rfl ?_
            exact J997 T975 _ _ X976 N972 e977 (by first | (simp only [M0_797, M0_901, M0_995, if_pos hc1003]; done) | rfl)
          · intro hc1003
            refine k_aload K X976 at_228 rfl rfl (q := 230) rfl ?_
            refine k_iload K X976 at_230 rfl (q := 232) rfl ?_
            refine k_iload K X976 at_232 rfl (q := 234) rfl ?_
            refine k_iload K X976 at_234 rfl (q := 236) rfl ?_
            refine k_iload K X976 at_236 rfl (q := 238) rfl ?_
            refine k_iload K X976 at_238 rfl (q := 240) rfl ?_
            refine k_iload K X976 at_240 rfl (q := 242) rfl ?_
            refine k_iconst K X976 at_242 (v := (1 : Int32)) rfl (q := 243) rfl ?_
            refine k_staticP K X976 e977 at_243 (wd hw 10 rfl) (wd hw 11 rfl) (wd hw 12 rfl) (wd hw 13 rfl) (by decide) (rm3 l Z az hw [] b965 v140 d142 v148 v149 v150 v151 (1 : Int32) (Int32.toNatClampNeg (v140 + (1 : Int32))) (F_starts_new0_g v140 2 (fun i => List.getD [v148, v149] i 0)) T959.heap f968 (own_ob_21 p0 p1 p2 p3 p4 p5 v140 d142 hv_v140 hv_d142 hc321 hc477 hc609)) (W := 0) (by decide) (by decide) (by decide) (by decide) rfl pd_3 (argsL := [(.ref b965), (.int v140), (.int d142), (.int v148), (.int v149), (.int v150), (.int v151), (.int (1 : Int32))]) (rest := []) rfl rfl rfl (Nat.le_of_eq rfl) (q := 246) rfl ?_
            intro T1004 X1005 e1006
            refine k_if_eq K X1005 at_246 (by decide) (q := 316) rfl (q' := 249) rfl ?_ ?_
            · intro hc1007
              refine k_iconst K X1005 at_316 (v := (0 : Int32)) rfl (q := 317) rfl ?_
              exact J997 T1004 _ _ X1005 N972 e1006 (by first | (simp only [M0_797, M0_901, M0_995, if_neg hc1003, if_pos hc1007]; done) | rfl)
            · intro hc1007
              refine k_aload K X1005 at_249 rfl rfl (q := 251) rfl ?_
              refine k_iload K X1005 at_251 rfl (q := 253) rfl ?_
              refine k_iload K X1005 at_253 rfl (q := 255) rfl ?_
              refine k_iload K X1005 at_255 rfl (q := 257) rfl ?_
              refine k_iload K X1005 at_257 rfl (q := 259) rfl ?_
              refine k_iload K X1005 at_259 rfl (q := 261) rfl ?_
              refine k_iload K X1005 at_261 rfl (q := 263) rfl ?_
              refine k_iconst K X1005 at_263 (v := (2 : Int32)) rfl (q := 264) rfl ?_
              refine k_staticP K X1005 e1006 at_264 (wd hw 10 rfl) (wd hw 11 rfl) (wd hw 12 rfl) (wd hw 13 rfl) (by decide) (rm3 l Z az hw [] b965 v140 d142 v148 v149 v150 v151 (2 : Int32) (Int32.toNatClampNeg (v140 + (1 : Int32))) (F_starts_new0_g v140 2 (fun i => List.getD [v148, v149] i 0)) T959.heap f968 (own_ob_22 p0 p1 p2 p3 p4 p5 v140 d142 hv_v140 hv_d142 hc321 hc477 hc609)) (W := 0) (by decide) (by decide) (by decide) (by decide) rfl pd_3 (argsL := [(.ref b965), (.int v140), (.int d142), (.int v148), (.int v149), (.int v150), (.int v151), (.int (2 : Int32))]) (rest := []) rfl rfl rfl (Nat.le_of_eq rfl) (q := 267) rfl ?_
              intro T1008 X1009 e1010
              refine k_if_eq K X1009 at_267 (by decide) (q := 316) rfl (q' := 270) rfl ?_ ?_
              · intro hc1011
                refine k_iconst K X1009 at_316 (v := (0 : Int32)) rfl (q := 317) rfl ?_
                exact J997 T1008 _ _ X1009 N972 e1010 (by first | (simp only [M0_797, M0_901, M0_995, if_neg hc1003, if_neg hc1007, if_pos hc1011]; done) | rfl)
              · intro hc1011
                refine k_aload K X1009 at_270 rfl rfl (q := 272) rfl ?_
                refine k_iload K X1009 at_272 rfl (q := 274) rfl ?_
                refine k_iload K X1009 at_274 rfl (q := 276) rfl ?_
                refine k_iload K X1009 at_276 rfl (q := 278) rfl ?_
                refine k_iload K X1009 at_278 rfl (q := 280) rfl ?_
                refine k_iload K X1009 at_280 rfl (q := 282) rfl ?_
                refine k_iload K X1009 at_282 rfl (q := 284) rfl ?_
                refine k_iconst K X1009 at_284 (v := (3 : Int32)) rfl (q := 285) rfl ?_
                refine k_staticP K X1009 e1010 at_285 (wd hw 10 rfl) (wd hw 11 rfl) (wd hw 12 rfl) (wd hw 13 rfl) (by decide) (rm3 l Z az hw [] b965 v140 d142 v148 v149 v150 v151 (3 : Int32) (Int32.toNatClampNeg (v140 + (1 : Int32))) (F_starts_new0_g v140 2 (fun i => List.getD [v148, v149] i 0)) T959.heap f968 (own_ob_23 p0 p1 p2 p3 p4 p5 v140 d142 hv_v140 hv_d142 hc321 hc477 hc609)) (W := 0) (by decide) (by decide) (by decide) (by decide) rfl pd_3 (argsL := [(.ref b965), (.int v140), (.int d142), (.int v148), (.int v149), (.int v150), (.int v151), (.int (3 : Int32))]) (rest := []) rfl rfl rfl (Nat.le_of_eq rfl) (q := 288) rfl ?_
                intro T1012 X1013 e1014
                refine k_if_eq K X1013 at_288 (by decide) (q := 316) rfl (q' := 291) rfl ?_ ?_
                · intro hc1015
                  refine k_iconst K X1013 at_316 (v := (0 : Int32)) rfl (q := 317) rfl ?_
                  exact J997 T1012 _ _ X1013 N972 e1014 (by first | (simp only [M0_797, M0_901, M0_995, if_neg hc1003, if_neg hc1007, if_neg hc1011, if_pos hc1015]; done) | rfl)
                · intro hc1015
                  refine k_aload K X1013 at_291 rfl rfl (q := 293) rfl ?_
                  refine k_iload K X1013 at_293 rfl (q := 295) rfl ?_
                  refine k_iload K X1013 at_295 rfl (q := 297) rfl ?_
                  refine k_iload K X1013 at_297 rfl (q := 299) rfl ?_
                  refine k_iload K X1013 at_299 rfl (q := 301) rfl ?_
                  refine k_iload K X1013 at_301 rfl (q := 303) rfl ?_
                  refine k_iload K X1013 at_303 rfl (q := 305) rfl ?_
                  refine k_iconst K X1013 at_305 (v := (4 : Int32)) rfl (q := 306) rfl ?_
                  refine k_staticP K X1013 e1014 at_306 (wd hw 10 rfl) (wd hw 11 rfl) (wd hw 12 rfl) (wd hw 13 rfl) (by decide) (rm3 l Z az hw [] b965 v140 d142 v148 v149 v150 v151 (4 : Int32) (Int32.toNatClampNeg (v140 + (1 : Int32))) (F_starts_new0_g v140 2 (fun i => List.getD [v148, v149] i 0)) T959.heap f968 (own_ob_24 p0 p1 p2 p3 p4 p5 v140 d142 hv_v140 hv_d142 hc321 hc477 hc609)) (W := 0) (by decide) (by decide) (by decide) (by decide) rfl pd_3 (argsL := [(.ref b965), (.int v140), (.int d142), (.int v148), (.int v149), (.int v150), (.int v151), (.int (4 : Int32))]) (rest := []) rfl rfl rfl (Nat.le_of_eq rfl) (q := 309) rfl ?_
                  intro T1016 X1017 e1018
                  refine k_if_eq K X1017 at_309 (by decide) (q := 316) rfl (q' := 312) rfl ?_ ?_
                  · intro hc1019
                    refine k_iconst K X1017 at_316 (v := (0 : Int32)) rfl (q := 317) rfl ?_
                    exact J997 T1016 _ _ X1017 N972 e1018 (by first | (simp only [M0_797, M0_901, M0_995, if_neg hc1003, if_neg hc1007, if_neg hc1011, if_neg hc1015, if_pos hc1019]; done) | rfl)
                  · intro hc1019
                    refine k_iconst K X1017 at_312 (v := (1 : Int32)) rfl (q := 313) rfl ?_
                    refine k_goto K X1017 at_313 (by decide) (q := 317) rfl ?_
                    exact J997 T1016 _ _ X1017 N972 e1018 (by first | (simp only [M0_797, M0_901, M0_995, if_neg hc1003, if_neg hc1007, if_neg hc1011, if_neg hc1015, if_neg hc1019]; done) | rfl)
      · intro hc477
        refine k_iconst K X145 at_90 (v := (1 : Int32)) rfl (q := 91) rfl ?_
        refine k_newarray K X145 e146 at_91 (ty := .int) rfl (wd hw 5 rfl) (n := 1) (cap := 1) (by decide) (by decide) (by decide) (by decide) (by decide) (q := 93) rfl ?_
        intro T1020 h1021 b1022 X1023 e1024 g1025 E1026 A1027 
        have ge1028 : n0 ≤ b1022 := Nat.le_trans Z0 (Nat.le_of_eq g1025.symm)
        have bn1029 : h0.size ≤ b1022 := Nat.le_trans K0.1 (Nat.le_of_eq g1025.symm)
        have K1030 := Keep.ext K0 E1026
        have Z1031 := Nat.le_trans Z0 E1026.1
        have f1032 : Ary Z h1021 b1022 .int 1 (fun i => Value.int (List.getD [(0 : Int32)] i 0)) := Ary.eqv A1027 (by intro i hi; match i, hi with | 0, _ => rfl | (k + 1), hi => exact absurd hi (by omega))
        refine k_dup K X1023 at_93 rfl (q := 94) rfl ?_
        refine k_iconst K X1023 at_94 (v := (0 : Int32)) rfl (q := 95) rfl ?_
        refine k_iload K X1023 at_95 rfl (q := 97) rfl ?_
        refine k_iastore K X1023 e1024 at_97 f1032 (i := 0) (by decide) (by decide) (q := 98) rfl ?_
        intro T1033 h1034 X1035 e1036 W1037 A1038
        have f1039 : Ary Z h1034 b1022 .int 1 (fun i => Value.int (List.getD [v148] i 0)) := Ary.eqv A1038 (fun i _ => setD Value.int [(0 : Int32)] 0 v148 0 (Nat.le_of_ble_eq_true rfl) i)
        have N1040 := Fr.snoc X1035 N0 ge1028
        have K1041 := Keep.wr K1030 W1037 (Or.inr bn1029)
        have Z1042 := Nat.le_trans Z1031 (Nat.le_of_eq (Wr.size W1037).symm)
        refine k_astore K X1035 at_98 rfl (Ls' := #[.val (.int p0), .val (.int p1), .val (.int p2), .val (.int p3), .val (.int p4), .val (.int p5), .val (.int v140), .val (.int d142), .val (.int v147), .val (.int v148), .val (.int v149), .val (.int v150), .val (.int v151), .val (.ref b1022), .unset]) rfl (q := 100) rfl ?_
        refine k_goto K X1035 at_100 (by decide) (q := 181) rfl ?_
        refine k_iload K X1035 at_181 rfl (q := 183) rfl ?_
        refine k_aload K X1035 at_183 rfl rfl (q := 185) rfl ?_
        refine k_static K X1035 e1036 at_185 (wd hw 6 rfl) (wd hw 7 rfl) (wd hw 8 rfl) (wd hw 9 rfl) (by decide) (rm2 l Z az hw [] v140 b1022 1 (fun i => List.getD [v148] i 0) h1034 n0 Z1042 f1039 (own_ob_25 p0 p1 p2 p3 p4 p5 v140 d142 hv_v140 hv_d142 hc321 hc477) (own_ob_26 p0 p1 p2 p3 p4 p5 v140 d142 v147 v148 hv_v140 hv_d142 hv_v147 hv_v148 hc321 hc477)) (W := 0) (by decide) (by decide) (by decide) (by decide) rfl pd_2 (argsL := [(.int v140), (.ref b1022)]) (rest := []) rfl rfl rfl (Nat.le_of_eq rfl) (q := 188) rfl ?_
        rintro _ T1043 L1044 X1045 ⟨b1049, ge1050, bn1051, rfl, N1046, K1047, f1052⟩
        have ne1053 : b1022 ≠ b1049 := Nat.ne_of_lt (Nat.lt_of_lt_of_le (f1039).lt bn1051)
        have bn1054 : h0.size ≤ b1049 := Nat.le_trans K1041.1 bn1051
        have f1055 := Ary.keep f1039 K1047 nin0
        have N1056 := Fr.app N1040 N1046
        have K1057 := Keep.trans K1041 K1047 all0
        have Z1058 := Nat.le_trans Z1042 K1047.1
        refine k_astore K X1045 at_188 rfl (Ls' := #[.val (.int p0), .val (.int p1), .val (.int p2), .val (.int p3), .val (.int p4), .val (.int p5), .val (.int v140), .val (.int d142), .val (.int v147), .val (.int v148), .val (.int v149), .val (.int v150), .val (.int v151), .val (.ref b1022), .val (.ref b1049)]) rfl (q := 190) rfl ?_
        refine k_aload K X1045 at_190 rfl rfl (q := 192) rfl ?_
        refine k_ifnull_n K X1045 at_192 (q := 195) rfl ?_
        refine k_aload K X1045 at_195 rfl rfl (q := 197) rfl ?_
        refine k_arraylength K X1045 rfl at_197 f1052 (v := (Nat.toInt32 (Int32.toNatClampNeg (v140 + (1 : Int32))))) rfl (q := 198) rfl ?_
        refine k_iload K X1045 at_198 rfl (q := 200) rfl ?_
        refine k_iconst K X1045 at_200 (v := (1 : Int32)) rfl (q := 201) rfl ?_
        refine k_iadd K X1045 at_201 (q := 202) rfl ?_
        refine k_icmp_eq_y K X1045 at_202 (own_ob_27 p0 p1 p2 p3 p4 p5 v140 d142 hv_v140 hv_d142 hc321 hc477) (by decide) (q := 207) rfl ?_
        refine k_aload K X1045 at_207 rfl rfl (q := 209) rfl ?_
        refine k_iload K X1045 at_209 rfl (q := 211) rfl ?_
        refine k_iload K X1045 at_211 rfl (q := 213) rfl ?_
        refine k_iload K X1045 at_213 rfl (q := 215) rfl ?_
        refine k_iload K X1045 at_215 rfl (q := 217) rfl ?_
        refine k_iload K X1045 at_217 rfl (q := 219) rfl ?_
        refine k_iload K X1045 at_219 rfl (q := 221) rfl ?_
        refine k_iconst K X1045 at_221 (v := (0 : Int32)) rfl (q := 222) rfl ?_
        refine k_staticP K X1045 rfl at_222 (wd hw 10 rfl) (wd hw 11 rfl) (wd hw 12 rfl) (wd hw 13 rfl) (by decide) (rm3 l Z az hw [] b1049 v140 d142 v148 v149 v150 v151 (0 : Int32) (Int32.toNatClampNeg (v140 + (1 : Int32))) (F_starts_new0_g v140 1 (fun i => List.getD [v148] i 0)) T1043.heap f1052 (own_ob_28 p0 p1 p2 p3 p4 p5 v140 d142 hv_v140 hv_d142 hc321 hc477)) (W := 0) (by decide) (by decide) (by decide) (by decide) rfl pd_3 (argsL := [(.ref b1049), (.int v140), (.int d142), (.int v148), (.int v149), (.int v150), (.int v151), (.int (0 : Int32))]) (rest := []) rfl rfl rfl (Nat.le_of_eq rfl) (q := 225) rfl ?_
        intro T1059 X1060 e1061
        have J1081 : ∀ (T1082 : State) (Lc1085 : List Loc) (d1080 : Int32), Stand p l e room_1 s m #[(.int p0), (.int p1), (.int p2), (.int p3), (.int p4), (.int p5)] below meth c T1082 Lc1085 2 6 → Fr n0 Lc1085 → T1082.heap = T1043.heap → (M0_1079 v140 d142 v148 v149 v150 v151) = d1080 → Run p e below s kc kn Q T1082 (mkF m 317 #[.val (.int p0), .val (.int p1), .val (.int p2), .val (.int p3), .val (.int p4), .val (.int p5), .val (.int v140), .val (.int d142), .val (.int v147), .val (.int v148), .val (.int v149), .val (.int v150), .val (.int v151), .val (.ref b1022), .val (.ref b1049)] [(.int d1080)]) := by
          intro T1082 Lc1085 d1080 X1083 N1086 e1084 hv_d1080
          exact k_retz K X1083 e1084 at_317 (Nat.le_trans (by decide) hkc) (Nat.le_trans (by decide) hkn) (hQ _ _ _ ⟨(by show some (Value.int (nar .boolean d1080)) = some (Value.int (F_law p0 p1 p2 p3 p4 p5)); first | (simp only [F_law, hv_v140, hv_d142, hv_v147, hv_v148, hv_v149, hv_v150, hv_v151, hv_d1080, if_neg hc321, if_pos hc477]; done) | (subst hv_v140; subst hv_d142; subst hv_v147; subst hv_v148; subst hv_v149; subst hv_v150; subst hv_v151; subst hv_d1080; simp only [F_law, if_neg hc321, if_pos hc477])), N1086⟩)
        refine k_if_eq K X1060 at_225 (by decide) (q := 316) rfl (q' := 228) rfl ?_ ?_
        · intro hc1087
          refine k_iconst K X1060 at_316 (v := (0 : Int32)) rfl (q := 317) rfl ?_
          exact J1081 T1059 _ _ X1060 N1056 e1061 (by first | (simp only [M0_797, M0_901, M0_995, M0_1079, if_pos hc1087]; done) | rfl)
        · intro hc1087
          refine k_aload K X1060 at_228 rfl rfl (q := 230) rfl ?_
          refine k_iload K X1060 at_230 rfl (q := 232) rfl ?_
          refine k_iload K X1060 at_232 rfl (q := 234) rfl ?_
          refine k_iload K X1060 at_234 rfl (q := 236) rfl ?_
          refine k_iload K X1060 at_236 rfl (q := 238) rfl ?_
          refine k_iload K X1060 at_238 rfl (q := 240) rfl ?_
          refine k_iload K X1060 at_240 rfl (q := 242) rfl ?_
          refine k_iconst K X1060 at_242 (v := (1 : Int32)) rfl (q := 243) rfl ?_
          refine k_staticP K X1060 e1061 at_243 (wd hw 10 rfl) (wd hw 11 rfl) (wd hw 12 rfl) (wd hw 13 rfl) (by decide) (rm3 l Z az hw [] b1049 v140 d142 v148 v149 v150 v151 (1 : Int32) (Int32.toNatClampNeg (v140 + (1 : Int32))) (F_starts_new0_g v140 1 (fun i => List.getD [v148] i 0)) T1043.heap f1052 (own_ob_29 p0 p1 p2 p3 p4 p5 v140 d142 hv_v140 hv_d142 hc321 hc477)) (W := 0) (by decide) (by decide) (by decide) (by decide) rfl pd_3 (argsL := [(.ref b1049), (.int v140), (.int d142), (.int v148), (.int v149), (.int v150), (.int v151), (.int (1 : Int32))]) (rest := []) rfl rfl rfl (Nat.le_of_eq rfl) (q := 246) rfl ?_
          intro T1088 X1089 e1090
          refine k_if_eq K X1089 at_246 (by decide) (q := 316) rfl (q' := 249) rfl ?_ ?_
          · intro hc1091
            refine k_iconst K X1089 at_316 (v := (0 : Int32)) rfl (q := 317) rfl ?_
            exact J1081 T1088 _ _ X1089 N1056 e1090 (by first | (simp only [M0_797, M0_901, M0_995, M0_1079, if_neg hc1087, if_pos hc1091]; done) | rfl)
          · intro hc1091
            refine k_aload K X1089 at_249 rfl rfl (q := 251) rfl ?_
            refine k_iload K X1089 at_251 rfl (q := 253) rfl ?_
            refine k_iload K X1089 at_253 rfl (q := 255) rfl ?_
            refine k_iload K X1089 at_255 rfl (q := 257) rfl ?_
            refine k_iload K X1089 at_257 rfl (q := 259) rfl ?_
            refine k_iload K X1089 at_259 rfl (q := 261) rfl ?_
            refine k_iload K X1089 at_261 rfl (q := 263) rfl ?_
            refine k_iconst K X1089 at_263 (v := (2 : Int32)) rfl (q := 264) rfl ?_
            refine k_staticP K X1089 e1090 at_264 (wd hw 10 rfl) (wd hw 11 rfl) (wd hw 12 rfl) (wd hw 13 rfl) (by decide) (rm3 l Z az hw [] b1049 v140 d142 v148 v149 v150 v151 (2 : Int32) (Int32.toNatClampNeg (v140 + (1 : Int32))) (F_starts_new0_g v140 1 (fun i => List.getD [v148] i 0)) T1043.heap f1052 (own_ob_30 p0 p1 p2 p3 p4 p5 v140 d142 hv_v140 hv_d142 hc321 hc477)) (W := 0) (by decide) (by decide) (by decide) (by decide) rfl pd_3 (argsL := [(.ref b1049), (.int v140), (.int d142), (.int v148), (.int v149), (.int v150), (.int v151), (.int (2 : Int32))]) (rest := []) rfl rfl rfl (Nat.le_of_eq rfl) (q := 267) rfl ?_
            intro T1092 X1093 e1094
            refine k_if_eq K X1093 at_267 (by decide) (q := 316) rfl (q' := 270) rfl ?_ ?_
            · intro hc1095
              refine k_iconst K X1093 at_316 (v := (0 : Int32)) rfl (q := 317) rfl ?_
              exact J1081 T1092 _ _ X1093 N1056 e1094 (by first | (simp only [M0_797, M0_901, M0_995, M0_1079, if_neg hc1087, if_neg hc1091, if_pos hc1095]; done) | rfl)
            · intro hc1095
              refine k_aload K X1093 at_270 rfl rfl (q := 272) rfl ?_
              refine k_iload K X1093 at_272 rfl (q := 274) rfl ?_
              refine k_iload K X1093 at_274 rfl (q := 276) rfl ?_
              refine k_iload K X1093 at_276 rfl (q := 278) rfl ?_
              refine k_iload K X1093 at_278 rfl (q := 280) rfl ?_
              refine k_iload K X1093 at_280 rfl (q := 282) rfl ?_
              refine k_iload K X1093 at_282 rfl (q := 284) rfl ?_
              refine k_iconst K X1093 at_284 (v := (3 : Int32)) rfl (q := 285) rfl ?_
              refine k_staticP K X1093 e1094 at_285 (wd hw 10 rfl) (wd hw 11 rfl) (wd hw 12 rfl) (wd hw 13 rfl) (by decide) (rm3 l Z az hw [] b1049 v140 d142 v148 v149 v150 v151 (3 : Int32) (Int32.toNatClampNeg (v140 + (1 : Int32))) (F_starts_new0_g v140 1 (fun i => List.getD [v148] i 0)) T1043.heap f1052 (own_ob_31 p0 p1 p2 p3 p4 p5 v140 d142 hv_v140 hv_d142 hc321 hc477)) (W := 0) (by decide) (by decide) (by decide) (by decide) rfl pd_3 (argsL := [(.ref b1049), (.int v140), (.int d142), (.int v148), (.int v149), (.int v150), (.int v151), (.int (3 : Int32))]) (rest := []) rfl rfl rfl (Nat.le_of_eq rfl) (q := 288) rfl ?_
              intro T1096 X1097 e1098
              refine k_if_eq K X1097 at_288 (by decide) (q := 316) rfl (q' := 291) rfl ?_ ?_
              · intro hc1099
                refine k_iconst K X1097 at_316 (v := (0 : Int32)) rfl (q := 317) rfl ?_
                exact J1081 T1096 _ _ X1097 N1056 e1098 (by first | (simp only [M0_797, M0_901, M0_995, M0_1079, if_neg hc1087, if_neg hc1091, if_neg hc1095, if_pos hc1099]; done) | rfl)
              · intro hc1099
                refine k_aload K X1097 at_291 rfl rfl (q := 293) rfl ?_
                refine k_iload K X1097 at_293 rfl (q := 295) rfl ?_
                refine k_iload K X1097 at_295 rfl (q := 297) rfl ?_
                refine k_iload K X1097 at_297 rfl (q := 299) rfl ?_
                refine k_iload K X1097 at_299 rfl (q := 301) rfl ?_
                refine k_iload K X1097 at_301 rfl (q := 303) rfl ?_
                refine k_iload K X1097 at_303 rfl (q := 305) rfl ?_
                refine k_iconst K X1097 at_305 (v := (4 : Int32)) rfl (q := 306) rfl ?_
                refine k_staticP K X1097 e1098 at_306 (wd hw 10 rfl) (wd hw 11 rfl) (wd hw 12 rfl) (wd hw 13 rfl) (by decide) (rm3 l Z az hw [] b1049 v140 d142 v148 v149 v150 v151 (4 : Int32) (Int32.toNatClampNeg (v140 + (1 : Int32))) (F_starts_new0_g v140 1 (fun i => List.getD [v148] i 0)) T1043.heap f1052 (own_ob_32 p0 p1 p2 p3 p4 p5 v140 d142 hv_v140 hv_d142 hc321 hc477)) (W := 0) (by decide) (by decide) (by decide) (by decide) rfl pd_3 (argsL := [(.ref b1049), (.int v140), (.int d142), (.int v148), (.int v149), (.int v150), (.int v151), (.int (4 : Int32))]) (rest := []) rfl rfl rfl (Nat.le_of_eq rfl) (q := 309) rfl ?_
                intro T1100 X1101 e1102
                refine k_if_eq K X1101 at_309 (by decide) (q := 316) rfl (q' := 312) rfl ?_ ?_
                · intro hc1103
                  refine k_iconst K X1101 at_316 (v := (0 : Int32)) rfl (q := 317) rfl ?_
                  exact J1081 T1100 _ _ X1101 N1056 e1102 (by first | (simp only [M0_797, M0_901, M0_995, M0_1079, if_neg hc1087, if_neg hc1091, if_neg hc1095, if_neg hc1099, if_pos hc1103]; done) | rfl)
                · intro hc1103
                  refine k_iconst K X1101 at_312 (v := (1 : Int32)) rfl (q := 313) rfl ?_
                  refine k_goto K X1101 at_313 (by decide) (q := 317) rfl ?_
                  exact J1081 T1100 _ _ X1101 N1056 e1102 (by first | (simp only [M0_797, M0_901, M0_995, M0_1079, if_neg hc1087, if_neg hc1091, if_neg hc1095, if_neg hc1099, if_neg hc1103]; done) | rfl)
    · intro hc321
      refine k_iconst K X145 at_76 (v := (0 : Int32)) rfl (q := 77) rfl ?_
      refine k_newarray K X145 e146 at_77 (ty := .int) rfl (wd hw 5 rfl) (n := 0) (cap := 0) (by decide) (by decide) (by decide) (by decide) (by decide) (q := 79) rfl ?_
      intro T1104 h1105 b1106 X1107 e1108 g1109 E1110 A1111 
      have ge1112 : n0 ≤ b1106 := Nat.le_trans Z0 (Nat.le_of_eq g1109.symm)
      have bn1113 : h0.size ≤ b1106 := Nat.le_trans K0.1 (Nat.le_of_eq g1109.symm)
      have K1114 := Keep.ext K0 E1110
      have Z1115 := Nat.le_trans Z0 E1110.1
      have f1116 : Ary Z h1105 b1106 .int 0 (fun i => Value.int (List.getD [] i 0)) := Ary.eqv A1111 (by intro i hi; omega)
      refine k_astore K X1107 at_79 rfl (Ls' := #[.val (.int p0), .val (.int p1), .val (.int p2), .val (.int p3), .val (.int p4), .val (.int p5), .val (.int v140), .val (.int d142), .val (.int v147), .val (.int v148), .val (.int v149), .val (.int v150), .val (.int v151), .val (.ref b1106), .unset]) rfl (q := 81) rfl ?_
      refine k_goto K X1107 at_81 (by decide) (q := 181) rfl ?_
      refine k_iload K X1107 at_181 rfl (q := 183) rfl ?_
      refine k_aload K X1107 at_183 rfl rfl (q := 185) rfl ?_
      refine k_static K X1107 e1108 at_185 (wd hw 6 rfl) (wd hw 7 rfl) (wd hw 8 rfl) (wd hw 9 rfl) (by decide) (rm2 l Z az hw [] v140 b1106 0 (fun i => List.getD [] i 0) h1105 n0 Z1115 f1116 (own_ob_33 p0 p1 p2 p3 p4 p5 v140 d142 hv_v140 hv_d142 hc321) (own_ob_34 p0 p1 p2 p3 p4 p5 v140 d142 hv_v140 hv_d142 hc321)) (W := 0) (by decide) (by decide) (by decide) (by decide) rfl pd_2 (argsL := [(.int v140), (.ref b1106)]) (rest := []) rfl rfl rfl (Nat.le_of_eq rfl) (q := 188) rfl ?_
      rintro _ T1117 L1118 X1119 ⟨b1123, ge1124, bn1125, rfl, N1120, K1121, f1126⟩
      have ne1127 : b1106 ≠ b1123 := Nat.ne_of_lt (Nat.lt_of_lt_of_le (f1116).lt bn1125)
      have bn1128 : h0.size ≤ b1123 := Nat.le_trans K1114.1 bn1125
      have f1129 := Ary.keep f1116 K1121 nin0
      have N1130 := Fr.app N0 N1120
      have K1131 := Keep.trans K1114 K1121 all0
      have Z1132 := Nat.le_trans Z1115 K1121.1
      refine k_astore K X1119 at_188 rfl (Ls' := #[.val (.int p0), .val (.int p1), .val (.int p2), .val (.int p3), .val (.int p4), .val (.int p5), .val (.int v140), .val (.int d142), .val (.int v147), .val (.int v148), .val (.int v149), .val (.int v150), .val (.int v151), .val (.ref b1106), .val (.ref b1123)]) rfl (q := 190) rfl ?_
      refine k_aload K X1119 at_190 rfl rfl (q := 192) rfl ?_
      refine k_ifnull_n K X1119 at_192 (q := 195) rfl ?_
      refine k_aload K X1119 at_195 rfl rfl (q := 197) rfl ?_
      refine k_arraylength K X1119 rfl at_197 f1126 (v := (Nat.toInt32 (Int32.toNatClampNeg (v140 + (1 : Int32))))) rfl (q := 198) rfl ?_
      refine k_iload K X1119 at_198 rfl (q := 200) rfl ?_
      refine k_iconst K X1119 at_200 (v := (1 : Int32)) rfl (q := 201) rfl ?_
      refine k_iadd K X1119 at_201 (q := 202) rfl ?_
      refine k_icmp_eq_y K X1119 at_202 (own_ob_35 p0 p1 p2 p3 p4 p5 v140 d142 hv_v140 hv_d142 hc321) (by decide) (q := 207) rfl ?_
      refine k_aload K X1119 at_207 rfl rfl (q := 209) rfl ?_
      refine k_iload K X1119 at_209 rfl (q := 211) rfl ?_
      refine k_iload K X1119 at_211 rfl (q := 213) rfl ?_
      refine k_iload K X1119 at_213 rfl (q := 215) rfl ?_
      refine k_iload K X1119 at_215 rfl (q := 217) rfl ?_
      refine k_iload K X1119 at_217 rfl (q := 219) rfl ?_
      refine k_iload K X1119 at_219 rfl (q := 221) rfl ?_
      refine k_iconst K X1119 at_221 (v := (0 : Int32)) rfl (q := 222) rfl ?_
      refine k_staticP K X1119 rfl at_222 (wd hw 10 rfl) (wd hw 11 rfl) (wd hw 12 rfl) (wd hw 13 rfl) (by decide) (rm3 l Z az hw [] b1123 v140 d142 v148 v149 v150 v151 (0 : Int32) (Int32.toNatClampNeg (v140 + (1 : Int32))) (F_starts_new0_g v140 0 (fun i => List.getD [] i 0)) T1117.heap f1126 (own_ob_36 p0 p1 p2 p3 p4 p5 v140 d142 hv_v140 hv_d142 hc321)) (W := 0) (by decide) (by decide) (by decide) (by decide) rfl pd_3 (argsL := [(.ref b1123), (.int v140), (.int d142), (.int v148), (.int v149), (.int v150), (.int v151), (.int (0 : Int32))]) (rest := []) rfl rfl rfl (Nat.le_of_eq rfl) (q := 225) rfl ?_
      intro T1133 X1134 e1135
      have J1155 : ∀ (T1156 : State) (Lc1159 : List Loc) (d1154 : Int32), Stand p l e room_1 s m #[(.int p0), (.int p1), (.int p2), (.int p3), (.int p4), (.int p5)] below meth c T1156 Lc1159 2 5 → Fr n0 Lc1159 → T1156.heap = T1117.heap → (M0_1153 v140 d142 v148 v149 v150 v151) = d1154 → Run p e below s kc kn Q T1156 (mkF m 317 #[.val (.int p0), .val (.int p1), .val (.int p2), .val (.int p3), .val (.int p4), .val (.int p5), .val (.int v140), .val (.int d142), .val (.int v147), .val (.int v148), .val (.int v149), .val (.int v150), .val (.int v151), .val (.ref b1106), .val (.ref b1123)] [(.int d1154)]) := by
        intro T1156 Lc1159 d1154 X1157 N1160 e1158 hv_d1154
        exact k_retz K X1157 e1158 at_317 (Nat.le_trans (by decide) hkc) (Nat.le_trans (by decide) hkn) (hQ _ _ _ ⟨(by show some (Value.int (nar .boolean d1154)) = some (Value.int (F_law p0 p1 p2 p3 p4 p5)); first | (simp only [F_law, hv_v140, hv_d142, hv_v147, hv_v148, hv_v149, hv_v150, hv_v151, hv_d1154, if_pos hc321]; done) | (subst hv_v140; subst hv_d142; subst hv_v147; subst hv_v148; subst hv_v149; subst hv_v150; subst hv_v151; subst hv_d1154; simp only [F_law, if_pos hc321])), N1160⟩)
      refine k_if_eq K X1134 at_225 (by decide) (q := 316) rfl (q' := 228) rfl ?_ ?_
      · intro hc1161
        refine k_iconst K X1134 at_316 (v := (0 : Int32)) rfl (q := 317) rfl ?_
        exact J1155 T1133 _ _ X1134 N1130 e1135 (by first | (simp only [M0_797, M0_901, M0_995, M0_1079, M0_1153, if_pos hc1161]; done) | rfl)
      · intro hc1161
        refine k_aload K X1134 at_228 rfl rfl (q := 230) rfl ?_
        refine k_iload K X1134 at_230 rfl (q := 232) rfl ?_
        refine k_iload K X1134 at_232 rfl (q := 234) rfl ?_
        refine k_iload K X1134 at_234 rfl (q := 236) rfl ?_
        refine k_iload K X1134 at_236 rfl (q := 238) rfl ?_
        refine k_iload K X1134 at_238 rfl (q := 240) rfl ?_
        refine k_iload K X1134 at_240 rfl (q := 242) rfl ?_
        refine k_iconst K X1134 at_242 (v := (1 : Int32)) rfl (q := 243) rfl ?_
        refine k_staticP K X1134 e1135 at_243 (wd hw 10 rfl) (wd hw 11 rfl) (wd hw 12 rfl) (wd hw 13 rfl) (by decide) (rm3 l Z az hw [] b1123 v140 d142 v148 v149 v150 v151 (1 : Int32) (Int32.toNatClampNeg (v140 + (1 : Int32))) (F_starts_new0_g v140 0 (fun i => List.getD [] i 0)) T1117.heap f1126 (own_ob_37 p0 p1 p2 p3 p4 p5 v140 d142 hv_v140 hv_d142 hc321)) (W := 0) (by decide) (by decide) (by decide) (by decide) rfl pd_3 (argsL := [(.ref b1123), (.int v140), (.int d142), (.int v148), (.int v149), (.int v150), (.int v151), (.int (1 : Int32))]) (rest := []) rfl rfl rfl (Nat.le_of_eq rfl) (q := 246) rfl ?_
        intro T1162 X1163 e1164
        refine k_if_eq K X1163 at_246 (by decide) (q := 316) rfl (q' := 249) rfl ?_ ?_
        · intro hc1165
          refine k_iconst K X1163 at_316 (v := (0 : Int32)) rfl (q := 317) rfl ?_
          exact J1155 T1162 _ _ X1163 N1130 e1164 (by first | (simp only [M0_797, M0_901, M0_995, M0_1079, M0_1153, if_neg hc1161, if_pos hc1165]; done) | rfl)
        · intro hc1165
          refine k_aload K X1163 at_249 rfl rfl (q := 251) rfl ?_
          refine k_iload K X1163 at_251 rfl (q := 253) rfl ?_
          refine k_iload K X1163 at_253 rfl (q := 255) rfl ?_
          refine k_iload K X1163 at_255 rfl (q := 257) rfl ?_
          refine k_iload K X1163 at_257 rfl (q := 259) rfl ?_
          refine k_iload K X1163 at_259 rfl (q := 261) rfl ?_
          refine k_iload K X1163 at_261 rfl (q := 263) rfl ?_
          refine k_iconst K X1163 at_263 (v := (2 : Int32)) rfl (q := 264) rfl ?_
          refine k_staticP K X1163 e1164 at_264 (wd hw 10 rfl) (wd hw 11 rfl) (wd hw 12 rfl) (wd hw 13 rfl) (by decide) (rm3 l Z az hw [] b1123 v140 d142 v148 v149 v150 v151 (2 : Int32) (Int32.toNatClampNeg (v140 + (1 : Int32))) (F_starts_new0_g v140 0 (fun i => List.getD [] i 0)) T1117.heap f1126 (own_ob_38 p0 p1 p2 p3 p4 p5 v140 d142 hv_v140 hv_d142 hc321)) (W := 0) (by decide) (by decide) (by decide) (by decide) rfl pd_3 (argsL := [(.ref b1123), (.int v140), (.int d142), (.int v148), (.int v149), (.int v150), (.int v151), (.int (2 : Int32))]) (rest := []) rfl rfl rfl (Nat.le_of_eq rfl) (q := 267) rfl ?_
          intro T1166 X1167 e1168
          refine k_if_eq K X1167 at_267 (by decide) (q := 316) rfl (q' := 270) rfl ?_ ?_
          · intro hc1169
            refine k_iconst K X1167 at_316 (v := (0 : Int32)) rfl (q := 317) rfl ?_
            exact J1155 T1166 _ _ X1167 N1130 e1168 (by first | (simp only [M0_797, M0_901, M0_995, M0_1079, M0_1153, if_neg hc1161, if_neg hc1165, if_pos hc1169]; done) | rfl)
          · intro hc1169
            refine k_aload K X1167 at_270 rfl rfl (q := 272) rfl ?_
            refine k_iload K X1167 at_272 rfl (q := 274) rfl ?_
            refine k_iload K X1167 at_274 rfl (q := 276) rfl ?_
            refine k_iload K X1167 at_276 rfl (q := 278) rfl ?_
            refine k_iload K X1167 at_278 rfl (q := 280) rfl ?_
            refine k_iload K X1167 at_280 rfl (q := 282) rfl ?_
            refine k_iload K X1167 at_282 rfl (q := 284) rfl ?_
            refine k_iconst K X1167 at_284 (v := (3 : Int32)) rfl (q := 285) rfl ?_
            refine k_staticP K X1167 e1168 at_285 (wd hw 10 rfl) (wd hw 11 rfl) (wd hw 12 rfl) (wd hw 13 rfl) (by decide) (rm3 l Z az hw [] b1123 v140 d142 v148 v149 v150 v151 (3 : Int32) (Int32.toNatClampNeg (v140 + (1 : Int32))) (F_starts_new0_g v140 0 (fun i => List.getD [] i 0)) T1117.heap f1126 (own_ob_39 p0 p1 p2 p3 p4 p5 v140 d142 hv_v140 hv_d142 hc321)) (W := 0) (by decide) (by decide) (by decide) (by decide) rfl pd_3 (argsL := [(.ref b1123), (.int v140), (.int d142), (.int v148), (.int v149), (.int v150), (.int v151), (.int (3 : Int32))]) (rest := []) rfl rfl rfl (Nat.le_of_eq rfl) (q := 288) rfl ?_
            intro T1170 X1171 e1172
            refine k_if_eq K X1171 at_288 (by decide) (q := 316) rfl (q' := 291) rfl ?_ ?_
            · intro hc1173
              refine k_iconst K X1171 at_316 (v := (0 : Int32)) rfl (q := 317) rfl ?_
              exact J1155 T1170 _ _ X1171 N1130 e1172 (by first | (simp only [M0_797, M0_901, M0_995, M0_1079, M0_1153, if_neg hc1161, if_neg hc1165, if_neg hc1169, if_pos hc1173]; done) | rfl)
            · intro hc1173
              refine k_aload K X1171 at_291 rfl rfl (q := 293) rfl ?_
              refine k_iload K X1171 at_293 rfl (q := 295) rfl ?_
              refine k_iload K X1171 at_295 rfl (q := 297) rfl ?_
              refine k_iload K X1171 at_297 rfl (q := 299) rfl ?_
              refine k_iload K X1171 at_299 rfl (q := 301) rfl ?_
              refine k_iload K X1171 at_301 rfl (q := 303) rfl ?_
              refine k_iload K X1171 at_303 rfl (q := 305) rfl ?_
              refine k_iconst K X1171 at_305 (v := (4 : Int32)) rfl (q := 306) rfl ?_
              refine k_staticP K X1171 e1172 at_306 (wd hw 10 rfl) (wd hw 11 rfl) (wd hw 12 rfl) (wd hw 13 rfl) (by decide) (rm3 l Z az hw [] b1123 v140 d142 v148 v149 v150 v151 (4 : Int32) (Int32.toNatClampNeg (v140 + (1 : Int32))) (F_starts_new0_g v140 0 (fun i => List.getD [] i 0)) T1117.heap f1126 (own_ob_40 p0 p1 p2 p3 p4 p5 v140 d142 hv_v140 hv_d142 hc321)) (W := 0) (by decide) (by decide) (by decide) (by decide) rfl pd_3 (argsL := [(.ref b1123), (.int v140), (.int d142), (.int v148), (.int v149), (.int v150), (.int v151), (.int (4 : Int32))]) (rest := []) rfl rfl rfl (Nat.le_of_eq rfl) (q := 309) rfl ?_
              intro T1174 X1175 e1176
              refine k_if_eq K X1175 at_309 (by decide) (q := 316) rfl (q' := 312) rfl ?_ ?_
              · intro hc1177
                refine k_iconst K X1175 at_316 (v := (0 : Int32)) rfl (q := 317) rfl ?_
                exact J1155 T1174 _ _ X1175 N1130 e1176 (by first | (simp only [M0_797, M0_901, M0_995, M0_1079, M0_1153, if_neg hc1161, if_neg hc1165, if_neg hc1169, if_neg hc1173, if_pos hc1177]; done) | rfl)
              · intro hc1177
                refine k_iconst K X1175 at_312 (v := (1 : Int32)) rfl (q := 313) rfl ?_
                refine k_goto K X1175 at_313 (by decide) (q := 317) rfl ?_
                exact J1155 T1174 _ _ X1175 N1130 e1176 (by first | (simp only [M0_797, M0_901, M0_995, M0_1079, M0_1153, if_neg hc1161, if_neg hc1165, if_neg hc1169, if_neg hc1173, if_neg hc1177]; done) | rfl)
  refine k_if_ne K X0 at_10 (by decide) (q := 17) rfl (q' := 13) rfl ?_ ?_
  · intro hc1178
    refine k_iloadN K X0 at_17 rfl (q := 18) rfl ?_
    refine k_ldc K X0 at_18 (wd hw 0 rfl) (q := 20) rfl ?_
    refine k_iand K X0 at_20 (q := 21) rfl ?_
    refine k_iconst K X0 at_21 (v := (5 : Int32)) rfl (q := 22) rfl ?_
    refine k_irem K X0 at_22 (by decide) (q := 23) rfl ?_
    exact J143 _ (by first | (simp only [M0_797, M0_901, M0_995, M0_1079, M0_1153, if_neg hc1178]; done) | rfl)
  · intro hc1178
    refine k_iconst K X0 at_13 (v := (0 : Int32)) rfl (q := 14) rfl ?_
    refine k_goto K X0 at_14 (by decide) (q := 23) rfl ?_
    exact J143 _ (by first | (simp only [M0_797, M0_901, M0_995, M0_1079, M0_1153, if_pos hc1178]; done) | rfl)
set_option maxRecDepth 65536
def own_H (v140 d142 v148 v149 v150 v151 : Int32) : Int32 :=
  if d142 = (0 : Int32) then
    let d1154 : Int32 := (M0_1153 v140 d142 v148 v149 v150 v151)
    (nar .boolean d1154)
  else
    if d142 = (1 : Int32) then
      let d1080 : Int32 := (M0_1079 v140 d142 v148 v149 v150 v151)
      (nar .boolean d1080)
    else
      if d142 = (2 : Int32) then
        let d996 : Int32 := (M0_995 v140 d142 v148 v149 v150 v151)
        (nar .boolean d996)
      else
        if d142 = (3 : Int32) then
          let d902 : Int32 := (M0_901 v140 d142 v148 v149 v150 v151)
          (nar .boolean d902)
        else
          let d798 : Int32 := (M0_797 v140 d142 v148 v149 v150 v151)
          (nar .boolean d798)
theorem own_fin0 : ∀ (n : Fin 1) (a b c d : Fin 1), own_H 0 (Int32.ofNat n.1) (Int32.ofNat a.1) (Int32.ofNat b.1) (Int32.ofNat c.1) (Int32.ofNat d.1) = 1 := by decide +kernel
theorem own_fin1 : ∀ (n : Fin 5) (a b c d : Fin 1), own_H 1 (Int32.ofNat n.1) (Int32.ofNat a.1) (Int32.ofNat b.1) (Int32.ofNat c.1) (Int32.ofNat d.1) = 1 := by decide +kernel
theorem own_fin2 : ∀ (n : Fin 5) (a b c d : Fin 2), own_H 2 (Int32.ofNat n.1) (Int32.ofNat a.1) (Int32.ofNat b.1) (Int32.ofNat c.1) (Int32.ofNat d.1) = 1 := by decide +kernel
theorem own_fin3 : ∀ (n : Fin 5) (a b c d : Fin 3), own_H 3 (Int32.ofNat n.1) (Int32.ofNat a.1) (Int32.ofNat b.1) (Int32.ofNat c.1) (Int32.ofNat d.1) = 1 := by decide +kernel
theorem own_fin4 : ∀ (n : Fin 5) (a b c d : Fin 4), own_H 4 (Int32.ofNat n.1) (Int32.ofNat a.1) (Int32.ofNat b.1) (Int32.ofNat c.1) (Int32.ofNat d.1) = 1 := by decide +kernel
theorem own_on (v : Int32) (h : 0 ≤ v.toInt) : v = Int32.ofNat v.toInt.toNat := Int32.toInt_inj.mp (by have := rng32 v; rw [Int32.toInt_ofNat_of_lt (by omega)]; omega)
theorem own_mx (p m : Int32) (k : Nat) (h : m.toInt = k) (h0 : 0 < k) : 0 ≤ ((p &&& 2147483647) % m).toInt ∧ ((p &&& 2147483647) % m).toInt.toNat < k := by
  have a := (c_and p 2147483647 (by decide)).1
  have b := (c_irem (p &&& 2147483647) m k h).1 a
  have h3 := Int.emod_nonneg (p &&& 2147483647).toInt (show (k : Int) ≠ 0 by omega)
  have h4 := Int.emod_lt_of_pos (p &&& 2147483647).toInt (show (0 : Int) < k by omega)
  omega
theorem law_eq (p0 p1 p2 p3 p4 p5 : Int32) : F_law p0 p1 p2 p3 p4 p5 = 1 := by
  show own_H ((p0 &&& 2147483647) % 5) (if (p0 &&& 2147483647) % 5 = 0 then 0 else (p1 &&& 2147483647) % 5) ((p2 &&& 2147483647) % F_max ((p0 &&& 2147483647) % 5) 1) ((p3 &&& 2147483647) % F_max ((p0 &&& 2147483647) % 5) 1) ((p4 &&& 2147483647) % F_max ((p0 &&& 2147483647) % 5) 1) ((p5 &&& 2147483647) % F_max ((p0 &&& 2147483647) % 5) 1) = 1
  have q1 := own_mx p1 5 5 rfl (by decide)
  rcases own_5 p0 with h | h | h | h | h <;> rw [h]
  · have f := fun p => own_mx p (F_max 0 1) 1 (by decide) (by decide)
    rw [if_pos rfl, own_on _ (f p2).1, own_on _ (f p3).1, own_on _ (f p4).1, own_on _ (f p5).1]
    exact own_fin0 ⟨0, by decide⟩ ⟨_, (f p2).2⟩ ⟨_, (f p3).2⟩ ⟨_, (f p4).2⟩ ⟨_, (f p5).2⟩
  · have f := fun p => own_mx p (F_max 1 1) 1 (by decide) (by decide)
    rw [if_neg (by decide), own_on _ q1.1, own_on _ (f p2).1, own_on _ (f p3).1, own_on _ (f p4).1, own_on _ (f p5).1]
    exact own_fin1 ⟨_, q1.2⟩ ⟨_, (f p2).2⟩ ⟨_, (f p3).2⟩ ⟨_, (f p4).2⟩ ⟨_, (f p5).2⟩
  · have f := fun p => own_mx p (F_max 2 1) 2 (by decide) (by decide)
    rw [if_neg (by decide), own_on _ q1.1, own_on _ (f p2).1, own_on _ (f p3).1, own_on _ (f p4).1, own_on _ (f p5).1]
    exact own_fin2 ⟨_, q1.2⟩ ⟨_, (f p2).2⟩ ⟨_, (f p3).2⟩ ⟨_, (f p4).2⟩ ⟨_, (f p5).2⟩
  · have f := fun p => own_mx p (F_max 3 1) 3 (by decide) (by decide)
    rw [if_neg (by decide), own_on _ q1.1, own_on _ (f p2).1, own_on _ (f p3).1, own_on _ (f p4).1, own_on _ (f p5).1]
    exact own_fin3 ⟨_, q1.2⟩ ⟨_, (f p2).2⟩ ⟨_, (f p3).2⟩ ⟨_, (f p4).2⟩ ⟨_, (f p5).2⟩
  · have f := fun p => own_mx p (F_max 4 1) 4 (by decide) (by decide)
    rw [if_neg (by decide), own_on _ q1.1, own_on _ (f p2).1, own_on _ (f p3).1, own_on _ (f p4).1, own_on _ (f p5).1]
    exact own_fin4 ⟨_, q1.2⟩ ⟨_, (f p2).2⟩ ⟨_, (f p3).2⟩ ⟨_, (f p4).2⟩ ⟨_, (f p5).2⟩
set_option maxRecDepth 65536 in
set_option maxHeartbeats 40000000 in
theorem comes_1 {Post : Tables → Env → Array Value → State → Outcome → State → Prop} (hpost : ∀ tb e args s v u, (limb_1_1.after args s (.returned v) u = true ∧ limb_1_2.after args s (.returned v) u = true ∧ True) → FrameEnd s (.returned v) u (Jvm.fieldLocs frame_1_writes args s ++ Jvm.arrayLocs frame_1_arrays args s ++ Jvm.staticLocs frame_1_statics s) 16 128 → Post tb e args s (.returned v) u) :
    ArmFor flags0 classFile x code maxLocals ret World_1 tables_1 room_1 Calls_1 rest_1 Pre_1 Post := by
  intro l hfl _ _ p e ha hc hk s m args below hf hA hF happ hP
  obtain ⟨hcalls, hrest, hpre⟩ := hP
  obtain ⟨-, -, -, hnamed, -, -, -, hat⟩ := (Spec.applies_iff hf).mp happ
  obtain ⟨hg, hn⟩ := and_e (Cond.before_iff.mp (show (Jvm.Cond.and given_1 narrow_1).before args s = true from hpre))
  obtain ⟨gc, g0⟩ := and_e hg
  obtain ⟨ga0, g1⟩ := and_e g0
  obtain ⟨ga1, g2⟩ := and_e g1
  obtain ⟨ga2, g3⟩ := and_e g2
  obtain ⟨ga3, g4⟩ := and_e g3
  obtain ⟨ga4, g5⟩ := and_e g4
  obtain ⟨w0, w1, w2, w3, w4, w5, rfl⟩ : ∃ w0 w1 w2 w3 w4 w5 : Value, args = #[w0, w1, w2, w3, w4, w5] := by
    have hs : args.size = 6 := by simpa [Cond.value, given_1] using gc
    obtain ⟨L⟩ := args
    match L, hs with
    | [w0, w1, w2, w3, w4, w5], _ => exact ⟨w0, w1, w2, w3, w4, w5, rfl⟩
  have hw := fun d (hd : d ∈ tables_1) => atoms_spec (ws := Jvm.Cond.code x code maxLocals ret :: tables_1) hat d (List.mem_cons_of_mem _ hd)
  obtain ⟨i0, ei0⟩ := is_v ga0
  obtain rfl : w0 = (.int i0) := Option.some.inj ei0
  obtain ⟨i1, ei1⟩ := is_v ga1
  obtain rfl : w1 = (.int i1) := Option.some.inj ei1
  obtain ⟨i2, ei2⟩ := is_v ga2
  obtain rfl : w2 = (.int i2) := Option.some.inj ei2
  obtain ⟨i3, ei3⟩ := is_v ga3
  obtain rfl : w3 = (.int i3) := Option.some.inj ei3
  obtain ⟨i4, ei4⟩ := is_v ga4
  obtain rfl : w4 = (.int i4) := Option.some.inj ei4
  obtain ⟨i5, ei5⟩ := is_v g5
  obtain rfl : w5 = (.int i5) := Option.some.inj ei5
  obtain ⟨n, o, h1, h2, h3, _, L, rfl, ⟨rfl, N⟩, hq⟩ := rm0 l s _ hw tables_1 i0 i1 i2 i3 i4 i5 s.heap s.heap.size (Nat.le_refl _) p e ha hc hk s m _ below hf ((Spec.applies_iff_loose hf).mp happ).1 ⟨rfl, State.Warmed39.refl s, rfl⟩ trivial
  rw [law_eq] at *
  refine ⟨n, _, h1, h2, h3, hpost _ _ _ _ _ _ ⟨Cond.after_iff.mpr rfl, Cond.after_iff.mpr (eq_i res_at (Term.int_eval (1)) rfl), trivial⟩ ⟨hq.1, hq.2.1, (hq.2.2.sift fun y hy => Or.inr (N y hy)).mono (by decide) (by decide)⟩⟩
theorem main_1_1 : Claimed_1_1 := comes_1 fun _ _ _ _ _ _ h hF => ⟨h.1, hF⟩
theorem main_1_2 : Claimed_1_2 := comes_1 fun _ _ _ _ _ _ h hF => ⟨h.2.1, hF⟩
end Jvm.Pilot.@@N@@
namespace Jvm.Pilot.@@N@@
open Jvm Jvm.ClassFile Sem Op Lib Jvm.Free Jvm.Stand Jvm.Pilot.@@N@@.Jvm.D
/-! MADE BY PROGRAM (witnessworld.py) out of the Statement's table words and the real class files: 10 classes; the members and pool entries that the words name. The judged class is class 1, her method 1. -/
namespace start1
open Jvm.ClassFile
def u (s : String) : CpInfo := .utf8 (stringToUtf16 s)
/-- a pool by its gaps: so many unusable entries, then the entry; so many at the end -/
def gap : Nat → List CpInfo → List CpInfo
  | 0, r => r
  | n + 1, r => .unusable :: gap n r
def poolList (es : List (Nat × CpInfo)) (last : Nat) : List CpInfo := es.foldr (fun e r => gap e.1 (e.2 :: r)) (gap last [])
def pool (es : List (Nat × CpInfo)) (last : Nat) : Array CpInfo := ⟨poolList es last⟩
def fileOf (pool : Array CpInfo) (this : Nat) (attrs : Array Attribute := #[]) (ms : Array MethodInfo := #[]) (fl : Nat := 33) (sup : Nat := 0) (ifs : Array Nat := #[]) (fds : Array FieldInfo := #[]) : ClassFile where
  minorVersion := 0
  majorVersion := 65
  constantPool := pool
  accessFlags := fl
  thisClass := this
  superClass := sup
  interfaces := ifs
  fields := fds
  methods := ms
  attributes := attrs
def plain (name : String) (sup : Option ClassId) : Class where
  name := name
  kind := .ordinary
  loader := none
  accessFlags := 33
  super := sup
  interfaces := #[]
  cf := none
  fields := #[]
  methods := #[]
  instanceTypes := #[]
  staticTypes := #[]
  resolved := #[]
  callSites := []
  init := .initialized
  statics := none
  mirror := none

def pool0 : Array CpInfo := pool [(5, u "<init>"), (0, u "()V"), (1, .class_ 10), (1, u "java/lang/Object")] 113

def k0m0 : Method := { name := "<init>", desc := "()V", sig := { parameters := [], returnType := none }, accessFlags := 1, code := none }
/-- java/lang/Object -/
def k0 : Class := { plain "java/lang/Object" none with
  accessFlags := 33
  interfaces := #[]
  cf := some (fileOf pool0 8 #[] #[{ accessFlags := 1, nameIndex := 5, descriptorIndex := 6, attributes := #[] }] 33 0 #[] #[])
  fields := #[]
  methods := #[k0m0]
  instanceTypes := #[]
  staticTypes := #[]
  resolved := Array.replicate 124 none
  statics := none }

def pool1 : Array CpInfo := pool [(2, .class_ 4), (1, u "java/lang/Object"), (0, u "<init>"), (0, u "()V"), (0, .integer 2147483647), (0, .methodref 9 10), (0, .class_ 11), (0, .nameAndType 12 13), (0, u "java/lang/Math"), (0, u "max"), (0, u "(II)I"), (0, .methodref 15 16), (0, .class_ 17), (0, .nameAndType 18 19), (0, u "com/example/muster/muster/search/Grouping"), (0, u "starts"), (0, u "(I[I)[I"), (0, .methodref 21 22), (0, .class_ 23), (0, .nameAndType 24 25), (0, u "com/example/muster/muster/search/GroupingStartsPinLaw"), (0, u "check"), (0, u "([IIIIIIII)Z"), (0, .methodref 21 27), (0, .nameAndType 28 29), (0, u "below"), (0, u "(IIII)I"), (2, u "law"), (0, u "(IIIIII)Z")] 5

def k1m0 : Method := { name := "<init>", desc := "()V", sig := { parameters := [], returnType := none }, accessFlags := 1, code := none }
def k1c1 : Code := { maxStack := 8, maxLocals := 15, code := code, exceptionTable := #[], attributes := #[] }
def k1m1 : Method := { name := "law", desc := "(IIIIII)Z", sig := { parameters := [.int, .int, .int, .int, .int, .int], returnType := some .boolean }, accessFlags := 9, code := some k1c1 }
def k1c2 : Code := { maxStack := 5, maxLocals := 9, code := method_3_code, exceptionTable := #[], attributes := #[] }
def k1m2 : Method := { name := "check", desc := "([IIIIIIII)Z", sig := { parameters := [(.array .int), .int, .int, .int, .int, .int, .int, .int], returnType := some .boolean }, accessFlags := 10, code := some k1c2 }
def k1c3 : Code := { maxStack := 2, maxLocals := 4, code := method_4_code, exceptionTable := #[], attributes := #[] }
def k1m3 : Method := { name := "below", desc := "(IIII)I", sig := { parameters := [.int, .int, .int, .int], returnType := some .int }, accessFlags := 10, code := some k1c3 }
/-- com/example/muster/muster/search/GroupingStartsPinLaw -/
def k1 : Class := { plain "com/example/muster/muster/search/GroupingStartsPinLaw" (some 0) with
  accessFlags := 49
  interfaces := #[]
  cf := some (fileOf pool1 21 #[] #[{ accessFlags := 1, nameIndex := 5, descriptorIndex := 6, attributes := #[] }, { accessFlags := 9, nameIndex := 32, descriptorIndex := 33, attributes := #[] }, { accessFlags := 10, nameIndex := 24, descriptorIndex := 25, attributes := #[] }, { accessFlags := 10, nameIndex := 28, descriptorIndex := 29, attributes := #[] }] 49 2 #[] #[])
  fields := #[]
  methods := #[k1m0, k1m1, k1m2, k1m3]
  instanceTypes := #[]
  staticTypes := #[]
  resolved := Array.replicate 39 none
  statics := none }

def pool2 : Array CpInfo := pool [(1, .class_ 2), (0, u "java/lang/Math"), (1, .class_ 6), (1, u "java/lang/Object"), (0, u "<init>"), (0, u "()V"), (89, .class_ 100), (1, u "java/lang/Math$RandomNumberGeneratorHolder"), (71, u "negativeZeroFloatBits"), (0, u "J"), (2, u "negativeZeroDoubleBits"), (21, u "max"), (46, u "$assertionsDisabled"), (0, u "Z"), (88, u "(II)I"), (2, u "twoToTheDoubleScaleDown"), (0, u "D"), (4, u "twoToTheDoubleScaleUp"), (9, u "E"), (3, u "PI"), (2, u "TAU"), (2, u "DEGREES_TO_RADIANS"), (0, u "RADIANS_TO_DEGREES")] 94

def k2m0 : Method := { name := "<init>", desc := "()V", sig := { parameters := [], returnType := none }, accessFlags := 2, code := none }
def k2c1 : Code := { maxStack := 2, maxLocals := 2, code := jdk_29_method_65_code, exceptionTable := #[], attributes := #[] }
def k2m1 : Method := { name := "max", desc := "(II)I", sig := { parameters := [.int, .int], returnType := some .int }, accessFlags := 9, code := some k2c1 }
/-- java/lang/Math -/
def k2 : Class := { plain "java/lang/Math" (some 0) with
  accessFlags := 49
  interfaces := #[]
  cf := some (fileOf pool2 1 #[.nestMembers #[98]] #[{ accessFlags := 2, nameIndex := 7, descriptorIndex := 8, attributes := #[] }, { accessFlags := 9, nameIndex := 198, descriptorIndex := 335, attributes := #[] }] 49 4 #[] #[{ accessFlags := 25, nameIndex := 354, descriptorIndex := 339, attributes := #[] }, { accessFlags := 25, nameIndex := 358, descriptorIndex := 339, attributes := #[] }, { accessFlags := 25, nameIndex := 361, descriptorIndex := 339, attributes := #[] }, { accessFlags := 26, nameIndex := 364, descriptorIndex := 339, attributes := #[] }, { accessFlags := 26, nameIndex := 365, descriptorIndex := 339, attributes := #[] }, { accessFlags := 26, nameIndex := 172, descriptorIndex := 173, attributes := #[] }, { accessFlags := 26, nameIndex := 176, descriptorIndex := 173, attributes := #[] }, { accessFlags := 8, nameIndex := 344, descriptorIndex := 339, attributes := #[] }, { accessFlags := 8, nameIndex := 338, descriptorIndex := 339, attributes := #[] }, { accessFlags := 4120, nameIndex := 245, descriptorIndex := 246, attributes := #[] }])
  fields := #[{ name := "E", type := .double, accessFlags := 25, slot := 0, constantValue := 0 }, { name := "PI", type := .double, accessFlags := 25, slot := 1, constantValue := 0 }, { name := "TAU", type := .double, accessFlags := 25, slot := 2, constantValue := 0 }, { name := "DEGREES_TO_RADIANS", type := .double, accessFlags := 26, slot := 3, constantValue := 0 }, { name := "RADIANS_TO_DEGREES", type := .double, accessFlags := 26, slot := 4, constantValue := 0 }, { name := "negativeZeroFloatBits", type := .long, accessFlags := 26, slot := 5, constantValue := 0 }, { name := "negativeZeroDoubleBits", type := .long, accessFlags := 26, slot := 6, constantValue := 0 }, { name := "twoToTheDoubleScaleUp", type := .double, accessFlags := 8, slot := 7, constantValue := 0 }, { name := "twoToTheDoubleScaleDown", type := .double, accessFlags := 8, slot := 8, constantValue := 0 }, { name := "$assertionsDisabled", type := .boolean, accessFlags := 4120, slot := 9, constantValue := 0 }]
  methods := #[k2m0, k2m1]
  instanceTypes := #[]
  staticTypes := #[.double, .double, .double, .double, .double, .long, .long, .double, .double, .boolean]
  resolved := Array.replicate 460 none
  statics := none }

def pool3 : Array CpInfo := pool [(2, .class_ 4), (1, u "java/lang/Object"), (0, u "<init>"), (0, u "()V"), (6, .class_ 14), (0, u "com/example/muster/muster/search/Grouping"), (2, u "starts"), (0, u "(I[I)[I")] 5

def k3m0 : Method := { name := "<init>", desc := "()V", sig := { parameters := [], returnType := none }, accessFlags := 2, code := none }
def k3c1 : Code := { maxStack := 5, maxLocals := 7, code := prog_46_method_2_code, exceptionTable := #[], attributes := #[] }
def k3m1 : Method := { name := "starts", desc := "(I[I)[I", sig := { parameters := [.int, (.array .int)], returnType := some (.array .int) }, accessFlags := 8, code := some k3c1 }
/-- com/example/muster/muster/search/Grouping -/
def k3 : Class := { plain "com/example/muster/muster/search/Grouping" (some 0) with
  accessFlags := 32
  interfaces := #[]
  cf := some (fileOf pool3 13 #[] #[{ accessFlags := 2, nameIndex := 5, descriptorIndex := 6, attributes := #[] }, { accessFlags := 8, nameIndex := 17, descriptorIndex := 18, attributes := #[] }] 32 2 #[] #[])
  fields := #[]
  methods := #[k3m0, k3m1]
  instanceTypes := #[]
  staticTypes := #[]
  resolved := Array.replicate 24 none
  statics := none }

def pool4 : Array CpInfo := pool [(1, u "java/lang/Cloneable"), (0, .class_ 1), (0, u "java/lang/Object"), (0, .class_ 3)] 3

/-- java/lang/Cloneable -/
def k4 : Class := { plain "java/lang/Cloneable" (some 0) with
  accessFlags := 1537
  interfaces := #[]
  cf := some (fileOf pool4 2 #[] #[] 1537 4 #[] #[])
  fields := #[]
  methods := #[]
  instanceTypes := #[]
  staticTypes := #[]
  resolved := Array.replicate 8 none
  statics := none }

def pool5 : Array CpInfo := pool [(1, u "java/io/Serializable"), (0, .class_ 1), (0, u "java/lang/Object"), (0, .class_ 3)] 3

/-- java/io/Serializable -/
def k5 : Class := { plain "java/io/Serializable" (some 0) with
  accessFlags := 1537
  interfaces := #[]
  cf := some (fileOf pool5 2 #[] #[] 1537 4 #[] #[])
  fields := #[]
  methods := #[]
  instanceTypes := #[]
  staticTypes := #[]
  resolved := Array.replicate 8 none
  statics := none }

/-- the primitive byte -/
def k6 : Class := { plain "byte" none with kind := .primitive 'B', accessFlags := 0x411 }
/-- [B -/
def k7 : Class := { plain "[B" (some 0) with kind := .array 6 .byte, interfaces := #[4, 5], accessFlags := 1041 }

/-- the primitive int -/
def k8 : Class := { plain "int" none with kind := .primitive 'I', accessFlags := 0x411 }
/-- [I -/
def k9 : Class := { plain "[I" (some 0) with kind := .array 8 .int, interfaces := #[4, 5], accessFlags := 1041 }

def heap : Heap := #[]
def classes : Array Class := #[k0, k1, k2, k3, k4, k5, k6, k7, k8, k9]
def interned : List (Array UInt16 × Addr) := []
def slotsUsed : Nat := 0
def theMethod : MethodId := ⟨1, 1⟩
def args0 : Array Value := #[.int 5, .int 7, .int 9, .int 11, .int 13, .int 15]
def aboutOver (below : List Frame) : State where
  vm := { classes := classes, interned := interned.toArray }
  heap := heap
  slotsUsed := slotsUsed
  threads := #[{ frames := .invoking theMethod args0 :: below }]
def below0 : List Frame := [.native { method := ⟨0, 0⟩, args := #[] }]
def about1 : State := aboutOver below0
def p0 : Program := .bare "" "" ""
def e0 : Env := launch0.env 0 0 0
theorem w_frames : about1.frames = Frame.invoking theMethod args0 :: below0 := rfl
set_option maxRecDepth 65536 in
theorem w_args : argsFit about1.vm theMethod args0 = true := by decide +kernel
set_option maxRecDepth 65536 in
theorem w_heap : heapFits about1 = true := by decide +kernel
set_option maxRecDepth 65536 in
theorem w_runnable : about1.curStatus? = some .runnable := by decide +kernel
set_option maxRecDepth 65536 in
theorem w_alone : about1.alone = true := by decide +kernel
set_option maxRecDepth 65536 in
theorem w_named : about1.methodNamed? x = some theMethod := by decide +kernel
set_option maxRecDepth 65536 in
theorem w_hears : about1.hears theMethod below0 = true := by decide +kernel
set_option maxRecDepth 65536 in
theorem w_ripe : about1.ripe theMethod args0 below0 = true := by decide +kernel
theorem w_running : about1.status = .running := rfl
set_option maxRecDepth 65536 in
theorem w_room : about1.hasRoom e0.platform room_1 = true :=
  launch0.hasRoom_least _ room_1 (by decide +kernel) (by decide +kernel) (by decide +kernel) (by decide +kernel) (by decide +kernel) (by decide +kernel)
theorem allAtoms_all (ts : List Jvm.Cond) (a : Array Jvm.Value) (st : Jvm.State) : (allAtoms ts).before a st = ts.all (fun c => c.before a st) := by
  induction ts with
  | nil => rfl
  | cons c t ih =>
    show (Jvm.Cond.and c (allAtoms t)).before a st = _
    rw [Jvm.Cond.before_and, ih, List.all_cons]
def words1 : List Jvm.Cond := Jvm.Cond.code x code maxLocals ret :: tables_1
/-- a 'code' word, met by the world's own term for the bytes: nothing is compared byte by byte -/
theorem code_word {y : MethodName} {bytes : ByteArray} {mx : Nat} {rt : Option FieldType} {a : Array Value} {s : State} {m : MethodId} {meth : Method} {c : Code} (h1 : s.methodNamed? y = some m) (h2 : s.vm.method? m = some meth) (h3 : meth.code = some c) (h4 : c.code = bytes)
    (h5 : (c.maxLocals == mx && c.exceptionTable.isEmpty && decide (c.maxStack ≤ mostOperands) && decide (meth.sig.returnType = rt) && !meth.locks && decide (parseMethodDescriptor y.desc = some meth.sig)) = true) : (Jvm.Cond.code y bytes mx rt).before a s = true := by
  simp only [Bool.and_eq_true, beq_iff_eq, Bool.not_eq_true', decide_eq_true_eq] at h5
  obtain ⟨⟨⟨⟨⟨g1, g2⟩, g3⟩, g4⟩, g5⟩, g6⟩ := h5
  simp [Cond.before, Cond.holds, Cond.value, h1, h2, h3, h4, g1, g2, g3, g4, g5, g6]
def isCode : Jvm.Cond → Bool
  | .code _ _ _ _ => true
  | _ => false
theorem all_split {L : List Jvm.Cond} {P : Jvm.Cond → Bool} (h1 : L.all (fun c => isCode c || P c) = true) (h2 : ∀ c ∈ L.filter isCode, P c = true) : L.all P = true := by
  refine List.all_eq_true.mpr fun c hc => ?_
  have h := List.all_eq_true.mp h1 c hc
  rcases Bool.eq_false_or_eq_true (isCode c) with hi | hi
  · exact h2 c (List.mem_filter.mpr ⟨hc, hi⟩)
  · simpa [hi] using h
set_option maxRecDepth 65536 in
theorem w_c0 : (Jvm.Cond.code x code maxLocals ret).before args0 about1 = true := code_word (m := ⟨1, 1⟩) (meth := k1m1) (c := k1c1) (by decide +kernel) rfl rfl rfl (by decide +kernel)
set_option maxRecDepth 65536 in
theorem w_c1 : (Jvm.Cond.code ({ cls := "java/lang/Math", name := "max", desc := "(II)I" } : Jvm.MethodName) jdk_29_method_65_code (2 : Nat) (Option.some Jvm.ClassFile.FieldType.int)).before args0 about1 = true := code_word (m := ⟨2, 1⟩) (meth := k2m1) (c := k2c1) (by decide +kernel) rfl rfl rfl (by decide +kernel)
set_option maxRecDepth 65536 in
theorem w_c2 : (Jvm.Cond.code ({ cls := "com/example/muster/muster/search/Grouping", name := "starts", desc := "(I[I)[I" } : Jvm.MethodName) prog_46_method_2_code (7 : Nat) (Option.some (Jvm.ClassFile.FieldType.array Jvm.ClassFile.FieldType.int))).before args0 about1 = true := code_word (m := ⟨3, 1⟩) (meth := k3m1) (c := k3c1) (by decide +kernel) rfl rfl rfl (by decide +kernel)
set_option maxRecDepth 65536 in
theorem w_c3 : (Jvm.Cond.code ({ cls := "com/example/muster/muster/search/GroupingStartsPinLaw", name := "check", desc := "([IIIIIIII)Z" } : Jvm.MethodName) method_3_code (9 : Nat) (Option.some Jvm.ClassFile.FieldType.boolean)).before args0 about1 = true := code_word (m := ⟨1, 2⟩) (meth := k1m2) (c := k1c2) (by decide +kernel) rfl rfl rfl (by decide +kernel)
set_option maxRecDepth 65536 in
theorem w_c4 : (Jvm.Cond.code ({ cls := "com/example/muster/muster/search/GroupingStartsPinLaw", name := "below", desc := "(IIII)I" } : Jvm.MethodName) method_4_code (4 : Nat) (Option.some Jvm.ClassFile.FieldType.int)).before args0 about1 = true := code_word (m := ⟨1, 3⟩) (meth := k1m3) (c := k1c3) (by decide +kernel) rfl rfl rfl (by decide +kernel)
def codes1 : List Jvm.Cond := [Jvm.Cond.code x code maxLocals ret, Jvm.Cond.code ({ cls := "java/lang/Math", name := "max", desc := "(II)I" } : Jvm.MethodName) jdk_29_method_65_code (2 : Nat) (Option.some Jvm.ClassFile.FieldType.int), Jvm.Cond.code ({ cls := "com/example/muster/muster/search/Grouping", name := "starts", desc := "(I[I)[I" } : Jvm.MethodName) prog_46_method_2_code (7 : Nat) (Option.some (Jvm.ClassFile.FieldType.array Jvm.ClassFile.FieldType.int)), Jvm.Cond.code ({ cls := "com/example/muster/muster/search/GroupingStartsPinLaw", name := "check", desc := "([IIIIIIII)Z" } : Jvm.MethodName) method_3_code (9 : Nat) (Option.some Jvm.ClassFile.FieldType.boolean), Jvm.Cond.code ({ cls := "com/example/muster/muster/search/GroupingStartsPinLaw", name := "below", desc := "(IIII)I" } : Jvm.MethodName) method_4_code (4 : Nat) (Option.some Jvm.ClassFile.FieldType.int)]
set_option maxRecDepth 65536 in
theorem codes_eq : words1.filter isCode = codes1 := rfl
theorem w_codes : ∀ c ∈ words1.filter isCode, c.before args0 about1 = true := by
  rw [codes_eq]
  intro c hc
  simp only [codes1, List.mem_cons, List.not_mem_nil, or_false] at hc
  rcases hc with rfl | rfl | rfl | rfl | rfl
  · exact w_c0
  · exact w_c1
  · exact w_c2
  · exact w_c3
  · exact w_c4
set_option maxRecDepth 65536 in
theorem w_t1 : words1.all (fun c => isCode c || c.before args0 about1) = true := by decide +kernel
theorem w_tables : (allAtoms (Jvm.Cond.code x code maxLocals ret :: tables_1)).before args0 about1 = true := by
  rw [allAtoms_all]
  show words1.all (fun c => c.before args0 about1) = true
  refine all_split ?_ w_codes
  rw [w_t1]
set_option maxRecDepth 65536 in
theorem w_case : (Jvm.Cond.and given_1 narrow_1).before args0 about1 = true := by decide +kernel
theorem w_applies : (headSpec (Jvm.Cond.code x code maxLocals ret :: tables_1) room_1).applies x e0.platform about1 = true :=
  (Spec.applies_iff w_frames).mpr ⟨w_running, w_runnable, w_alone, w_named, w_hears, w_ripe, w_room, w_tables⟩
theorem atStart : AtStart classFile x code maxLocals ret World_1 tables_1 room_1 Calls_1 rest_1 Pre_1 launch0 p0 e0 about1 theMethod args0 below0 :=
  ⟨lists_1, trivial, launch0.admits_env _ _ _, launch0.least_env, fairChoices_fair.cas, fairChoices_fair.clock, w_frames, w_args, w_heap, w_applies, trivial, trivial, w_case⟩
end start1
theorem witness_1 : WitnessClaimed_1 := ⟨start1.p0, start1.e0, start1.about1, start1.theMethod, start1.args0, start1.below0, start1.atStart⟩
end Jvm.Pilot.@@N@@
