import JvmDerived
import JvmDerived.Pilot.@@N@@Statement
import JvmDerived.Pilot.@@N@@Code
set_option linter.unusedVariables false
set_option linter.unusedSimpArgs false
namespace Jvm.Pilot.@@N@@
open Jvm Jvm.ClassFile Sem Op Lib Jvm.Free Jvm.Stand Jvm.LawKit Jvm.RoadKit Bundle Jvm.Pilot.@@N@@.Jvm.D
section OwnKit
variable {p : Program} {l : Launch} {e : Env} {R : Room} {s : State} {m : MethodId} {args : Array Value} {below : List Frame} {meth : Method} {c : Code} {T T' : State} {locs : List Loc} {cells slots kc kn : Nat} {Q : Option Value → Heap → List Loc → Prop} {f f' : JFrame} {pc q q' : Nat} {Ls Ls' : Array Slot} {st : List Value} {Z : State} {a0 : Array Value} {h : Heap} {by' : ByteArray} {ml : Nat} {own nm : String} {ret : Option FieldType}
/-- from this state, with this frame on top, the body returns as Q says -/
def Run (p : Program) (e : Env) (below : List Frame) (s : State) (kc kn : Nat) (Q : Option Value → Heap → List Loc → Prop) (T : State) (f : JFrame) : Prop :=
  ∃ t o, Steps p.tables e below (T.setTop f) t ∧ t.status = .running ∧ Ended t below o ∧ ∃ v L, o = .returned v ∧ Q v t.heap L ∧ FrameEnd s o t L kc kn
theorem Run.by (st : ∀ t, Steps p.tables e below (T'.setTop f') t → Steps p.tables e below (T.setTop f) t) (k : Run p e below s kc kn Q T' f') : Run p e below s kc kn Q T f := by
  obtain ⟨t, o, h1, r⟩ := k
  exact ⟨t, o, st t h1, r⟩
theorem Run.on (k : Run p e below s kc kn Q T' f') (st : Steps p.tables e below (T.setTop f) (T'.setTop f')) : Run p e below s kc kn Q T f := k.by fun _ h1 => st.trans h1
/-- what a walk knows of its method throughout -/
def Fx (p : Program) (s : State) (m : MethodId) (meth : Method) (c : Code) (by' : ByteArray) (ml : Nat) (own nm : String) (ret : Option FieldType) (Z : State) : Prop :=
  p.tables.exec = Jvm.exec ∧ c.code = by' ∧ c.maxLocals = ml ∧ s.vm.findClass own = some m.cls ∧ Z.Warmed39 s.vm ∧ meth.sig.returnType = ret ∧ meth.locks = false ∧ meth.name = nm
def shrI (x k : Int32) : Int32 := x >>> (k &&& 31)
theorem k_iloadN (K : Fx p s m meth c by' ml own nm ret Z) (X : Stand p l e R s m args below meth c T locs cells slots) {k' : Fin 4} {v : Int32} (hd : decode by' pc = .ok (.iload_n k', 1)) (hl : Ls[k'.val]? = some (.val (.int v))) (hq : pc + 1 = q) (k : Run p e below s kc kn Q T (mkF m q Ls (.int v :: st))) : Run p e below s kc kn Q T (mkF m pc Ls st) := by
  subst hq; exact k.by fun t => XS.iloadN X.here K.1 rfl (hb K.2.1 hd) hl
theorem k_iload (K : Fx p s m meth c by' ml own nm ret Z) (X : Stand p l e R s m args below meth c T locs cells slots) {k' : Nat} {v : Int32} (hd : decode by' pc = .ok (.iload k', 2)) (hl : Ls[k']? = some (.val (.int v))) (hq : pc + 2 = q) (k : Run p e below s kc kn Q T (mkF m q Ls (.int v :: st))) : Run p e below s kc kn Q T (mkF m pc Ls st) := by
  subst hq; exact k.by fun t => XS.iload X.here K.1 rfl (hb K.2.1 hd) hl
theorem k_lloadN (K : Fx p s m meth c by' ml own nm ret Z) (X : Stand p l e R s m args below meth c T locs cells slots) {k' : Fin 4} {v : Int64} (hd : decode by' pc = .ok (.lload_n k', 1)) (hl : Ls[k'.val]? = some (.val (.long v))) (hq : pc + 1 = q) (k : Run p e below s kc kn Q T (mkF m q Ls (.long v :: st))) : Run p e below s kc kn Q T (mkF m pc Ls st) := by
  subst hq; exact k.by fun t => XS.lloadN X.here K.1 rfl (hb K.2.1 hd) hl
theorem k_lload (K : Fx p s m meth c by' ml own nm ret Z) (X : Stand p l e R s m args below meth c T locs cells slots) {k' : Nat} {v : Int64} (hd : decode by' pc = .ok (.lload k', 2)) (hl : Ls[k']? = some (.val (.long v))) (hq : pc + 2 = q) (k : Run p e below s kc kn Q T (mkF m q Ls (.long v :: st))) : Run p e below s kc kn Q T (mkF m pc Ls st) := by
  subst hq; exact k.by fun t => XS.lload X.here K.1 rfl (hb K.2.1 hd) hl
theorem k_aloadN (K : Fx p s m meth c by' ml own nm ret Z) (X : Stand p l e R s m args below meth c T locs cells slots) {k' : Fin 4} {v : Value} (hd : decode by' pc = .ok (.aload_n k', 1)) (hl : Ls[k'.val]? = some (.val v)) (hv : v.isRef = true) (hq : pc + 1 = q) (k : Run p e below s kc kn Q T (mkF m q Ls (v :: st))) : Run p e below s kc kn Q T (mkF m pc Ls st) := by
  subst hq; exact k.by fun t => XS.aloadN X.here K.1 rfl (hb K.2.1 hd) hl hv
theorem k_aload (K : Fx p s m meth c by' ml own nm ret Z) (X : Stand p l e R s m args below meth c T locs cells slots) {k' : Nat} {v : Value} (hd : decode by' pc = .ok (.aload k', 2)) (hl : Ls[k']? = some (.val v)) (hv : v.isRef = true) (hq : pc + 2 = q) (k : Run p e below s kc kn Q T (mkF m q Ls (v :: st))) : Run p e below s kc kn Q T (mkF m pc Ls st) := by
  subst hq; exact k.by fun t => XS.aload X.here K.1 rfl (hb K.2.1 hd) hl hv
theorem k_istore (K : Fx p s m meth c by' ml own nm ret Z) (X : Stand p l e R s m args below meth c T locs cells slots) {k' : Nat} {v x : Int32} (hd : decode by' pc = .ok (.istore k', 2)) (hv : x = v) (hl : storeLocals Ls k' (.int v) = some Ls') (hq : pc + 2 = q) (k : Run p e below s kc kn Q T (mkF m q Ls' st)) : Run p e below s kc kn Q T (mkF m pc Ls (.int x :: st)) := by
  subst hq hv; exact k.by fun t => XS.istore X.here K.1 rfl (hb K.2.1 hd) rfl hl
theorem k_lstore (K : Fx p s m meth c by' ml own nm ret Z) (X : Stand p l e R s m args below meth c T locs cells slots) {k' : Nat} {v x : Int64} (hd : decode by' pc = .ok (.lstore k', 2)) (hv : x = v) (hl : storeLocals Ls k' (.long v) = some Ls') (hq : pc + 2 = q) (k : Run p e below s kc kn Q T (mkF m q Ls' st)) : Run p e below s kc kn Q T (mkF m pc Ls (.long x :: st)) := by
  subst hq hv; exact k.by fun t => XS.lstore X.here K.1 rfl (hb K.2.1 hd) rfl hl
theorem k_astore (K : Fx p s m meth c by' ml own nm ret Z) (X : Stand p l e R s m args below meth c T locs cells slots) {k' : Nat} {v : Value} (hd : decode by' pc = .ok (.astore k', 2)) (hv : v.isRef = true) (hl : storeLocals Ls k' v = some Ls') (hq : pc + 2 = q) (k : Run p e below s kc kn Q T (mkF m q Ls' st)) : Run p e below s kc kn Q T (mkF m pc Ls (v :: st)) := by
  subst hq; exact k.by fun t => XS.astore X.here K.1 rfl (hb K.2.1 hd) rfl hv hl
theorem k_iconst (K : Fx p s m meth c by' ml own nm ret Z) (X : Stand p l e R s m args below meth c T locs cells slots) {i : Int} {v : Int32} (hd : decode by' pc = .ok (.iconst i, 1)) (hv : Int32.ofInt i = v) (hq : pc + 1 = q) (k : Run p e below s kc kn Q T (mkF m q Ls (.int v :: st))) : Run p e below s kc kn Q T (mkF m pc Ls st) := by
  subst hq hv; exact k.by fun t => XS.iconst X.here K.1 rfl (hb K.2.1 hd)
theorem k_lconst1 (K : Fx p s m meth c by' ml own nm ret Z) (X : Stand p l e R s m args below meth c T locs cells slots) (hd : decode by' pc = .ok (.lconst 1, 1)) (hq : pc + 1 = q) (k : Run p e below s kc kn Q T (mkF m q Ls (.long 1 :: st))) : Run p e below s kc kn Q T (mkF m pc Ls st) := by
  subst hq; exact k.by fun t => XS.lconst X.here K.1 rfl (hb K.2.1 hd)
theorem k_ladd (K : Fx p s m meth c by' ml own nm ret Z) (X : Stand p l e R s m args below meth c T locs cells slots) {x y : Int64} (hd : decode by' pc = .ok (.ladd, 1)) (hq : pc + 1 = q) (k : Run p e below s kc kn Q T (mkF m q Ls (.long (x + y) :: st))) : Run p e below s kc kn Q T (mkF m pc Ls (.long y :: .long x :: st)) := by
  subst hq; exact k.by fun t => XS.ladd X.here K.1 rfl (hb K.2.1 hd) rfl
theorem k_lsub (K : Fx p s m meth c by' ml own nm ret Z) (X : Stand p l e R s m args below meth c T locs cells slots) {x y : Int64} (hd : decode by' pc = .ok (.lsub, 1)) (hq : pc + 1 = q) (k : Run p e below s kc kn Q T (mkF m q Ls (.long (x - y) :: st))) : Run p e below s kc kn Q T (mkF m pc Ls (.long y :: .long x :: st)) := by
  subst hq; exact k.by fun t => XS.lsub X.here K.1 rfl (hb K.2.1 hd) rfl
theorem k_iand (K : Fx p s m meth c by' ml own nm ret Z) (X : Stand p l e R s m args below meth c T locs cells slots) {x y : Int32} (hd : decode by' pc = .ok (.iand, 1)) (hq : pc + 1 = q) (k : Run p e below s kc kn Q T (mkF m q Ls (.int (x &&& y) :: st))) : Run p e below s kc kn Q T (mkF m pc Ls (.int y :: .int x :: st)) := by
  subst hq; exact k.by fun t => XS.iand X.here K.1 rfl (hb K.2.1 hd) rfl
theorem k_ishr (K : Fx p s m meth c by' ml own nm ret Z) (X : Stand p l e R s m args below meth c T locs cells slots) {x y : Int32} (hd : decode by' pc = .ok (.ishr, 1)) (hq : pc + 1 = q) (k : Run p e below s kc kn Q T (mkF m q Ls (.int (shrI x y) :: st))) : Run p e below s kc kn Q T (mkF m pc Ls (.int y :: .int x :: st)) := by
  subst hq; exact k.by fun t => XS.ishr X.here K.1 rfl (hb K.2.1 hd) rfl
theorem k_lcmp (K : Fx p s m meth c by' ml own nm ret Z) (X : Stand p l e R s m args below meth c T locs cells slots) {x y : Int64} (hd : decode by' pc = .ok (.lcmp, 1)) (hq : pc + 1 = q) (k : Run p e below s kc kn Q T (mkF m q Ls (.int (lcmpW x y) :: st))) : Run p e below s kc kn Q T (mkF m pc Ls (.long y :: .long x :: st)) := by
  subst hq; exact k.by fun t => XS.lcmp X.here K.1 rfl (hb K.2.1 hd) rfl
theorem k_dup (K : Fx p s m meth c by' ml own nm ret Z) (X : Stand p l e R s m args below meth c T locs cells slots) {v : Value} (hd : decode by' pc = .ok (.dup, 1)) (hc : v.category = 1) (hq : pc + 1 = q) (k : Run p e below s kc kn Q T (mkF m q Ls (v :: v :: st))) : Run p e below s kc kn Q T (mkF m pc Ls (v :: st)) := by
  subst hq; exact k.by fun t => XS.dup X.here K.1 rfl (hb K.2.1 hd) rfl hc
theorem k_goto (K : Fx p s m meth c by' ml own nm ret Z) (X : Stand p l e R s m args below meth c T locs cells slots) {o : Int} (hd : decode by' pc = .ok (.goto o, 3)) (ho : 0 ≤ (pc : Int) + o) (hq : ((pc : Int) + o).toNat = q) (k : Run p e below s kc kn Q T (mkF m q Ls st)) : Run p e below s kc kn Q T (mkF m pc Ls st) := k.by fun t => XS.goto X.here K.1 rfl rfl (hb K.2.1 hd) ho hq
theorem k_if_eq_y (K : Fx p s m meth c by' ml own nm ret Z) (X : Stand p l e R s m args below meth c T locs cells slots) {x : Int32} {o : Int} (hd : decode by' pc = .ok (.ifCond .eq o, 3)) (hc : x = 0) (ho : 0 ≤ (pc : Int) + o) (hq : ((pc : Int) + o).toNat = q) (k : Run p e below s kc kn Q T (mkF m q Ls st)) : Run p e below s kc kn Q T (mkF m pc Ls (.int x :: st)) := k.by fun t => XS.ifYes X.here K.1 rfl rfl (hb K.2.1 hd) rfl ((if0 _ _).trans (teq hc).1) ho hq
theorem k_if_eq_n (K : Fx p s m meth c by' ml own nm ret Z) (X : Stand p l e R s m args below meth c T locs cells slots) {x : Int32} {o : Int} (hd : decode by' pc = .ok (.ifCond .eq o, 3)) (hc : ¬ x = 0) (hq : pc + 3 = q) (k : Run p e below s kc kn Q T (mkF m q Ls st)) : Run p e below s kc kn Q T (mkF m pc Ls (.int x :: st)) := by
  subst hq; exact k.by fun t => XS.ifNo X.here K.1 rfl (hb K.2.1 hd) rfl ((if0 _ _).trans (feq hc).1)
theorem k_if_eq (K : Fx p s m meth c by' ml own nm ret Z) (X : Stand p l e R s m args below meth c T locs cells slots) {x : Int32} {o : Int} (hd : decode by' pc = .ok (.ifCond .eq o, 3)) (ho : 0 ≤ (pc : Int) + o) (hq : ((pc : Int) + o).toNat = q) (hq' : pc + 3 = q') (ky : x = 0 → Run p e below s kc kn Q T (mkF m q Ls st)) (kno : ¬ x = 0 → Run p e below s kc kn Q T (mkF m q' Ls st)) : Run p e below s kc kn Q T (mkF m pc Ls (.int x :: st)) := by
  by_cases hc : x = 0
  · exact k_if_eq_y K X hd hc ho hq (ky hc)
  · exact k_if_eq_n K X hd hc hq' (kno hc)
theorem k_if_ne_y (K : Fx p s m meth c by' ml own nm ret Z) (X : Stand p l e R s m args below meth c T locs cells slots) {x : Int32} {o : Int} (hd : decode by' pc = .ok (.ifCond .ne o, 3)) (hc : ¬ x = 0) (ho : 0 ≤ (pc : Int) + o) (hq : ((pc : Int) + o).toNat = q) (k : Run p e below s kc kn Q T (mkF m q Ls st)) : Run p e below s kc kn Q T (mkF m pc Ls (.int x :: st)) := k.by fun t => XS.ifYes X.here K.1 rfl rfl (hb K.2.1 hd) rfl ((if0 _ _).trans (feq hc).2) ho hq
theorem k_if_ne_n (K : Fx p s m meth c by' ml own nm ret Z) (X : Stand p l e R s m args below meth c T locs cells slots) {x : Int32} {o : Int} (hd : decode by' pc = .ok (.ifCond .ne o, 3)) (hc : x = 0) (hq : pc + 3 = q) (k : Run p e below s kc kn Q T (mkF m q Ls st)) : Run p e below s kc kn Q T (mkF m pc Ls (.int x :: st)) := by
  subst hq; exact k.by fun t => XS.ifNo X.here K.1 rfl (hb K.2.1 hd) rfl ((if0 _ _).trans (teq hc).2)
theorem k_if_ne (K : Fx p s m meth c by' ml own nm ret Z) (X : Stand p l e R s m args below meth c T locs cells slots) {x : Int32} {o : Int} (hd : decode by' pc = .ok (.ifCond .ne o, 3)) (ho : 0 ≤ (pc : Int) + o) (hq : ((pc : Int) + o).toNat = q) (hq' : pc + 3 = q') (ky : ¬ x = 0 → Run p e below s kc kn Q T (mkF m q Ls st)) (kno : x = 0 → Run p e below s kc kn Q T (mkF m q' Ls st)) : Run p e below s kc kn Q T (mkF m pc Ls (.int x :: st)) := by
  by_cases hc : x = 0
  · exact k_if_ne_n K X hd hc hq' (kno hc)
  · exact k_if_ne_y K X hd hc ho hq (ky hc)
theorem k_icmp_ne_y (K : Fx p s m meth c by' ml own nm ret Z) (X : Stand p l e R s m args below meth c T locs cells slots) {x y : Int32} {o : Int} (hd : decode by' pc = .ok (.if_icmp .ne o, 3)) (hc : ¬ x = y) (ho : 0 ≤ (pc : Int) + o) (hq : ((pc : Int) + o).toNat = q) (k : Run p e below s kc kn Q T (mkF m q Ls st)) : Run p e below s kc kn Q T (mkF m pc Ls (.int y :: .int x :: st)) := k.by fun t => XS.icmpYes X.here K.1 rfl rfl (hb K.2.1 hd) rfl (feq hc).2 ho hq
theorem k_icmp_ne_n (K : Fx p s m meth c by' ml own nm ret Z) (X : Stand p l e R s m args below meth c T locs cells slots) {x y : Int32} {o : Int} (hd : decode by' pc = .ok (.if_icmp .ne o, 3)) (hc : x = y) (hq : pc + 3 = q) (k : Run p e below s kc kn Q T (mkF m q Ls st)) : Run p e below s kc kn Q T (mkF m pc Ls (.int y :: .int x :: st)) := by
  subst hq; exact k.by fun t => XS.icmpNo X.here K.1 rfl (hb K.2.1 hd) rfl (teq hc).2
theorem k_icmp_ne (K : Fx p s m meth c by' ml own nm ret Z) (X : Stand p l e R s m args below meth c T locs cells slots) {x y : Int32} {o : Int} (hd : decode by' pc = .ok (.if_icmp .ne o, 3)) (ho : 0 ≤ (pc : Int) + o) (hq : ((pc : Int) + o).toNat = q) (hq' : pc + 3 = q') (ky : ¬ x = y → Run p e below s kc kn Q T (mkF m q Ls st)) (kno : x = y → Run p e below s kc kn Q T (mkF m q' Ls st)) : Run p e below s kc kn Q T (mkF m pc Ls (.int y :: .int x :: st)) := by
  by_cases hc : x = y
  · exact k_icmp_ne_n K X hd hc hq' (kno hc)
  · exact k_icmp_ne_y K X hd hc ho hq (ky hc)
theorem k_lcmp_ne_y (K : Fx p s m meth c by' ml own nm ret Z) (X : Stand p l e R s m args below meth c T locs cells slots) {x y : Int64} {o : Int} (hd : decode by' pc = .ok (.ifCond .ne o, 3)) (hc : ¬ x = y) (ho : 0 ≤ (pc : Int) + o) (hq : ((pc : Int) + o).toNat = q) (k : Run p e below s kc kn Q T (mkF m q Ls st)) : Run p e below s kc kn Q T (mkF m pc Ls (.int (lcmpW x y) :: st)) := k_if_ne_y K X hd (fun z => hc ((lw_eq x y).mp z)) ho hq k
theorem k_lcmp_ne_n (K : Fx p s m meth c by' ml own nm ret Z) (X : Stand p l e R s m args below meth c T locs cells slots) {x y : Int64} {o : Int} (hd : decode by' pc = .ok (.ifCond .ne o, 3)) (hc : x = y) (hq : pc + 3 = q) (k : Run p e below s kc kn Q T (mkF m q Ls st)) : Run p e below s kc kn Q T (mkF m pc Ls (.int (lcmpW x y) :: st)) := k_if_ne_n K X hd ((lw_eq x y).mpr hc) hq k
theorem k_lcmp_ne (K : Fx p s m meth c by' ml own nm ret Z) (X : Stand p l e R s m args below meth c T locs cells slots) {x y : Int64} {o : Int} (hd : decode by' pc = .ok (.ifCond .ne o, 3)) (ho : 0 ≤ (pc : Int) + o) (hq : ((pc : Int) + o).toNat = q) (hq' : pc + 3 = q') (ky : ¬ x = y → Run p e below s kc kn Q T (mkF m q Ls st)) (kno : x = y → Run p e below s kc kn Q T (mkF m q' Ls st)) : Run p e below s kc kn Q T (mkF m pc Ls (.int (lcmpW x y) :: st)) := by
  by_cases hc : x = y
  · exact k_lcmp_ne_n K X hd hc hq' (kno hc)
  · exact k_lcmp_ne_y K X hd hc ho hq (ky hc)
theorem k_if_ge_y (K : Fx p s m meth c by' ml own nm ret Z) (X : Stand p l e R s m args below meth c T locs cells slots) {x : Int32} {o : Int} (hd : decode by' pc = .ok (.ifCond .ge o, 3)) (hc : ¬ x < 0) (ho : 0 ≤ (pc : Int) + o) (hq : ((pc : Int) + o).toNat = q) (k : Run p e below s kc kn Q T (mkF m q Ls st)) : Run p e below s kc kn Q T (mkF m pc Ls (.int x :: st)) := k.by fun t => XS.ifYes X.here K.1 rfl rfl (hb K.2.1 hd) rfl ((if0 _ _).trans (flt hc).2.1) ho hq
theorem k_if_ge_n (K : Fx p s m meth c by' ml own nm ret Z) (X : Stand p l e R s m args below meth c T locs cells slots) {x : Int32} {o : Int} (hd : decode by' pc = .ok (.ifCond .ge o, 3)) (hc : x < 0) (hq : pc + 3 = q) (k : Run p e below s kc kn Q T (mkF m q Ls st)) : Run p e below s kc kn Q T (mkF m pc Ls (.int x :: st)) := by
  subst hq; exact k.by fun t => XS.ifNo X.here K.1 rfl (hb K.2.1 hd) rfl ((if0 _ _).trans (tlt hc).2.1)
theorem k_lcmp_ge_y (K : Fx p s m meth c by' ml own nm ret Z) (X : Stand p l e R s m args below meth c T locs cells slots) {x y : Int64} {o : Int} (hd : decode by' pc = .ok (.ifCond .ge o, 3)) (hc : ¬ x < y) (ho : 0 ≤ (pc : Int) + o) (hq : ((pc : Int) + o).toNat = q) (k : Run p e below s kc kn Q T (mkF m q Ls st)) : Run p e below s kc kn Q T (mkF m pc Ls (.int (lcmpW x y) :: st)) := k_if_ge_y K X hd (fun z => hc ((lw_lt x y).mp z)) ho hq k
theorem k_lcmp_ge_n (K : Fx p s m meth c by' ml own nm ret Z) (X : Stand p l e R s m args below meth c T locs cells slots) {x y : Int64} {o : Int} (hd : decode by' pc = .ok (.ifCond .ge o, 3)) (hc : x < y) (hq : pc + 3 = q) (k : Run p e below s kc kn Q T (mkF m q Ls st)) : Run p e below s kc kn Q T (mkF m pc Ls (.int (lcmpW x y) :: st)) := k_if_ge_n K X hd ((lw_lt x y).mpr hc) hq k
theorem k_lcmp_ge (K : Fx p s m meth c by' ml own nm ret Z) (X : Stand p l e R s m args below meth c T locs cells slots) {x y : Int64} {o : Int} (hd : decode by' pc = .ok (.ifCond .ge o, 3)) (ho : 0 ≤ (pc : Int) + o) (hq : ((pc : Int) + o).toNat = q) (hq' : pc + 3 = q') (ky : ¬ x < y → Run p e below s kc kn Q T (mkF m q Ls st)) (kno : x < y → Run p e below s kc kn Q T (mkF m q' Ls st)) : Run p e below s kc kn Q T (mkF m pc Ls (.int (lcmpW x y) :: st)) := by
  by_cases hc : x < y
  · exact k_lcmp_ge_n K X hd hc hq' (kno hc)
  · exact k_lcmp_ge_y K X hd hc ho hq (ky hc)
theorem k_if_gt_y (K : Fx p s m meth c by' ml own nm ret Z) (X : Stand p l e R s m args below meth c T locs cells slots) {x : Int32} {o : Int} (hd : decode by' pc = .ok (.ifCond .gt o, 3)) (hc : 0 < x) (ho : 0 ≤ (pc : Int) + o) (hq : ((pc : Int) + o).toNat = q) (k : Run p e below s kc kn Q T (mkF m q Ls st)) : Run p e below s kc kn Q T (mkF m pc Ls (.int x :: st)) := k.by fun t => XS.ifYes X.here K.1 rfl rfl (hb K.2.1 hd) rfl ((if0 _ _).trans (tlt hc).2.2.1) ho hq
theorem k_if_gt_n (K : Fx p s m meth c by' ml own nm ret Z) (X : Stand p l e R s m args below meth c T locs cells slots) {x : Int32} {o : Int} (hd : decode by' pc = .ok (.ifCond .gt o, 3)) (hc : ¬ 0 < x) (hq : pc + 3 = q) (k : Run p e below s kc kn Q T (mkF m q Ls st)) : Run p e below s kc kn Q T (mkF m pc Ls (.int x :: st)) := by
  subst hq; exact k.by fun t => XS.ifNo X.here K.1 rfl (hb K.2.1 hd) rfl ((if0 _ _).trans (flt hc).2.2.1)
theorem k_lcmp_gt_y (K : Fx p s m meth c by' ml own nm ret Z) (X : Stand p l e R s m args below meth c T locs cells slots) {x y : Int64} {o : Int} (hd : decode by' pc = .ok (.ifCond .gt o, 3)) (hc : y < x) (ho : 0 ≤ (pc : Int) + o) (hq : ((pc : Int) + o).toNat = q) (k : Run p e below s kc kn Q T (mkF m q Ls st)) : Run p e below s kc kn Q T (mkF m pc Ls (.int (lcmpW x y) :: st)) := k_if_gt_y K X hd ((lw_gt x y).mpr hc) ho hq k
theorem k_lcmp_gt_n (K : Fx p s m meth c by' ml own nm ret Z) (X : Stand p l e R s m args below meth c T locs cells slots) {x y : Int64} {o : Int} (hd : decode by' pc = .ok (.ifCond .gt o, 3)) (hc : ¬ y < x) (hq : pc + 3 = q) (k : Run p e below s kc kn Q T (mkF m q Ls st)) : Run p e below s kc kn Q T (mkF m pc Ls (.int (lcmpW x y) :: st)) := k_if_gt_n K X hd (fun z => hc ((lw_gt x y).mp z)) hq k
theorem k_lcmp_gt (K : Fx p s m meth c by' ml own nm ret Z) (X : Stand p l e R s m args below meth c T locs cells slots) {x y : Int64} {o : Int} (hd : decode by' pc = .ok (.ifCond .gt o, 3)) (ho : 0 ≤ (pc : Int) + o) (hq : ((pc : Int) + o).toNat = q) (hq' : pc + 3 = q') (ky : y < x → Run p e below s kc kn Q T (mkF m q Ls st)) (kno : ¬ y < x → Run p e below s kc kn Q T (mkF m q' Ls st)) : Run p e below s kc kn Q T (mkF m pc Ls (.int (lcmpW x y) :: st)) := by
  by_cases hc : y < x
  · exact k_lcmp_gt_y K X hd hc ho hq (ky hc)
  · exact k_lcmp_gt_n K X hd hc hq' (kno hc)
theorem k_if_le_y (K : Fx p s m meth c by' ml own nm ret Z) (X : Stand p l e R s m args below meth c T locs cells slots) {x : Int32} {o : Int} (hd : decode by' pc = .ok (.ifCond .le o, 3)) (hc : ¬ 0 < x) (ho : 0 ≤ (pc : Int) + o) (hq : ((pc : Int) + o).toNat = q) (k : Run p e below s kc kn Q T (mkF m q Ls st)) : Run p e below s kc kn Q T (mkF m pc Ls (.int x :: st)) := k.by fun t => XS.ifYes X.here K.1 rfl rfl (hb K.2.1 hd) rfl ((if0 _ _).trans (flt hc).2.2.2) ho hq
theorem k_if_le_n (K : Fx p s m meth c by' ml own nm ret Z) (X : Stand p l e R s m args below meth c T locs cells slots) {x : Int32} {o : Int} (hd : decode by' pc = .ok (.ifCond .le o, 3)) (hc : 0 < x) (hq : pc + 3 = q) (k : Run p e below s kc kn Q T (mkF m q Ls st)) : Run p e below s kc kn Q T (mkF m pc Ls (.int x :: st)) := by
  subst hq; exact k.by fun t => XS.ifNo X.here K.1 rfl (hb K.2.1 hd) rfl ((if0 _ _).trans (tlt hc).2.2.2)
theorem k_lcmp_le_y (K : Fx p s m meth c by' ml own nm ret Z) (X : Stand p l e R s m args below meth c T locs cells slots) {x y : Int64} {o : Int} (hd : decode by' pc = .ok (.ifCond .le o, 3)) (hc : ¬ y < x) (ho : 0 ≤ (pc : Int) + o) (hq : ((pc : Int) + o).toNat = q) (k : Run p e below s kc kn Q T (mkF m q Ls st)) : Run p e below s kc kn Q T (mkF m pc Ls (.int (lcmpW x y) :: st)) := k_if_le_y K X hd (fun z => hc ((lw_gt x y).mp z)) ho hq k
theorem k_lcmp_le_n (K : Fx p s m meth c by' ml own nm ret Z) (X : Stand p l e R s m args below meth c T locs cells slots) {x y : Int64} {o : Int} (hd : decode by' pc = .ok (.ifCond .le o, 3)) (hc : y < x) (hq : pc + 3 = q) (k : Run p e below s kc kn Q T (mkF m q Ls st)) : Run p e below s kc kn Q T (mkF m pc Ls (.int (lcmpW x y) :: st)) := k_if_le_n K X hd ((lw_gt x y).mpr hc) hq k
theorem k_lcmp_le (K : Fx p s m meth c by' ml own nm ret Z) (X : Stand p l e R s m args below meth c T locs cells slots) {x y : Int64} {o : Int} (hd : decode by' pc = .ok (.ifCond .le o, 3)) (ho : 0 ≤ (pc : Int) + o) (hq : ((pc : Int) + o).toNat = q) (hq' : pc + 3 = q') (ky : ¬ y < x → Run p e below s kc kn Q T (mkF m q Ls st)) (kno : y < x → Run p e below s kc kn Q T (mkF m q' Ls st)) : Run p e below s kc kn Q T (mkF m pc Ls (.int (lcmpW x y) :: st)) := by
  by_cases hc : y < x
  · exact k_lcmp_le_n K X hd hc hq' (kno hc)
  · exact k_lcmp_le_y K X hd hc ho hq (ky hc)
theorem k_ldc2 (K : Fx p s m meth c by' ml own nm ret Z) (X : Stand p l e R s m args below meth c T locs cells slots) {i : Nat} {v : Int64} (hd : decode by' pc = .ok (.ldc2_w i, 3)) (w : (Cond.constantLong own i v).before a0 Z = true) (hq : pc + 3 = q) (k : Run p e below s kc kn Q T (mkF m q Ls (.long v :: st))) : Run p e below s kc kn Q T (mkF m pc Ls st) := by
  subst hq; exact k.by fun t => X.ldc2Long K.1 K.2.2.2.1 (mvT K.2.2.2.2.1 w) (g := mkF m pc Ls st) rfl (hb K.2.1 hd) t
theorem k_reti (K : Fx p s m meth c by' ml own nm (some .int) Z) (X : Stand p l e R s m args below meth c T locs cells slots) {x : Int32} (eT : T.heap = h) (hd : decode by' pc = .ok (.ireturn, 1)) (hc : cells ≤ kc) (hn : slots ≤ kn) (hQ : Q (some (.int x)) h locs) : Run p e below s kc kn Q T (mkF m pc Ls [.int x]) := by
  subst eT
  have hlk := K.2.2.2.2.2.2.1
  obtain ⟨fs, hr, hrun, hended, hW, hsame⟩ := X.leave (v := (some (.int x))) (fun z => by rw [K.2.2.2.2.2.1] at z; cases z)
  exact ⟨_, _, X.ireturnOut K.1 K.2.2.2.2.2.1 rfl (Or.inl rfl) (hb K.2.1 hd) hr, hrun, hended, _, _, rfl, hQ, ⟨_, rfl⟩, hW, hsame.mono hc hn⟩
theorem k_retz (K : Fx p s m meth c by' ml own nm (some .boolean) Z) (X : Stand p l e R s m args below meth c T locs cells slots) {x : Int32} (eT : T.heap = h) (hd : decode by' pc = .ok (.ireturn, 1)) (hc : cells ≤ kc) (hn : slots ≤ kn) (hQ : Q (some (.int (nar .boolean x))) h locs) : Run p e below s kc kn Q T (mkF m pc Ls [.int x]) := by
  subst eT
  have hlk := K.2.2.2.2.2.2.1
  obtain ⟨fs, hr, hrun, hended, hW, hsame⟩ := X.leave (v := (some (.int (nar .boolean x)))) (fun z => by rw [K.2.2.2.2.2.1] at z; cases z)
  exact ⟨_, _, retN X K.1 K.2.2.2.2.2.1 (by simp) (hb K.2.1 hd) hr, hrun, hended, _, _, rfl, hQ, ⟨_, rfl⟩, hW, hsame.mono hc hn⟩
theorem k_retl (K : Fx p s m meth c by' ml own nm (some .long) Z) (X : Stand p l e R s m args below meth c T locs cells slots) {x : Int64} (eT : T.heap = h) (hd : decode by' pc = .ok (.lreturn, 1)) (hc : cells ≤ kc) (hn : slots ≤ kn) (hQ : Q (some (.long x)) h locs) : Run p e below s kc kn Q T (mkF m pc Ls [.long x]) := by
  subst eT
  have hlk := K.2.2.2.2.2.2.1
  obtain ⟨fs, hr, hrun, hended, hW, hsame⟩ := X.leave (v := (some (.long x))) (fun z => by rw [K.2.2.2.2.2.1] at z; cases z)
  exact ⟨_, _, X.lreturnOut K.1 K.2.2.2.2.2.1 (hb K.2.1 hd) hr, hrun, hended, _, _, rfl, hQ, ⟨_, rfl⟩, hW, hsame.mono hc hn⟩
theorem k_retv (K : Fx p s m meth c by' ml own nm none Z) (X : Stand p l e R s m args below meth c T locs cells slots)  (eT : T.heap = h) (hd : decode by' pc = .ok (.return_, 1)) (hc : cells ≤ kc) (hn : slots ≤ kn) (hQ : Q none h locs) : Run p e below s kc kn Q T (mkF m pc Ls []) := by
  subst eT
  have hlk := K.2.2.2.2.2.2.1
  obtain ⟨fs, hr, hrun, hended, hW, hsame⟩ := X.leave (v := none) (fun _ => rfl)
  exact ⟨_, _, X.returnOut K.1 K.2.2.2.2.2.1 (hb K.2.1 hd) hr, hrun, hended, _, _, rfl, hQ, ⟨_, rfl⟩, hW, hsame.mono hc hn⟩
/-- a contract: with these arguments over this heap the body returns as Q says, within the room -/
abbrev Met (l : Launch) (y : MethodName) (bytes : ByteArray) (maxL : Nat) (ret : Option FieldType) (ws : List Jvm.Cond) (rm : Room) (Z : State) (as' : Array Value) (h0 : Heap) (Q : Option Value → Heap → List Loc → Prop) : Prop :=
  MetFree l y (head1 (Jvm.Cond.code y bytes maxL ret :: ws) rm) (fun a U => a = as' ∧ Z.Warmed39 U.vm ∧ U.heap = h0) (fun _ _ _ _ _ => True) (fun _ U o U' => ∃ v L, o = .returned v ∧ Q v U'.heap L ∧ FrameEnd U o U' L rm.cells rm.slots)
theorem enter {y : MethodName} {bytes : ByteArray} {maxL : Nat} {ws : List Jvm.Cond} {rm : Room} {as' : Array Value} {h0 : Heap} (hpl : plainFor y = true) (hef : ∀ m, entryFrame m as' maxL = mkF m 0 Ls [])
    (body : ∀ p e s m below meth c T kc kn Q', rm.cells ≤ kc → rm.slots ≤ kn → (∀ v h L, Q v h L → Q' v h L) → Fx p s m meth c bytes maxL y.cls y.name ret Z → Stand p l e rm s m as' below meth c T [] 0 0 → T.heap = h0 → Run p e below s kc kn Q' T (mkF m 0 Ls [])) : Met l y bytes maxL ret ws rm Z as' h0 Q := by
  refine MetFree.of_bodySF hpl hisR ?_
  intro p e s m args below meth c s₁ Bd hml0 hP hK
  obtain ⟨rfl, hZ, hh⟩ := hP
  obtain ⟨t, o, h1, h2, h3, v, L, h4, h5, h6⟩ := body p e s m below meth c s₁ _ _ Q (Nat.le_refl _) (Nat.le_refl _) (fun _ _ _ z => z) ⟨Bd.exec, Bd.bytes, hml0, findClass_of_methodNamed Bd.named, hZ, Bd.returns, BodyLoose.notSynchronized Bd, (name_of_methodNamed Bd.named Bd.method).1⟩ (Stand.of_body Bd) (by rw [← hh, Bd.state]; rfl)
  exact ⟨t, o, castTop (hef m) h1, h2, h3, v, L, h4, h5, h6⟩
theorem k_special (K : Fx p s m meth c by' ml own nm ret Z) (X : Stand p l e R s m args below meth c T locs cells slots) (eT : T.heap = h) {y : MethodName} {bytes : ByteArray} {maxL i W : Nat} {rm : Room} {as' : Array Value} {Q' : Option Value → Heap → List Loc → Prop} {a : Addr}
    (hd : decode by' pc = .ok (.invokespecial i, 3)) (hy1 : y.name = "<init>") (w1 : (Cond.methodLink own i y).before a0 Z = true) (w2 : (Cond.instanceMethod y).before a0 Z = true) (w3 : (Cond.initialized y.cls).before a0 Z = true) (w4 : (Cond.code y bytes maxL none).before a0 Z = true) (hy : y.cls ≠ "java/lang/invoke/MethodHandle" ∧ y.cls ≠ "java/lang/invoke/VarHandle")
    (hM : Met l y bytes maxL none [] rm Z as' h Q') (hf : rm.frames + 1 ≤ R.frames) (hl : W + (maxL + 11) + rm.locals ≤ R.locals) (hc : cells + rm.cells ≤ R.cells) (hn : slots + rm.slots ≤ R.slots) (hsz : Ls.size = ml)
    {sig : MethodDescriptor} (hdesc : parseMethodDescriptor y.desc = some sig) {argsL rest : List Value} (ha : as' = (.ref a :: argsL).toArray) (hlen : argsL.length = sig.parameters.length) (hst : st = argsL.reverse ++ .ref a :: rest) (hW : (rest.map fun v => v.category).sum ≤ W) (hq : pc + 3 = q)
    (k : ∀ v T' L, Stand p l e R s m args below meth c T' (locs ++ L) (cells + rm.cells) (slots + rm.slots) → Q' v T'.heap L → Run p e below s kc kn Q T' (mkF m q Ls (v.toList ++ rest))) : Run p e below s kc kn Q T (mkF m pc Ls st) := by
  have hZ := K.2.2.2.2.1
  subst hq
  obtain ⟨v, _, ⟨T2, L2, k2, n2⟩, -, X2, ⟨Lc, hQ2, l2, y2, z2⟩, st2⟩ := X.specialBack K.1 (y := y) hy1 K.2.2.2.1 (mvT hZ w1) (mvT hZ w2) (mvT hZ w4) hy (backOf (W := W) hM hZ w4 w3 hf hl) (g := mkF m pc Ls st) rfl (by rw [K.2.2.1]; exact hsz) (Steps.refl _) (a := a) (argsL := argsL) (rest := rest) (fun sg hs => by cases hdesc.symm.trans hs; exact hlen) hst (by show 2 * 0 + _ ≤ _; omega) (hb K.2.1 hd) (fun _ _ => ⟨ha.symm, eT, hc, hn⟩)
  dsimp only [Pt.U, Pt.locs, Pt.cells, Pt.slots] at X2 l2 y2 z2 st2 hQ2
  subst l2 y2 z2
  exact (k v T2 Lc X2 hQ2).on st2
theorem k_virtual (K : Fx p s m meth c by' ml own nm ret Z) (X : Stand p l e R s m args below meth c T locs cells slots) (eT : T.heap = h) {y : MethodName} {bytes : ByteArray} {maxL i W : Nat} {rt : Option FieldType} {rm : Room} {as' : Array Value} {Q' : Option Value → Heap → List Loc → Prop} {a : Addr}
    (hd : decode by' pc = .ok (.invokevirtual i, 3)) (w1 : (Cond.methodLink own i y).before a0 Z = true) (w2 : (Cond.declares y).before a0 Z = true) (w5 : (Cond.selects y.cls y y).before a0 Z = true) (w6 : (Cond.instanceMethod y).before a0 Z = true) (w3 : (Cond.initialized y.cls).before a0 Z = true) (w4 : (Cond.code y bytes maxL rt).before a0 Z = true) (hy : y.cls ≠ "java/lang/invoke/MethodHandle" ∧ y.cls ≠ "java/lang/invoke/VarHandle")
    (hE : Exa Z h a y.cls) (hM : Met l y bytes maxL rt [] rm Z as' h Q') (hf : rm.frames + 1 ≤ R.frames) (hl : W + (maxL + 11) + rm.locals ≤ R.locals) (hc : cells + rm.cells ≤ R.cells) (hn : slots + rm.slots ≤ R.slots) (hsz : Ls.size = ml)
    {sig : MethodDescriptor} (hdesc : parseMethodDescriptor y.desc = some sig) {argsL rest : List Value} (ha : as' = (.ref a :: argsL).toArray) (hlen : argsL.length = sig.parameters.length) (hst : st = argsL.reverse ++ .ref a :: rest) (hW : (rest.map fun v => v.category).sum ≤ W) (hq : pc + 3 = q)
    (k : ∀ v T' L, Stand p l e R s m args below meth c T' (locs ++ L) (cells + rm.cells) (slots + rm.slots) → Q' v T'.heap L → Run p e below s kc kn Q T' (mkF m q Ls (v.toList ++ rest))) : Run p e below s kc kn Q T (mkF m pc Ls st) := by
  have hZ := K.2.2.2.2.1
  subst hq
  obtain ⟨cq, kq, qa, qb, qc⟩ := isOf hZ eT hE
  obtain ⟨v, _, ⟨T2, L2, k2, n2⟩, -, X2, ⟨Lc, hQ2, l2, y2, z2⟩, st2⟩ := X.virtualBack K.1 (y := y) (z := y) K.2.2.2.1 (mvT hZ w1) (mvT hZ w2) (notFace_of_selects (args := #[]) (mvT hZ w5)) (mvT hZ w5) (mvT hZ w6) hy (backOf (W := W) hM hZ w4 w3 hf hl) qa qc (g := mkF m pc Ls st) rfl (by rw [K.2.2.1]; exact hsz) (Steps.refl _) (argsL := argsL) (rest := rest) (fun sg hs => by cases hdesc.symm.trans hs; exact hlen) hst (by show 2 * 0 + _ ≤ _; omega) (hb K.2.1 hd) (fun _ _ => ⟨ha.symm, eT, hc, hn⟩)
  dsimp only [Pt.U, Pt.locs, Pt.cells, Pt.slots] at X2 l2 y2 z2 st2 hQ2
  subst l2 y2 z2
  exact (k v T2 Lc X2 hQ2).on st2
theorem k_initO (K : Fx p s m meth c by' ml own nm ret Z) (X : Stand p l e R s m args below meth c T locs cells slots) (eT : T.heap = h) {i W : Nat} {a : Addr} (hd : decode by' pc = .ok (.invokespecial i, 3)) (w1 : (Cond.methodLink own i Lib.objectInit).before a0 Z = true) (w2 : (Cond.instanceMethod Lib.objectInit).before a0 Z = true) (w3 : (Cond.code Lib.objectInit ⟨#[0xb1]⟩ 1 none).before a0 Z = true)
    (hsz : Ls.size = ml) (hf : 1 ≤ R.frames) (hW : (st.map fun v => v.category).sum ≤ W) (hl : W + 12 ≤ R.locals) (hq : pc + 3 = q)
    (k : ∀ T', Stand p l e R s m args below meth c T' locs cells slots → T'.heap = h → Run p e below s kc kn Q T' (mkF m q Ls st)) : Run p e below s kc kn Q T (mkF m pc Ls (.ref a :: st)) := by
  subst hq
  obtain ⟨T2, X2, e2, st2⟩ := initO X K.1 K.2.2.2.2.1 K.2.2.2.1 w1 w2 w3 eT (g := mkF m pc Ls (.ref a :: st)) rfl (by rw [K.2.2.1]; exact hsz) rfl (hb K.2.1 hd) hf (W := W) (by show 2 * 0 + _ ≤ _; omega) hl
  exact (k T2 X2 e2).by st2
theorem k_new (K : Fx p s m meth c by' ml own nm ret Z) (X : Stand p l e R s m args below meth c T locs cells slots) (eT : T.heap = h) {i n : Nat} {C : String} (hd : decode by' pc = .ok (.new i, 3)) (w1 : (Cond.classLink own i C).before a0 Z = true) (w2 : (Cond.instantiable C n).before a0 Z = true) (w3 : (Cond.initialized C).before a0 Z = true) (hc : cells + 1 ≤ R.cells) (hn : slots + n ≤ R.slots) (hq : pc + 3 = q)
    (k : ∀ T' h' a, Stand p l e R s m args below meth c T' locs (cells + 1) (slots + n) → T'.heap = h' → a = h.size → Ext h h' → Exa Z h' a C → (∀ {O fn d : String} {ty : FieldType}, Laid Z a0 C O fn d → parseFieldDescriptor d = some ty → Fld Z h' a O fn d (defaultValue ty)) → Run p e below s kc kn Q T' (mkF m q Ls (.ref a :: st))) : Run p e below s kc kn Q T (mkF m pc Ls st) := by
  subst hq
  obtain ⟨T2, h2, X2, e2, E2, A2, D2, -, st2⟩ := newO X K.1 K.2.2.2.2.1 K.2.2.2.1 w1 w2 w3 eT (g := mkF m pc Ls st) rfl (hb K.2.1 hd) hc hn
  exact (k T2 h2 h.size X2 e2 rfl E2 A2 D2).by st2
theorem k_getfield (K : Fx p s m meth c by' ml own nm ret Z) (X : Stand p l e R s m args below meth c T locs cells slots) (eT : T.heap = h) {i : Nat} {O fn d : String} {a : Addr} {v : Value} (hd : decode by' pc = .ok (.getfield i, 3)) (w : (Cond.fieldLink own i O fn d).before a0 Z = true) (F : Fld Z h a O fn d v) (hq : pc + 3 = q)
    (k : ∀ T', Stand p l e R s m args below meth c T' locs cells slots → T'.heap = h → Run p e below s kc kn Q T' (mkF m q Ls (v :: st))) : Run p e below s kc kn Q T (mkF m pc Ls (.ref a :: st)) := by
  subst hq
  obtain ⟨T2, X2, e2, st2⟩ := getF X K.1 K.2.2.2.2.1 K.2.2.2.1 (host := "") (Or.inl w) Via.refl eT F (g := mkF m pc Ls (.ref a :: st)) rfl rfl (hb K.2.1 hd)
  exact (k T2 X2 e2).by st2
theorem k_putfield (K : Fx p s m meth c by' ml own nm ret Z) (X : Stand p l e R s m args below meth c T locs cells slots) (eT : T.heap = h) {i n : Nat} {O C fn d : String} {ty : FieldType} {a : Addr} {v old : Value} (hd : decode by' pc = .ok (.putfield i, 3)) (w : (Cond.fieldLink own i O fn d).before a0 Z = true) (F : Fld Z h a O fn d old) (E : Exa Z h a C) (L : (Cond.lays C O fn d).before a0 Z = true ∨ ((Cond.laysFinal C O fn d).before a0 Z = true ∧ own = O ∧ nm = "<init>")) (wi : (Cond.instantiable C n).before a0 Z = true)
    (hty : parseFieldDescriptor d = some ty) (hnar : narrow ty v = v) (hfit : fits ty v = true) (hq : pc + 3 = q)
    (k : ∀ T' h', Stand p l e R s m args below meth c T' (locs ++ [⟨a, Jvm.RoadKit.slotOf Z O fn d⟩]) cells slots → T'.heap = h' → Wr h h' a (Jvm.RoadKit.slotOf Z O fn d) v → Run p e below s kc kn Q T' (mkF m q Ls st)) : Run p e below s kc kn Q T (mkF m pc Ls (v :: .ref a :: st)) := by
  subst hq
  obtain ⟨T2, h2, X2, e2, W2, st2⟩ := putF X K.1 K.2.2.2.2.1 K.2.2.2.1 (host := "") (Or.inl w) Via.refl eT F E (L.imp id fun z => ⟨z.1, z.2.1, K.2.2.2.2.2.2.2.trans z.2.2⟩) wi hty hnar hfit (g := mkF m pc Ls (v :: .ref a :: st)) rfl rfl (hb K.2.1 hd)
  exact (k T2 h2 X2 e2 W2).by st2
/-- an instance method that leaves the heap as it was -/
theorem k_virtualP (K : Fx p s m meth c by' ml own nm ret Z) (X : Stand p l e R s m args below meth c T locs cells slots) (eT : T.heap = h) {y : MethodName} {bytes : ByteArray} {maxL i W fr lo : Nat} {rt : Option FieldType} {as' : Array Value} {w : Value} {a : Addr}
    (hd : decode by' pc = .ok (.invokevirtual i, 3)) (w1 : (Cond.methodLink own i y).before a0 Z = true) (w2 : (Cond.declares y).before a0 Z = true) (w5 : (Cond.selects y.cls y y).before a0 Z = true) (w6 : (Cond.instanceMethod y).before a0 Z = true) (w3 : (Cond.initialized y.cls).before a0 Z = true) (w4 : (Cond.code y bytes maxL rt).before a0 Z = true) (hy : y.cls ≠ "java/lang/invoke/MethodHandle" ∧ y.cls ≠ "java/lang/invoke/VarHandle")
    (hE : Exa Z h a y.cls) (hM : Met l y bytes maxL rt [] { frames := fr, cells := 0, slots := 0, locals := lo } Z as' h (fun v h' L => v = some w ∧ h' = h ∧ L = [])) (hf : fr + 1 ≤ R.frames) (hl : W + (maxL + 11) + lo ≤ R.locals) (hc : cells ≤ R.cells) (hn : slots ≤ R.slots) (hsz : Ls.size = ml)
    {sig : MethodDescriptor} (hdesc : parseMethodDescriptor y.desc = some sig) {argsL rest : List Value} (ha : as' = (.ref a :: argsL).toArray) (hlen : argsL.length = sig.parameters.length) (hst : st = argsL.reverse ++ .ref a :: rest) (hW : (rest.map fun v => v.category).sum ≤ W) (hq : pc + 3 = q)
    (k : ∀ T', Stand p l e R s m args below meth c T' locs cells slots → T'.heap = h → Run p e below s kc kn Q T' (mkF m q Ls (w :: rest))) : Run p e below s kc kn Q T (mkF m pc Ls st) := by
  refine k_virtual K X eT hd w1 w2 w5 w6 w3 w4 hy hE hM hf hl hc hn hsz hdesc ha hlen hst hW hq ?_
  rintro v T' L X' ⟨rfl, h2, rfl⟩
  rw [List.append_nil] at X'
  exact k T' X' h2
/-- a constructor that does nothing to the heap -/
theorem k_specialP (K : Fx p s m meth c by' ml own nm ret Z) (X : Stand p l e R s m args below meth c T locs cells slots) (eT : T.heap = h) {y : MethodName} {bytes : ByteArray} {maxL i W fr lo : Nat} {as' : Array Value} {a : Addr}
    (hd : decode by' pc = .ok (.invokespecial i, 3)) (hy1 : y.name = "<init>") (w1 : (Cond.methodLink own i y).before a0 Z = true) (w2 : (Cond.instanceMethod y).before a0 Z = true) (w3 : (Cond.initialized y.cls).before a0 Z = true) (w4 : (Cond.code y bytes maxL none).before a0 Z = true) (hy : y.cls ≠ "java/lang/invoke/MethodHandle" ∧ y.cls ≠ "java/lang/invoke/VarHandle")
    (hM : Met l y bytes maxL none [] { frames := fr, cells := 0, slots := 0, locals := lo } Z as' h (fun v h' L => v = none ∧ h' = h ∧ L = [])) (hf : fr + 1 ≤ R.frames) (hl : W + (maxL + 11) + lo ≤ R.locals) (hc : cells ≤ R.cells) (hn : slots ≤ R.slots) (hsz : Ls.size = ml)
    {sig : MethodDescriptor} (hdesc : parseMethodDescriptor y.desc = some sig) {argsL rest : List Value} (ha : as' = (.ref a :: argsL).toArray) (hlen : argsL.length = sig.parameters.length) (hst : st = argsL.reverse ++ .ref a :: rest) (hW : (rest.map fun v => v.category).sum ≤ W) (hq : pc + 3 = q)
    (k : ∀ T', Stand p l e R s m args below meth c T' locs cells slots → T'.heap = h → Run p e below s kc kn Q T' (mkF m q Ls rest)) : Run p e below s kc kn Q T (mkF m pc Ls st) := by
  refine k_special K X eT hd hy1 w1 w2 w3 w4 hy hM hf hl hc hn hsz hdesc ha hlen hst hW hq ?_
  rintro v T' L X' ⟨rfl, h2, rfl⟩
  rw [List.append_nil] at X'
  exact k T' X' h2
/-- an array of n places; place i holds g i -/
def Ary (Z : State) (h : Heap) (a : Addr) (ty : FieldType) (n : Nat) (g : Nat → Value) : Prop := ∃ c : Cell, Arr Z h a c ty ∧ c.slots.size = n ∧ n < 2147483648 ∧ (∀ i, i < n → c.slots[i]? = some (g i)) ∧ ∀ i, i < n → fits ty (g i) = true
theorem Ary.ext {h' : Heap} {a : Addr} {ty : FieldType} {n : Nat} {g : Nat → Value} (F : Ary Z h a ty n g) (E : Ext h h') : Ary Z h' a ty n g := by obtain ⟨c, A, r⟩ := F; exact ⟨c, A.ext E, r⟩
theorem Ary.other {h' : Heap} {a b : Addr} {ty : FieldType} {n sl : Nat} {v : Value} {g : Nat → Value} (F : Ary Z h b ty n g) (W : Wr h h' a sl v) (q : b ≠ a) : Ary Z h' b ty n g := by obtain ⟨c, A, r⟩ := F; exact ⟨c, A.other W q, r⟩
theorem Ary.keep {h' : Heap} {a : Addr} {ty : FieldType} {n : Nat} {g : Nat → Value} {ws : List Addr} (F : Ary Z h a ty n g) (K : Keep h h' ws) (q : a ∉ ws) : Ary Z h' a ty n g := by obtain ⟨c, A, r⟩ := F; exact ⟨c, ⟨K.2.1 a c A.1 q, A.2⟩, r⟩
/-- the int j is the place i -/
def Ix (j : Int32) (i : Nat) : Prop := ¬ j < 0 ∧ j.toNatClampNeg = i
theorem Ix.of {j : Int32} {i : Nat} (h : j.toInt = i) : Ix j i := by
  refine ⟨?_, ?_⟩
  · rw [Int32.lt_iff_toInt_lt, h]; have : (0 : Int32).toInt = 0 := rfl
    omega
  · simp only [Int32.toNatClampNeg, h]; omega
end OwnKit

theorem wd {Z : State} {az : Array Value} (hw : ∀ d ∈ tables_1, d.before az Z = true) (k : Nat) {d : Jvm.Cond} (h : tables_1[k]? = some d) : d.before az Z = true := hw _ (List.mem_of_getElem? h)
theorem d2_0 : decode jdk_30_method_1_code 0 = .ok (.aload_n 0, 1) := by decide +kernel
theorem d2_1 : decode jdk_30_method_1_code 1 = .ok (.invokespecial 1, 3) := by decide +kernel
theorem d2_4 : decode jdk_30_method_1_code 4 = .ok (.return_, 1) := by decide +kernel
theorem ef_2 (a0 : Addr) : ∀ m : MethodId, entryFrame m #[(.ref a0)] 1 = mkF m 0 #[.val (.ref a0)] [] := by intro m; first | (simp [entryFrame, mkF, argsToLocals, Value.category]; done) | rfl
theorem pn_0 : plainName "java/lang/Record" = true := by first | (simp [plainName, overriddenIn]; done) | decide +kernel
set_option maxRecDepth 65536 in
set_option maxHeartbeats 40000000 in
theorem rm2 (l : Launch) (Z : State) (az : Array Value) (hw : ∀ d ∈ tables_1, d.before az Z = true) (ws : List Jvm.Cond) (a0 : Addr) (h0 : Heap) :
    Met l (⟨"java/lang/Record", "<init>", "()V"⟩ : MethodName) jdk_30_method_1_code 1 none ws ({ frames := 1, cells := 0, slots := 0, locals := 12 } : Room) Z #[(.ref a0)] h0 (fun v h' L => v = none ∧ h' = h0 ∧ L = []) := by
  refine enter (plainFor_of_name pn_0) (ef_2 a0) ?_
  intro p e s m below meth c T0 kc kn Q hkc hkn hQ K' X0 e0
  have K : Fx p s m meth c jdk_30_method_1_code 1 "java/lang/Record" "<init>" none Z := K'
  refine k_aloadN K X0 d2_0 rfl rfl (q := 1) rfl ?_
  refine k_initO K X0 e0 d2_1 (wd hw 12 rfl) (wd hw 13 rfl) (wd hw 14 rfl) rfl (by decide) (W := 0) (Nat.le_of_eq rfl) (by decide) (q := 4) rfl ?_
  intro T1 X2 e3
  exact k_retv K X2 e3 d2_4 (Nat.le_trans (by decide) hkc) (Nat.le_trans (by decide) hkn) (hQ _ _ _ ⟨rfl, rfl, rfl⟩)
theorem d1_0 : decode prog_60_method_1_code 0 = .ok (.aload_n 0, 1) := by decide +kernel
theorem d1_1 : decode prog_60_method_1_code 1 = .ok (.invokespecial 1, 3) := by decide +kernel
theorem pd_0 : parseMethodDescriptor "()V" = some ⟨[], none⟩ := by decide +kernel
theorem d1_4 : decode prog_60_method_1_code 4 = .ok (.aload_n 0, 1) := by decide +kernel
theorem d1_5 : decode prog_60_method_1_code 5 = .ok (.lload_n 1, 1) := by decide +kernel
theorem d1_6 : decode prog_60_method_1_code 6 = .ok (.putfield 7, 3) := by decide +kernel
theorem d1_9 : decode prog_60_method_1_code 9 = .ok (.aload_n 0, 1) := by decide +kernel
theorem d1_10 : decode prog_60_method_1_code 10 = .ok (.iload_n 3, 1) := by decide +kernel
theorem d1_11 : decode prog_60_method_1_code 11 = .ok (.putfield 13, 3) := by decide +kernel
theorem d1_14 : decode prog_60_method_1_code 14 = .ok (.return_, 1) := by decide +kernel
theorem ef_1 (a0 : Addr) (q1 : Int64) (p2 : Int32) : ∀ m : MethodId, entryFrame m #[(.ref a0), (.long q1), (.int p2)] 4 = mkF m 0 #[.val (.ref a0), .val (.long q1), .second, .val (.int p2)] [] := by intro m; first | (simp [entryFrame, mkF, argsToLocals, Value.category]; done) | rfl
theorem pn_1 : plainName "com/example/snow_goose/snowgoose/Promise" = true := by first | (simp [plainName, overriddenIn]; done) | decide +kernel
set_option maxRecDepth 65536 in
set_option maxHeartbeats 40000000 in
theorem rm1 (l : Launch) (Z : State) (az : Array Value) (hw : ∀ d ∈ tables_1, d.before az Z = true) (ws : List Jvm.Cond) (a0 : Addr) (q1 : Int64) (p2 : Int32) (w_a0_epoch : Int64) (w_a0_leader : Int32) (h0 : Heap) (n0 : Nat) (Z0 : n0 ≤ h0.size) (E_a0 : Exa Z h0 a0 "com/example/snow_goose/snowgoose/Promise") (F_a0_epoch : Fld Z h0 a0 "com/example/snow_goose/snowgoose/Promise" "epoch" "J" (.long w_a0_epoch)) (g_a0 : n0 ≤ a0) (F_a0_leader : Fld Z h0 a0 "com/example/snow_goose/snowgoose/Promise" "leader" "I" (.int w_a0_leader)) :
    Met l (⟨"com/example/snow_goose/snowgoose/Promise", "<init>", "(JI)V"⟩ : MethodName) prog_60_method_1_code 4 none ws ({ frames := 2, cells := 0, slots := 0, locals := 24 } : Room) Z #[(.ref a0), (.long q1), (.int p2)] h0 (fun v h' L => v = none ∧ Fr n0 L ∧ Keep h0 h' [a0] ∧ Fld Z h' a0 "com/example/snow_goose/snowgoose/Promise" "epoch" "J" (.long q1) ∧ Fld Z h' a0 "com/example/snow_goose/snowgoose/Promise" "leader" "I" (.int p2)) := by
  refine enter (plainFor_of_name pn_1) (ef_1 a0 q1 p2) ?_
  intro p e s m below meth c T0 kc kn Q hkc hkn hQ K' X0 e0
  have K : Fx p s m meth c prog_60_method_1_code 4 "com/example/snow_goose/snowgoose/Promise" "<init>" none Z := K'
  have N0 := Fr.nil n0
  have K0 : Keep h0 h0 [a0] := Keep.refl _ _
  refine k_aloadN K X0 d1_0 rfl rfl (q := 1) rfl ?_
  refine k_specialP K X0 e0 d1_1 rfl (wd hw 7 rfl) (wd hw 8 rfl) (wd hw 10 rfl) (wd hw 11 rfl) (by decide) (rm2 l Z az hw [] a0 h0) (W := 0) (by decide) (by decide) (by decide) (by decide) rfl pd_0 (argsL := []) (rest := []) rfl rfl rfl (Nat.le_of_eq rfl) (q := 4) rfl ?_
  intro T26 X27 e28
  refine k_aloadN K X27 d1_4 rfl rfl (q := 5) rfl ?_
  refine k_lloadN K X27 d1_5 rfl (q := 6) rfl ?_
  refine k_putfield K X27 e28 d1_6 (wd hw 15 rfl) F_a0_epoch E_a0 (Or.inr ⟨(wd hw 16 rfl), rfl, rfl⟩) (wd hw 2 rfl) (ty := .long) (by decide) rfl rfl (q := 9) rfl ?_
  intro T29 h30 X31 e32 W33
  have f34 := Fld.same W33 F_a0_epoch
  have f35 := Exa.wr W33 E_a0
  have f36 := Fld.other W33 F_a0_leader (Or.inr (slot_ne (Or.inr (wd hw 18 rfl)) (Or.inr (wd hw 16 rfl)) (by decide) (t := .int) (t' := .long) (by decide) (by decide)))
  have N37 := Fr.snoc X31 N0 g_a0
  have K38 := Keep.wr K0 W33 (Or.inl (List.mem_of_getElem? (i := 0) rfl))
  have Z39 := Nat.le_trans Z0 (Nat.le_of_eq (Wr.size W33).symm)
  refine k_aloadN K X31 d1_9 rfl rfl (q := 10) rfl ?_
  refine k_iloadN K X31 d1_10 rfl (q := 11) rfl ?_
  refine k_putfield K X31 e32 d1_11 (wd hw 17 rfl) f36 f35 (Or.inr ⟨(wd hw 18 rfl), rfl, rfl⟩) (wd hw 2 rfl) (ty := .int) (by decide) rfl rfl (q := 14) rfl ?_
  intro T40 h41 X42 e43 W44
  have f45 := Fld.same W44 f36
  have f46 := Exa.wr W44 f35
  have f47 := Fld.other W44 f34 (Or.inr (slot_ne (Or.inr (wd hw 16 rfl)) (Or.inr (wd hw 18 rfl)) (by decide) (t := .long) (t' := .int) (by decide) (by decide)))
  have N48 := Fr.snoc X42 N37 g_a0
  have K49 := Keep.wr K38 W44 (Or.inl (List.mem_of_getElem? (i := 0) rfl))
  have Z50 := Nat.le_trans Z39 (Nat.le_of_eq (Wr.size W44).symm)
  exact k_retv K X42 e43 d1_14 (Nat.le_trans (by decide) hkc) (Nat.le_trans (by decide) hkn) (hQ _ _ _ ⟨rfl, N48, K49, f47, f45⟩)
theorem d4_0 : decode prog_60_method_2_code 0 = .ok (.lload_n 1, 1) := by decide +kernel
theorem d4_1 : decode prog_60_method_2_code 1 = .ok (.aload_n 0, 1) := by decide +kernel
theorem d4_2 : decode prog_60_method_2_code 2 = .ok (.getfield 7, 3) := by decide +kernel
theorem d4_5 : decode prog_60_method_2_code 5 = .ok (.lcmp, 1) := by decide +kernel
theorem d4_6 : decode prog_60_method_2_code 6 = .ok (.ifCond .gt 20, 3) := by decide +kernel
theorem d4_31 : decode prog_60_method_2_code 31 = .ok (.ireturn, 1) := by decide +kernel
theorem d4_26 : decode prog_60_method_2_code 26 = .ok (.iconst 1, 1) := by decide +kernel
theorem d4_27 : decode prog_60_method_2_code 27 = .ok (.goto 4, 3) := by decide +kernel
theorem d4_9 : decode prog_60_method_2_code 9 = .ok (.lload_n 1, 1) := by decide +kernel
theorem d4_10 : decode prog_60_method_2_code 10 = .ok (.aload_n 0, 1) := by decide +kernel
theorem d4_11 : decode prog_60_method_2_code 11 = .ok (.getfield 7, 3) := by decide +kernel
theorem d4_14 : decode prog_60_method_2_code 14 = .ok (.lcmp, 1) := by decide +kernel
theorem d4_15 : decode prog_60_method_2_code 15 = .ok (.ifCond .ne 15, 3) := by decide +kernel
theorem d4_30 : decode prog_60_method_2_code 30 = .ok (.iconst 0, 1) := by decide +kernel
theorem d4_18 : decode prog_60_method_2_code 18 = .ok (.iload_n 3, 1) := by decide +kernel
theorem d4_19 : decode prog_60_method_2_code 19 = .ok (.aload_n 0, 1) := by decide +kernel
theorem d4_20 : decode prog_60_method_2_code 20 = .ok (.getfield 13, 3) := by decide +kernel
theorem d4_23 : decode prog_60_method_2_code 23 = .ok (.if_icmp .ne 7, 3) := by decide +kernel
theorem ef_4 (a0 : Addr) (q1 : Int64) (p2 : Int32) : ∀ m : MethodId, entryFrame m #[(.ref a0), (.long q1), (.int p2)] 4 = mkF m 0 #[.val (.ref a0), .val (.long q1), .second, .val (.int p2)] [] := by intro m; first | (simp [entryFrame, mkF, argsToLocals, Value.category]; done) | rfl
def F_allows (q1 : Int64) (p2 : Int32) (w_a0_epoch : Int64) (w_a0_leader : Int32) : Int32 :=
  let d71 : Int32 := (if w_a0_epoch < q1 then (1 : Int32) else (if q1 = w_a0_epoch then (if p2 = w_a0_leader then (1 : Int32) else (0 : Int32)) else (0 : Int32)))
  (nar .boolean d71)
set_option maxRecDepth 65536 in
set_option maxHeartbeats 40000000 in
theorem rm4 (l : Launch) (Z : State) (az : Array Value) (hw : ∀ d ∈ tables_1, d.before az Z = true) (ws : List Jvm.Cond) (a0 : Addr) (q1 : Int64) (p2 : Int32) (w_a0_epoch : Int64) (w_a0_leader : Int32) (h0 : Heap) (F_a0_epoch : Fld Z h0 a0 "com/example/snow_goose/snowgoose/Promise" "epoch" "J" (.long w_a0_epoch)) (F_a0_leader : Fld Z h0 a0 "com/example/snow_goose/snowgoose/Promise" "leader" "I" (.int w_a0_leader)) :
    Met l (⟨"com/example/snow_goose/snowgoose/Promise", "allows", "(JI)Z"⟩ : MethodName) prog_60_method_2_code 4 (some .boolean) ws ({ frames := 0, cells := 0, slots := 0, locals := 0 } : Room) Z #[(.ref a0), (.long q1), (.int p2)] h0 (fun v h' L => v = some (Value.int (F_allows q1 p2 w_a0_epoch w_a0_leader)) ∧ h' = h0 ∧ L = []) := by
  refine enter (plainFor_of_name pn_1) (ef_4 a0 q1 p2) ?_
  intro p e s m below meth c T0 kc kn Q hkc hkn hQ K' X0 e0
  have K : Fx p s m meth c prog_60_method_2_code 4 "com/example/snow_goose/snowgoose/Promise" "allows" (some .boolean) Z := K'
  refine k_lloadN K X0 d4_0 rfl (q := 1) rfl ?_
  refine k_aloadN K X0 d4_1 rfl rfl (q := 2) rfl ?_
  refine k_getfield K X0 e0 d4_2 (wd hw 15 rfl) F_a0_epoch (q := 5) rfl ?_
  intro T59 X60 e61
  refine k_lcmp K X60 d4_5 (q := 6) rfl ?_
  have J72 : ∀ (T73 : State), Stand p l e ({ frames := 0, cells := 0, slots := 0, locals := 0 } : Room) s m #[(.ref a0), (.long q1), (.int p2)] below meth c T73 [] 0 0 → T73.heap = h0 → ∀ (d71 : Int32), (if w_a0_epoch < q1 then (1 : Int32) else (if q1 = w_a0_epoch then (if p2 = w_a0_leader then (1 : Int32) else (0 : Int32)) else (0 : Int32))) = d71 → Run p e below s kc kn Q T73 (mkF m 31 #[.val (.ref a0), .val (.long q1), .second, .val (.int p2)] [(.int d71)]) := by
    intro T73 X74 e75 d71 hv_d71
    exact k_retz K X74 e75 d4_31 (Nat.le_trans (by decide) hkc) (Nat.le_trans (by decide) hkn) (hQ _ _ _ ⟨(by show some (Value.int (nar .boolean d71)) = some (Value.int (F_allows q1 p2 w_a0_epoch w_a0_leader)); simp only [F_allows, hv_d71]), rfl, rfl⟩)
  refine k_lcmp_gt K X60 d4_6 (by decide) (q := 26) rfl (q' := 9) rfl ?_ ?_
  · intro hc76
    refine k_iconst K X60 d4_26 (v := (1 : Int32)) rfl (q := 27) rfl ?_
    refine k_goto K X60 d4_27 (by decide) (q := 31) rfl ?_
    exact J72 T59 X60 e61 _ (by first | rfl | (simp only [if_pos hc76]))
  · intro hc76
    refine k_lloadN K X60 d4_9 rfl (q := 10) rfl ?_
    refine k_aloadN K X60 d4_10 rfl rfl (q := 11) rfl ?_
    refine k_getfield K X60 e61 d4_11 (wd hw 15 rfl) F_a0_epoch (q := 14) rfl ?_
    intro T77 X78 e79
    refine k_lcmp K X78 d4_14 (q := 15) rfl ?_
    refine k_lcmp_ne K X78 d4_15 (by decide) (q := 30) rfl (q' := 18) rfl ?_ ?_
    · intro hc80
      refine k_iconst K X78 d4_30 (v := (0 : Int32)) rfl (q := 31) rfl ?_
      exact J72 T77 X78 e79 _ (by first | rfl | (simp only [if_neg hc76, if_neg hc80]))
    · intro hc80
      refine k_iloadN K X78 d4_18 rfl (q := 19) rfl ?_
      refine k_aloadN K X78 d4_19 rfl rfl (q := 20) rfl ?_
      refine k_getfield K X78 e79 d4_20 (wd hw 17 rfl) F_a0_leader (q := 23) rfl ?_
      intro T81 X82 e83
      refine k_icmp_ne K X82 d4_23 (by decide) (q := 30) rfl (q' := 26) rfl ?_ ?_
      · intro hc84
        refine k_iconst K X82 d4_30 (v := (0 : Int32)) rfl (q := 31) rfl ?_
        exact J72 T81 X82 e83 _ (by first | rfl | (simp only [if_neg hc76, if_pos hc80, if_neg hc84]))
      · intro hc84
        refine k_iconst K X82 d4_26 (v := (1 : Int32)) rfl (q := 27) rfl ?_
        refine k_goto K X82 d4_27 (by decide) (q := 31) rfl ?_
        exact J72 T81 X82 e83 _ (by first | rfl | (simp only [if_neg hc76, if_pos hc80, if_pos hc84]))
theorem d5_0 : decode prog_60_method_7_code 0 = .ok (.aload_n 0, 1) := by decide +kernel
theorem d5_1 : decode prog_60_method_7_code 1 = .ok (.getfield 7, 3) := by decide +kernel
theorem d5_4 : decode prog_60_method_7_code 4 = .ok (.lreturn, 1) := by decide +kernel
theorem ef_5 (a0 : Addr) : ∀ m : MethodId, entryFrame m #[(.ref a0)] 1 = mkF m 0 #[.val (.ref a0)] [] := by intro m; first | (simp [entryFrame, mkF, argsToLocals, Value.category]; done) | rfl
def F_epoch (w_a0_epoch : Int64) : Int64 :=
  w_a0_epoch
set_option maxRecDepth 65536 in
set_option maxHeartbeats 40000000 in
theorem rm5 (l : Launch) (Z : State) (az : Array Value) (hw : ∀ d ∈ tables_1, d.before az Z = true) (ws : List Jvm.Cond) (a0 : Addr) (w_a0_epoch : Int64) (h0 : Heap) (F_a0_epoch : Fld Z h0 a0 "com/example/snow_goose/snowgoose/Promise" "epoch" "J" (.long w_a0_epoch)) :
    Met l (⟨"com/example/snow_goose/snowgoose/Promise", "epoch", "()J"⟩ : MethodName) prog_60_method_7_code 1 (some .long) ws ({ frames := 0, cells := 0, slots := 0, locals := 0 } : Room) Z #[(.ref a0)] h0 (fun v h' L => v = some (Value.long (F_epoch w_a0_epoch)) ∧ h' = h0 ∧ L = []) := by
  refine enter (plainFor_of_name pn_1) (ef_5 a0) ?_
  intro p e s m below meth c T0 kc kn Q hkc hkn hQ K' X0 e0
  have K : Fx p s m meth c prog_60_method_7_code 1 "com/example/snow_goose/snowgoose/Promise" "epoch" (some .long) Z := K'
  refine k_aloadN K X0 d5_0 rfl rfl (q := 1) rfl ?_
  refine k_getfield K X0 e0 d5_1 (wd hw 15 rfl) F_a0_epoch (q := 4) rfl ?_
  intro T85 X86 e87
  exact k_retl K X86 e87 d5_4 (Nat.le_trans (by decide) hkc) (Nat.le_trans (by decide) hkn) (hQ _ _ _ ⟨(by show some (Value.long w_a0_epoch) = some (Value.long (F_epoch w_a0_epoch)); simp only [F_epoch]), rfl, rfl⟩)
theorem d6_0 : decode prog_60_method_8_code 0 = .ok (.aload_n 0, 1) := by decide +kernel
theorem d6_1 : decode prog_60_method_8_code 1 = .ok (.getfield 13, 3) := by decide +kernel
theorem d6_4 : decode prog_60_method_8_code 4 = .ok (.ireturn, 1) := by decide +kernel
theorem ef_6 (a0 : Addr) : ∀ m : MethodId, entryFrame m #[(.ref a0)] 1 = mkF m 0 #[.val (.ref a0)] [] := by intro m; first | (simp [entryFrame, mkF, argsToLocals, Value.category]; done) | rfl
def F_leader (w_a0_leader : Int32) : Int32 :=
  w_a0_leader
set_option maxRecDepth 65536 in
set_option maxHeartbeats 40000000 in
theorem rm6 (l : Launch) (Z : State) (az : Array Value) (hw : ∀ d ∈ tables_1, d.before az Z = true) (ws : List Jvm.Cond) (a0 : Addr) (w_a0_leader : Int32) (h0 : Heap) (F_a0_leader : Fld Z h0 a0 "com/example/snow_goose/snowgoose/Promise" "leader" "I" (.int w_a0_leader)) :
    Met l (⟨"com/example/snow_goose/snowgoose/Promise", "leader", "()I"⟩ : MethodName) prog_60_method_8_code 1 (some .int) ws ({ frames := 0, cells := 0, slots := 0, locals := 0 } : Room) Z #[(.ref a0)] h0 (fun v h' L => v = some (Value.int (F_leader w_a0_leader)) ∧ h' = h0 ∧ L = []) := by
  refine enter (plainFor_of_name pn_1) (ef_6 a0) ?_
  intro p e s m below meth c T0 kc kn Q hkc hkn hQ K' X0 e0
  have K : Fx p s m meth c prog_60_method_8_code 1 "com/example/snow_goose/snowgoose/Promise" "leader" (some .int) Z := K'
  refine k_aloadN K X0 d6_0 rfl rfl (q := 1) rfl ?_
  refine k_getfield K X0 e0 d6_1 (wd hw 17 rfl) F_a0_leader (q := 4) rfl ?_
  intro T88 X89 e90
  exact k_reti K X89 e90 d6_4 (Nat.le_trans (by decide) hkc) (Nat.le_trans (by decide) hkn) (hQ _ _ _ ⟨(by show some (Value.int w_a0_leader) = some (Value.int (F_leader w_a0_leader)); simp only [F_leader]), rfl, rfl⟩)
theorem pd_1 : parseMethodDescriptor "(JI)V" = some ⟨[.long, .int], none⟩ := by decide +kernel
theorem pd_2 : parseMethodDescriptor "(JI)Z" = some ⟨[.long, .int], some .boolean⟩ := by decide +kernel
theorem pd_3 : parseMethodDescriptor "()J" = some ⟨[], some .long⟩ := by decide +kernel
theorem pd_4 : parseMethodDescriptor "()I" = some ⟨[], some .int⟩ := by decide +kernel
theorem ef_0 (q0 : Int64) (p1 : Int32) (q2 : Int64) (p3 : Int32) (p4 : Int32) : ∀ m : MethodId, entryFrame m #[(.long q0), (.int p1), (.long q2), (.int p3), (.int p4)] maxLocals = mkF m 0 #[.val (.long q0), .second, .val (.int p1), .val (.long q2), .second, .val (.int p3), .val (.int p4), .unset, .unset, .unset, .unset, .unset, .unset, .unset] [] := by intro m; first | (simp [entryFrame, mkF, argsToLocals, Value.category, maxLocals]; done) | rfl
theorem pn_2 : plainName "com/example/snow_goose/snowgoose/PromiseAllowsPinLaw" = true := by first | (simp [plainName, overriddenIn]; done) | decide +kernel
def F_law (q0 : Int64) (p1 : Int32) (q2 : Int64) (p3 : Int32) (p4 : Int32) : Int32 :=
  let v91 : Int32 := (p4 &&& (3 : Int32))
  let d99 : Int64 := (if v91 = (0 : Int32) then q2 else (if v91 = (1 : Int32) then q0 else (if v91 = (2 : Int32) then (if q0 = (9223372036854775807 : Int64) then q0 else (q0 + (1 : Int64))) else (if q0 = (-9223372036854775808 : Int64) then q0 else (q0 - (1 : Int64))))))
  let d102 : Int32 := (if ((shrI p4 (2 : Int32)) &&& (1 : Int32)) = (0 : Int32) then p3 else p1)
  let v134 : Int32 := (F_allows d99 d102 q0 p1)
  let d139 : Int32 := (if d99 < q0 then (0 : Int32) else (if q0 < d99 then (1 : Int32) else (if d102 = p1 then (1 : Int32) else (0 : Int32))))
  let d150 : Int32 := (if v134 = d139 then (if (F_epoch q0) = q0 then (if (F_leader p1) = p1 then (1 : Int32) else (0 : Int32)) else (0 : Int32)) else (0 : Int32))
  (nar .boolean d150)
set_option maxRecDepth 65536 in
set_option maxHeartbeats 40000000 in
theorem rm0 (l : Launch) (Z : State) (az : Array Value) (hw : ∀ d ∈ tables_1, d.before az Z = true) (ws : List Jvm.Cond) (q0 : Int64) (p1 : Int32) (q2 : Int64) (p3 : Int32) (p4 : Int32) (h0 : Heap) (n0 : Nat) (Z0 : n0 ≤ h0.size) :
    Met l x code maxLocals ret ws room_1 Z #[(.long q0), (.int p1), (.long q2), (.int p3), (.int p4)] h0 (fun v h' L => v = some (Value.int (F_law q0 p1 q2 p3 p4)) ∧ Fr n0 L) := by
  refine enter (plainFor_of_name pn_2) (ef_0 q0 p1 q2 p3 p4) ?_
  intro p e s m below meth c T0 kc kn Q hkc hkn hQ K' X0 e0
  have K : Fx p s m meth c code 14 "com/example/snow_goose/snowgoose/PromiseAllowsPinLaw" "law" (some .boolean) Z := K'
  have N0 := Fr.nil n0
  have K0 : Keep h0 h0 [] := Keep.refl _ _
  refine k_iload K X0 at_0 rfl (q := 2) rfl ?_
  refine k_iconst K X0 at_2 (v := (3 : Int32)) rfl (q := 3) rfl ?_
  refine k_iand K X0 at_3 (q := 4) rfl ?_
  obtain ⟨v91, hv_v91⟩ : ∃ z : Int32, (p4 &&& (3 : Int32)) = z := ⟨_, rfl⟩
  refine k_istore K X0 at_4 hv_v91 (Ls' := #[.val (.long q0), .second, .val (.int p1), .val (.long q2), .second, .val (.int p3), .val (.int p4), .val (.int v91), .unset, .unset, .unset, .unset, .unset, .unset]) rfl (q := 6) rfl ?_
  refine k_iload K X0 at_6 rfl (q := 8) rfl ?_
  have J100 : ∀ (d99 : Int64), (if v91 = (0 : Int32) then q2 else (if v91 = (1 : Int32) then q0 else (if v91 = (2 : Int32) then (if q0 = (9223372036854775807 : Int64) then q0 else (q0 + (1 : Int64))) else (if q0 = (-9223372036854775808 : Int64) then q0 else (q0 - (1 : Int64)))))) = d99 → Run p e below s kc kn Q T0 (mkF m 72 #[.val (.long q0), .second, .val (.int p1), .val (.long q2), .second, .val (.int p3), .val (.int p4), .val (.int v91), .val (.long d99), .second, .unset, .unset, .unset, .unset] []) := by
    intro d99 hv_d99
    refine k_iload K X0 at_72 rfl (q := 74) rfl ?_
    refine k_iconst K X0 at_74 (v := (2 : Int32)) rfl (q := 75) rfl ?_
    refine k_ishr K X0 at_75 (q := 76) rfl ?_
    refine k_iconst K X0 at_76 (v := (1 : Int32)) rfl (q := 77) rfl ?_
    refine k_iand K X0 at_77 (q := 78) rfl ?_
    have J103 : ∀ (d102 : Int32), (if ((shrI p4 (2 : Int32)) &&& (1 : Int32)) = (0 : Int32) then p3 else p1) = d102 → Run p e below s kc kn Q T0 (mkF m 87 #[.val (.long q0), .second, .val (.int p1), .val (.long q2), .second, .val (.int p3), .val (.int p4), .val (.int v91), .val (.long d99), .second, .unset, .unset, .unset, .unset] [(.int d102)]) := by
      intro d102 hv_d102
      refine k_istore K X0 at_87 rfl (Ls' := #[.val (.long q0), .second, .val (.int p1), .val (.long q2), .second, .val (.int p3), .val (.int p4), .val (.int v91), .val (.long d99), .second, .val (.int d102), .unset, .unset, .unset]) rfl (q := 89) rfl ?_
      refine k_new K X0 e0 at_89 (wd hw 1 rfl) (wd hw 2 rfl) (wd hw 3 rfl) (by decide) (by decide) (q := 92) rfl ?_
      intro T104 h105 b106 X107 e108 g109 E110 A111 D112
      have ge113 : n0 ≤ b106 := Nat.le_trans Z0 (Nat.le_of_eq g109.symm)
      have bn114 : h0.size ≤ b106 := Nat.le_trans K0.1 (Nat.le_of_eq g109.symm)
      have K115 := Keep.ext K0 E110
      have Z116 := Nat.le_trans Z0 E110.1
      have f117 : Fld Z h105 b106 "com/example/snow_goose/snowgoose/Promise" "epoch" "J" (.long (0 : Int64)) := D112 (Or.inr (wd hw 16 rfl)) (ty := .long) (by decide)
      have f118 : Fld Z h105 b106 "com/example/snow_goose/snowgoose/Promise" "leader" "I" (.int (0 : Int32)) := D112 (Or.inr (wd hw 18 rfl)) (ty := .int) (by decide)
      refine k_dup K X107 at_92 rfl (q := 93) rfl ?_
      refine k_lloadN K X107 at_93 rfl (q := 94) rfl ?_
      refine k_iloadN K X107 at_94 rfl (q := 95) rfl ?_
      refine k_special K X107 e108 at_95 rfl (wd hw 4 rfl) (wd hw 5 rfl) (wd hw 3 rfl) (wd hw 6 rfl) (by decide) (rm1 l Z az hw [] b106 q0 p1 (0 : Int64) (0 : Int32) h105 n0 Z116 A111 f117 ge113 f118) (W := 1) (by decide) (by decide) (by decide) (by decide) rfl pd_1 (argsL := [(.long q0), (.int p1)]) (rest := [(.ref b106)]) rfl rfl rfl (Nat.le_of_eq rfl) (q := 98) rfl ?_
      rintro _ T119 L120 X121 ⟨rfl, N122, K123, f125, f126⟩
      have f127 := Exa.keep A111 K123
      have N128 := Fr.app N0 N122
      have K129 := Keep.trans K115 K123 (allS (Or.inr bn114) all0)
      have Z130 := Nat.le_trans Z116 K123.1
      refine k_astore K X121 at_98 rfl (Ls' := #[.val (.long q0), .second, .val (.int p1), .val (.long q2), .second, .val (.int p3), .val (.int p4), .val (.int v91), .val (.long d99), .second, .val (.int d102), .val (.ref b106), .unset, .unset]) rfl (q := 100) rfl ?_
      refine k_aload K X121 at_100 rfl rfl (q := 102) rfl ?_
      refine k_lload K X121 at_102 rfl (q := 104) rfl ?_
      refine k_iload K X121 at_104 rfl (q := 106) rfl ?_
      refine k_virtualP K X121 rfl at_106 (wd hw 19 rfl) (wd hw 20 rfl) (wd hw 22 rfl) (wd hw 21 rfl) (wd hw 3 rfl) (wd hw 23 rfl) (by decide) f127 (rm4 l Z az hw [] b106 d99 d102 q0 p1 T119.heap f125 f126) (W := 0) (by decide) (by decide) (by decide) (by decide) rfl pd_2 (argsL := [(.long d99), (.int d102)]) (rest := []) rfl rfl rfl (Nat.le_of_eq rfl) (q := 109) rfl ?_
      intro T131 X132 e133
      obtain ⟨v134, hv_v134⟩ : ∃ z : Int32, (F_allows d99 d102 q0 p1) = z := ⟨_, rfl⟩
      refine k_istore K X132 at_109 hv_v134 (Ls' := #[.val (.long q0), .second, .val (.int p1), .val (.long q2), .second, .val (.int p3), .val (.int p4), .val (.int v91), .val (.long d99), .second, .val (.int d102), .val (.ref b106), .val (.int v134), .unset]) rfl (q := 111) rfl ?_
      refine k_lload K X132 at_111 rfl (q := 113) rfl ?_
      refine k_lloadN K X132 at_113 rfl (q := 114) rfl ?_
      refine k_lcmp K X132 at_114 (q := 115) rfl ?_
      have J140 : ∀ (d139 : Int32), (if d99 < q0 then (0 : Int32) else (if q0 < d99 then (1 : Int32) else (if d102 = p1 then (1 : Int32) else (0 : Int32)))) = d139 → Run p e below s kc kn Q T131 (mkF m 150 #[.val (.long q0), .second, .val (.int p1), .val (.long q2), .second, .val (.int p3), .val (.int p4), .val (.int v91), .val (.long d99), .second, .val (.int d102), .val (.ref b106), .val (.int v134), .val (.int d139)] []) := by
        intro d139 hv_d139
        refine k_iload K X132 at_150 rfl (q := 152) rfl ?_
        refine k_iload K X132 at_152 rfl (q := 154) rfl ?_
        have J151 : ∀ (T152 : State) (Lc155 : List Loc), Stand p l e room_1 s m #[(.long q0), (.int p1), (.long q2), (.int p3), (.int p4)] below meth c T152 Lc155 1 2 → Fr n0 Lc155 → T152.heap = T119.heap → ∀ (d150 : Int32), (if v134 = d139 then (if (F_epoch q0) = q0 then (if (F_leader p1) = p1 then (1 : Int32) else (0 : Int32)) else (0 : Int32)) else (0 : Int32)) = d150 → Run p e below s kc kn Q T152 (mkF m 181 #[.val (.long q0), .second, .val (.int p1), .val (.long q2), .second, .val (.int p3), .val (.int p4), .val (.int v91), .val (.long d99), .second, .val (.int d102), .val (.ref b106), .val (.int v134), .val (.int d139)] [(.int d150)]) := by
          intro T152 Lc155 X153 N156 e154 d150 hv_d150
          exact k_retz K X153 e154 at_181 (Nat.le_trans (by decide) hkc) (Nat.le_trans (by decide) hkn) (hQ _ _ _ ⟨(by show some (Value.int (nar .boolean d150)) = some (Value.int (F_law q0 p1 q2 p3 p4)); simp only [F_law, hv_v91, hv_d99, hv_d102, hv_v134, hv_d139, hv_d150]), N156⟩)
        refine k_icmp_ne K X132 at_154 (by decide) (q := 180) rfl (q' := 157) rfl ?_ ?_
        · intro hc157
          refine k_iconst K X132 at_180 (v := (0 : Int32)) rfl (q := 181) rfl ?_
          exact J151 T131 _ X132 N128 e133 _ (by first | rfl | (simp only [if_neg hc157]))
        · intro hc157
          refine k_aload K X132 at_157 rfl rfl (q := 159) rfl ?_
          refine k_virtualP K X132 e133 at_159 (wd hw 24 rfl) (wd hw 25 rfl) (wd hw 27 rfl) (wd hw 26 rfl) (wd hw 3 rfl) (wd hw 28 rfl) (by decide) f127 (rm5 l Z az hw [] b106 q0 T119.heap f125) (W := 0) (by decide) (by decide) (by decide) (by decide) rfl pd_3 (argsL := []) (rest := []) rfl rfl rfl (Nat.le_of_eq rfl) (q := 162) rfl ?_
          intro T158 X159 e160
          refine k_lloadN K X159 at_162 rfl (q := 163) rfl ?_
          refine k_lcmp K X159 at_163 (q := 164) rfl ?_
          refine k_lcmp_ne K X159 at_164 (by decide) (q := 180) rfl (q' := 167) rfl ?_ ?_
          · intro hc161
            refine k_iconst K X159 at_180 (v := (0 : Int32)) rfl (q := 181) rfl ?_
            exact J151 T158 _ X159 N128 e160 _ (by first | rfl | (simp only [if_pos hc157, if_neg hc161]))
          · intro hc161
            refine k_aload K X159 at_167 rfl rfl (q := 169) rfl ?_
            refine k_virtualP K X159 e160 at_169 (wd hw 29 rfl) (wd hw 30 rfl) (wd hw 32 rfl) (wd hw 31 rfl) (wd hw 3 rfl) (wd hw 33 rfl) (by decide) f127 (rm6 l Z az hw [] b106 p1 T119.heap f126) (W := 0) (by decide) (by decide) (by decide) (by decide) rfl pd_4 (argsL := []) (rest := []) rfl rfl rfl (Nat.le_of_eq rfl) (q := 172) rfl ?_
            intro T162 X163 e164
            refine k_iloadN K X163 at_172 rfl (q := 173) rfl ?_
            refine k_icmp_ne K X163 at_173 (by decide) (q := 180) rfl (q' := 176) rfl ?_ ?_
            · intro hc165
              refine k_iconst K X163 at_180 (v := (0 : Int32)) rfl (q := 181) rfl ?_
              exact J151 T162 _ X163 N128 e164 _ (by first | rfl | (simp only [if_pos hc157, if_pos hc161, if_neg hc165]))
            · intro hc165
              refine k_iconst K X163 at_176 (v := (1 : Int32)) rfl (q := 177) rfl ?_
              refine k_goto K X163 at_177 (by decide) (q := 181) rfl ?_
              exact J151 T162 _ X163 N128 e164 _ (by first | rfl | (simp only [if_pos hc157, if_pos hc161, if_pos hc165]))
      refine k_lcmp_ge K X132 at_115 (by decide) (q := 124) rfl (q' := 118) rfl ?_ ?_
      · intro hc166
        refine k_lload K X132 at_124 rfl (q := 126) rfl ?_
        refine k_lloadN K X132 at_126 rfl (q := 127) rfl ?_
        refine k_lcmp K X132 at_127 (q := 128) rfl ?_
        refine k_lcmp_le K X132 at_128 (by decide) (q := 137) rfl (q' := 131) rfl ?_ ?_
        · intro hc167
          refine k_iload K X132 at_137 rfl (q := 139) rfl ?_
          refine k_iloadN K X132 at_139 rfl (q := 140) rfl ?_
          have J170 : ∀ (d169 : Int32), (if d102 = p1 then (1 : Int32) else (0 : Int32)) = d169 → Run p e below s kc kn Q T131 (mkF m 148 #[.val (.long q0), .second, .val (.int p1), .val (.long q2), .second, .val (.int p3), .val (.int p4), .val (.int v91), .val (.long d99), .second, .val (.int d102), .val (.ref b106), .val (.int v134), .unset] [(.int d169)]) := by
            intro d169 hv_d169
            refine k_istore K X132 at_148 rfl (Ls' := #[.val (.long q0), .second, .val (.int p1), .val (.long q2), .second, .val (.int p3), .val (.int p4), .val (.int v91), .val (.long d99), .second, .val (.int d102), .val (.ref b106), .val (.int v134), .val (.int d169)]) rfl (q := 150) rfl ?_
            exact J140 _ (by subst hv_d169; first | rfl | (simp only [if_neg hc166, if_neg hc167]))
          refine k_icmp_ne K X132 at_140 (by decide) (q := 147) rfl (q' := 143) rfl ?_ ?_
          · intro hc171
            refine k_iconst K X132 at_147 (v := (0 : Int32)) rfl (q := 148) rfl ?_
            exact J170 _ (by first | rfl | (simp only [if_neg hc171]))
          · intro hc171
            refine k_iconst K X132 at_143 (v := (1 : Int32)) rfl (q := 144) rfl ?_
            refine k_goto K X132 at_144 (by decide) (q := 148) rfl ?_
            exact J170 _ (by first | rfl | (simp only [if_pos hc171]))
        · intro hc167
          refine k_iconst K X132 at_131 (v := (1 : Int32)) rfl (q := 132) rfl ?_
          refine k_istore K X132 at_132 rfl (Ls' := #[.val (.long q0), .second, .val (.int p1), .val (.long q2), .second, .val (.int p3), .val (.int p4), .val (.int v91), .val (.long d99), .second, .val (.int d102), .val (.ref b106), .val (.int v134), .val (.int (1 : Int32))]) rfl (q := 134) rfl ?_
          refine k_goto K X132 at_134 (by decide) (q := 150) rfl ?_
          exact J140 _ (by first | rfl | (simp only [if_neg hc166, if_pos hc167]))
      · intro hc166
        refine k_iconst K X132 at_118 (v := (0 : Int32)) rfl (q := 119) rfl ?_
        refine k_istore K X132 at_119 rfl (Ls' := #[.val (.long q0), .second, .val (.int p1), .val (.long q2), .second, .val (.int p3), .val (.int p4), .val (.int v91), .val (.long d99), .second, .val (.int d102), .val (.ref b106), .val (.int v134), .val (.int (0 : Int32))]) rfl (q := 121) rfl ?_
        refine k_goto K X132 at_121 (by decide) (q := 150) rfl ?_
        exact J140 _ (by first | rfl | (simp only [if_pos hc166]))
    refine k_if_eq K X0 at_78 (by decide) (q := 85) rfl (q' := 81) rfl ?_ ?_
    · intro hc172
      refine k_iload K X0 at_85 rfl (q := 87) rfl ?_
      exact J103 _ (by first | rfl | (simp only [if_pos hc172]))
    · intro hc172
      refine k_iloadN K X0 at_81 rfl (q := 82) rfl ?_
      refine k_goto K X0 at_82 (by decide) (q := 87) rfl ?_
      exact J103 _ (by first | rfl | (simp only [if_neg hc172]))
  refine k_if_ne K X0 at_8 (by decide) (q := 17) rfl (q' := 11) rfl ?_ ?_
  · intro hc173
    refine k_iload K X0 at_17 rfl (q := 19) rfl ?_
    refine k_iconst K X0 at_19 (v := (1 : Int32)) rfl (q := 20) rfl ?_
    refine k_icmp_ne K X0 at_20 (by decide) (q := 29) rfl (q' := 23) rfl ?_ ?_
    · intro hc174
      refine k_iload K X0 at_29 rfl (q := 31) rfl ?_
      refine k_iconst K X0 at_31 (v := (2 : Int32)) rfl (q := 32) rfl ?_
      refine k_icmp_ne K X0 at_32 (by decide) (q := 55) rfl (q' := 35) rfl ?_ ?_
      · intro hc175
        refine k_lloadN K X0 at_55 rfl (q := 56) rfl ?_
        refine k_ldc2 K X0 at_56 (wd hw 34 rfl) (q := 59) rfl ?_
        refine k_lcmp K X0 at_59 (q := 60) rfl ?_
        have J178 : ∀ (d177 : Int64), (if q0 = (-9223372036854775808 : Int64) then q0 else (q0 - (1 : Int64))) = d177 → Run p e below s kc kn Q T0 (mkF m 70 #[.val (.long q0), .second, .val (.int p1), .val (.long q2), .second, .val (.int p3), .val (.int p4), .val (.int v91), .unset, .unset, .unset, .unset, .unset, .unset] [(.long d177)]) := by
          intro d177 hv_d177
          refine k_lstore K X0 at_70 rfl (Ls' := #[.val (.long q0), .second, .val (.int p1), .val (.long q2), .second, .val (.int p3), .val (.int p4), .val (.int v91), .val (.long d177), .second, .unset, .unset, .unset, .unset]) rfl (q := 72) rfl ?_
          exact J100 _ (by subst hv_d177; first | rfl | (simp only [if_neg hc173, if_neg hc174, if_neg hc175]))
        refine k_lcmp_ne K X0 at_60 (by decide) (q := 67) rfl (q' := 63) rfl ?_ ?_
        · intro hc179
          refine k_lloadN K X0 at_67 rfl (q := 68) rfl ?_
          refine k_lconst1 K X0 at_68 (q := 69) rfl ?_
          refine k_lsub K X0 at_69 (q := 70) rfl ?_
          exact J178 _ (by first | rfl | (simp only [if_neg hc179]))
        · intro hc179
          refine k_lloadN K X0 at_63 rfl (q := 64) rfl ?_
          refine k_goto K X0 at_64 (by decide) (q := 70) rfl ?_
          exact J178 _ (by first | rfl | (simp only [if_pos hc179]))
      · intro hc175
        refine k_lloadN K X0 at_35 rfl (q := 36) rfl ?_
        refine k_ldc2 K X0 at_36 (wd hw 0 rfl) (q := 39) rfl ?_
        refine k_lcmp K X0 at_39 (q := 40) rfl ?_
        have J182 : ∀ (d181 : Int64), (if q0 = (9223372036854775807 : Int64) then q0 else (q0 + (1 : Int64))) = d181 → Run p e below s kc kn Q T0 (mkF m 50 #[.val (.long q0), .second, .val (.int p1), .val (.long q2), .second, .val (.int p3), .val (.int p4), .val (.int v91), .unset, .unset, .unset, .unset, .unset, .unset] [(.long d181)]) := by
          intro d181 hv_d181
          refine k_lstore K X0 at_50 rfl (Ls' := #[.val (.long q0), .second, .val (.int p1), .val (.long q2), .second, .val (.int p3), .val (.int p4), .val (.int v91), .val (.long d181), .second, .unset, .unset, .unset, .unset]) rfl (q := 52) rfl ?_
          refine k_goto K X0 at_52 (by decide) (q := 72) rfl ?_
          exact J100 _ (by subst hv_d181; first | rfl | (simp only [if_neg hc173, if_neg hc174, if_pos hc175]))
        refine k_lcmp_ne K X0 at_40 (by decide) (q := 47) rfl (q' := 43) rfl ?_ ?_
        · intro hc183
          refine k_lloadN K X0 at_47 rfl (q := 48) rfl ?_
          refine k_lconst1 K X0 at_48 (q := 49) rfl ?_
          refine k_ladd K X0 at_49 (q := 50) rfl ?_
          exact J182 _ (by first | rfl | (simp only [if_neg hc183]))
        · intro hc183
          refine k_lloadN K X0 at_43 rfl (q := 44) rfl ?_
          refine k_goto K X0 at_44 (by decide) (q := 50) rfl ?_
          exact J182 _ (by first | rfl | (simp only [if_pos hc183]))
    · intro hc174
      refine k_lloadN K X0 at_23 rfl (q := 24) rfl ?_
      refine k_lstore K X0 at_24 rfl (Ls' := #[.val (.long q0), .second, .val (.int p1), .val (.long q2), .second, .val (.int p3), .val (.int p4), .val (.int v91), .val (.long q0), .second, .unset, .unset, .unset, .unset]) rfl (q := 26) rfl ?_
      refine k_goto K X0 at_26 (by decide) (q := 72) rfl ?_
      exact J100 _ (by first | rfl | (simp only [if_neg hc173, if_pos hc174]))
  · intro hc173
    refine k_lloadN K X0 at_11 rfl (q := 12) rfl ?_
    refine k_lstore K X0 at_12 rfl (Ls' := #[.val (.long q0), .second, .val (.int p1), .val (.long q2), .second, .val (.int p3), .val (.int p4), .val (.int v91), .val (.long q2), .second, .unset, .unset, .unset, .unset]) rfl (q := 14) rfl ?_
    refine k_goto K X0 at_14 (by decide) (q := 72) rfl ?_
    exact J100 _ (by first | rfl | (simp only [if_pos hc173]))
theorem own_eqI {x y : Int32} : x = y ↔ x.toInt = y.toInt := Int32.toInt_inj.symm
theorem own_eqJ {x y : Int64} : x = y ↔ x.toInt = y.toInt := Int64.toInt_inj.symm
theorem own_ltI {x y : Int32} : x < y ↔ x.toInt < y.toInt := Int32.lt_iff_toInt_lt
theorem own_ltJ {x y : Int64} : x < y ↔ x.toInt < y.toInt := Int64.lt_iff_toInt_lt
theorem own_al (e x : Int64) (i l : Int32) : F_allows x i e l = (if x < e then (0 : Int32) else if e < x then 1 else if i = l then 1 else 0) := by
  simp only [F_allows]
  by_cases k1 : x < e
  · have k2 : ¬ e < x := fun z => Int64.lt_irrefl (Int64.lt_trans k1 z)
    have k3 : ¬ x = e := fun z => by subst z; exact Int64.lt_irrefl k1
    simp only [if_pos k1, if_neg k2, if_neg k3]; decide
  · by_cases k2 : e < x
    · simp only [if_neg k1, if_pos k2]; decide
    · have k3 : x = e := by rw [own_eqJ]; rw [own_ltJ] at k1 k2; omega
      simp only [if_neg k1, if_neg k2, if_pos k3]
      by_cases k4 : i = l
      · simp only [if_pos k4]; decide
      · simp only [if_neg k4]; decide
theorem law_eq (q0 : Int64) (p1 : Int32) (q2 : Int64) (p3 p4 : Int32) : F_law q0 p1 q2 p3 p4 = 1 := by
  simp only [F_law, own_al, F_epoch, F_leader, if_true]
  decide
set_option maxRecDepth 65536 in
set_option maxHeartbeats 40000000 in
theorem comes_1 {Post : Tables → Env → Array Value → State → Outcome → State → Prop} (hpost : ∀ tb e args s v u, (limb_1_1.after args s (.returned v) u = true ∧ limb_1_2.after args s (.returned v) u = true ∧ True) → FrameEnd s (.returned v) u (Jvm.fieldLocs frame_1_writes args s ++ Jvm.arrayLocs frame_1_arrays args s ++ Jvm.staticLocs frame_1_statics s) 16 128 → Post tb e args s (.returned v) u) :
    ArmFor flags0 classFile x code maxLocals ret World_1 tables_1 room_1 Calls_1 rest_1 Pre_1 Post := by
  intro l hfl _ _ p e ha hc hk s m args below hf hA hF happ hP
  obtain ⟨hcalls, hrest, hpre⟩ := hP
  obtain ⟨-, -, -, hnamed, -, -, -, hat⟩ := (Spec.applies_iff hf).mp happ
  obtain ⟨hg, hn⟩ := and_e (Cond.before_iff.mp (show (Jvm.Cond.and given_1 narrow_1).before args s = true from hpre))
  obtain ⟨gc, g0⟩ := and_e hg
  obtain ⟨ga0, g1⟩ := and_e g0
  obtain ⟨ga1, g2⟩ := and_e g1
  obtain ⟨ga2, g3⟩ := and_e g2
  obtain ⟨ga3, g4⟩ := and_e g3
  obtain ⟨w0, w1, w2, w3, w4, rfl⟩ : ∃ w0 w1 w2 w3 w4 : Value, args = #[w0, w1, w2, w3, w4] := by
    have hs : args.size = 5 := by simpa [Cond.value, given_1] using gc
    obtain ⟨L⟩ := args
    match L, hs with
    | [w0, w1, w2, w3, w4], _ => exact ⟨w0, w1, w2, w3, w4, rfl⟩
  have hw := fun d (hd : d ∈ tables_1) => atoms_spec (ws := Jvm.Cond.code x code maxLocals ret :: tables_1) hat d (List.mem_cons_of_mem _ hd)
  obtain ⟨i0, ei0⟩ := isL_v ga0
  obtain rfl : w0 = (.long i0) := Option.some.inj ei0
  obtain ⟨i1, ei1⟩ := is_v ga1
  obtain rfl : w1 = (.int i1) := Option.some.inj ei1
  obtain ⟨i2, ei2⟩ := isL_v ga2
  obtain rfl : w2 = (.long i2) := Option.some.inj ei2
  obtain ⟨i3, ei3⟩ := is_v ga3
  obtain rfl : w3 = (.int i3) := Option.some.inj ei3
  obtain ⟨i4, ei4⟩ := is_v g4
  obtain rfl : w4 = (.int i4) := Option.some.inj ei4
  obtain ⟨n, o, h1, h2, h3, _, L, rfl, ⟨rfl, N⟩, hq⟩ := rm0 l s _ hw tables_1 i0 i1 i2 i3 i4 s.heap s.heap.size (Nat.le_refl _) p e ha hc hk s m _ below hf ((Spec.applies_iff_loose hf).mp happ).1 ⟨rfl, State.Warmed39.refl s, rfl⟩ trivial
  rw [law_eq] at *
  refine ⟨n, _, h1, h2, h3, hpost _ _ _ _ _ _ ⟨Cond.after_iff.mpr rfl, Cond.after_iff.mpr (eq_i res_at (Term.int_eval (1)) rfl), trivial⟩ ⟨hq.1, hq.2.1, (hq.2.2.sift fun y hy => Or.inr (N y hy)).mono (by decide) (by decide)⟩⟩
theorem main_1_1 : Claimed_1_1 := comes_1 fun _ _ _ _ _ _ h hF => ⟨h.1, hF⟩
theorem main_1_2 : Claimed_1_2 := comes_1 fun _ _ _ _ _ _ h hF => ⟨h.2.1, hF⟩
end Jvm.Pilot.@@N@@
namespace Jvm.Pilot.@@N@@
open Jvm Jvm.ClassFile Sem Op Lib Jvm.Free Jvm.Stand Jvm.Pilot.@@N@@.Jvm.D
/-! MADE BY PROGRAM (witnessworld.py) out of the Statement's table words and the real class files: 10 classes; the members and pool entries that the words name. The judged class is class 1, her method 1. -/
namespace start1
open Jvm.ClassFile
def u (s : String) : CpInfo := .utf8 (stringToUtf16 s)
/-- a pool by its gaps: so many unusable entries, then the entry; so many at the end -/
def gap : Nat → List CpInfo → List CpInfo
  | 0, r => r
  | n + 1, r => .unusable :: gap n r
def poolList (es : List (Nat × CpInfo)) (last : Nat) : List CpInfo := es.foldr (fun e r => gap e.1 (e.2 :: r)) (gap last [])
def pool (es : List (Nat × CpInfo)) (last : Nat) : Array CpInfo := ⟨poolList es last⟩
def fileOf (pool : Array CpInfo) (this : Nat) (attrs : Array Attribute := #[]) (ms : Array MethodInfo := #[]) (fl : Nat := 33) (sup : Nat := 0) (ifs : Array Nat := #[]) (fds : Array FieldInfo := #[]) : ClassFile where
  minorVersion := 0
  majorVersion := 65
  constantPool := pool
  accessFlags := fl
  thisClass := this
  superClass := sup
  interfaces := ifs
  fields := fds
  methods := ms
  attributes := attrs
def plain (name : String) (sup : Option ClassId) : Class where
  name := name
  kind := .ordinary
  loader := none
  accessFlags := 33
  super := sup
  interfaces := #[]
  cf := none
  fields := #[]
  methods := #[]
  instanceTypes := #[]
  staticTypes := #[]
  resolved := #[]
  callSites := []
  init := .initialized
  statics := none
  mirror := none

def pool0 : Array CpInfo := pool [(5, u "<init>"), (0, u "()V"), (1, .class_ 10), (1, u "java/lang/Object")] 113

def k0c0 : Code := { maxStack := 0, maxLocals := 1, code := object_method_1_code, exceptionTable := #[], attributes := #[] }
def k0m0 : Method := { name := "<init>", desc := "()V", sig := { parameters := [], returnType := none }, accessFlags := 1, code := some k0c0 }
/-- java/lang/Object -/
def k0 : Class := { plain "java/lang/Object" none with
  accessFlags := 33
  interfaces := #[]
  cf := some (fileOf pool0 8 #[] #[{ accessFlags := 1, nameIndex := 5, descriptorIndex := 6, attributes := #[] }] 33 0 #[] #[])
  fields := #[]
  methods := #[k0m0]
  instanceTypes := #[]
  staticTypes := #[]
  resolved := Array.replicate 124 none
  statics := none }

def pool1 : Array CpInfo := pool [(2, .class_ 4), (1, u "java/lang/Object"), (0, u "<init>"), (0, u "()V"), (2, .long 9223372036854775807), (1, .long 9223372036854775808), (1, .class_ 14), (0, u "com/example/snow_goose/snowgoose/Promise"), (0, .methodref 13 16), (0, .nameAndType 5 17), (0, u "(JI)V"), (0, .methodref 13 19), (0, .nameAndType 20 21), (0, u "allows"), (0, u "(JI)Z"), (0, .methodref 13 23), (0, .nameAndType 24 25), (0, u "epoch"), (0, u "()J"), (0, .methodref 13 27), (0, .nameAndType 28 29), (0, u "leader"), (0, u "()I"), (0, .class_ 31), (0, u "com/example/snow_goose/snowgoose/PromiseAllowsPinLaw"), (2, u "law"), (0, u "(JIJII)Z")] 3

def k1m0 : Method := { name := "<init>", desc := "()V", sig := { parameters := [], returnType := none }, accessFlags := 2, code := none }
def k1c1 : Code := { maxStack := 5, maxLocals := 14, code := code, exceptionTable := #[], attributes := #[] }
def k1m1 : Method := { name := "law", desc := "(JIJII)Z", sig := { parameters := [.long, .int, .long, .int, .int], returnType := some .boolean }, accessFlags := 9, code := some k1c1 }
/-- com/example/snow_goose/snowgoose/PromiseAllowsPinLaw -/
def k1 : Class := { plain "com/example/snow_goose/snowgoose/PromiseAllowsPinLaw" (some 0) with
  accessFlags := 49
  interfaces := #[]
  cf := some (fileOf pool1 30 #[] #[{ accessFlags := 2, nameIndex := 5, descriptorIndex := 6, attributes := #[] }, { accessFlags := 9, nameIndex := 34, descriptorIndex := 35, attributes := #[] }] 49 2 #[] #[])
  fields := #[]
  methods := #[k1m0, k1m1]
  instanceTypes := #[]
  staticTypes := #[]
  resolved := Array.replicate 39 none
  statics := none }

def pool2 : Array CpInfo := pool [(1, .methodref 2 3), (0, .class_ 4), (0, .nameAndType 5 6), (0, u "java/lang/Object"), (0, u "<init>"), (0, u "()V"), (0, .class_ 8), (0, u "java/lang/Record")] 13

def k2c0 : Code := { maxStack := 1, maxLocals := 1, code := jdk_30_method_1_code, exceptionTable := #[], attributes := #[] }
def k2m0 : Method := { name := "<init>", desc := "()V", sig := { parameters := [], returnType := none }, accessFlags := 4, code := some k2c0 }
/-- java/lang/Record -/
def k2 : Class := { plain "java/lang/Record" (some 0) with
  accessFlags := 1057
  interfaces := #[]
  cf := some (fileOf pool2 7 #[] #[{ accessFlags := 4, nameIndex := 5, descriptorIndex := 6, attributes := #[] }] 1057 2 #[] #[])
  fields := #[]
  methods := #[k2m0]
  instanceTypes := #[]
  staticTypes := #[]
  resolved := Array.replicate 22 none
  statics := none }

def pool3 : Array CpInfo := pool [(1, .methodref 2 3), (0, .class_ 4), (0, .nameAndType 5 6), (0, u "java/lang/Record"), (0, u "<init>"), (0, u "()V"), (0, .fieldref 8 9), (0, .class_ 10), (0, .nameAndType 11 12), (0, u "com/example/snow_goose/snowgoose/Promise"), (0, u "epoch"), (0, u "J"), (0, .fieldref 8 14), (0, .nameAndType 15 16), (0, u "leader"), (0, u "I"), (18, u "(JI)V"), (2, u "NONE"), (0, u "Lcom/example/snow_goose/snowgoose/Promise;"), (3, u "allows"), (0, u "(JI)Z"), (3, u "()I"), (1, u "()J")] 30

def k3c0 : Code := { maxStack := 3, maxLocals := 4, code := prog_60_method_1_code, exceptionTable := #[], attributes := #[] }
def k3m0 : Method := { name := "<init>", desc := "(JI)V", sig := { parameters := [.long, .int], returnType := none }, accessFlags := 0, code := some k3c0 }
def k3c1 : Code := { maxStack := 4, maxLocals := 4, code := prog_60_method_2_code, exceptionTable := #[], attributes := #[] }
def k3m1 : Method := { name := "allows", desc := "(JI)Z", sig := { parameters := [.long, .int], returnType := some .boolean }, accessFlags := 0, code := some k3c1 }
def k3c2 : Code := { maxStack := 2, maxLocals := 1, code := prog_60_method_7_code, exceptionTable := #[], attributes := #[] }
def k3m2 : Method := { name := "epoch", desc := "()J", sig := { parameters := [], returnType := some .long }, accessFlags := 1, code := some k3c2 }
def k3c3 : Code := { maxStack := 1, maxLocals := 1, code := prog_60_method_8_code, exceptionTable := #[], attributes := #[] }
def k3m3 : Method := { name := "leader", desc := "()I", sig := { parameters := [], returnType := some .int }, accessFlags := 1, code := some k3c3 }
/-- com/example/snow_goose/snowgoose/Promise -/
def k3 : Class := { plain "com/example/snow_goose/snowgoose/Promise" (some 2) with
  accessFlags := 48
  interfaces := #[]
  cf := some (fileOf pool3 8 #[] #[{ accessFlags := 0, nameIndex := 5, descriptorIndex := 35, attributes := #[] }, { accessFlags := 0, nameIndex := 43, descriptorIndex := 44, attributes := #[] }, { accessFlags := 1, nameIndex := 11, descriptorIndex := 50, attributes := #[] }, { accessFlags := 1, nameIndex := 15, descriptorIndex := 48, attributes := #[] }] 48 2 #[] #[{ accessFlags := 18, nameIndex := 11, descriptorIndex := 12, attributes := #[] }, { accessFlags := 18, nameIndex := 15, descriptorIndex := 16, attributes := #[] }, { accessFlags := 24, nameIndex := 38, descriptorIndex := 39, attributes := #[] }])
  fields := #[{ name := "epoch", type := .long, accessFlags := 18, slot := 0, constantValue := 0 }, { name := "leader", type := .int, accessFlags := 18, slot := 1, constantValue := 0 }, { name := "NONE", type := (.object "com/example/snow_goose/snowgoose/Promise"), accessFlags := 24, slot := 0, constantValue := 0 }]
  methods := #[k3m0, k3m1, k3m2, k3m3]
  instanceTypes := #[.long, .int]
  staticTypes := #[(.object "com/example/snow_goose/snowgoose/Promise")]
  resolved := Array.replicate 81 none
  statics := none }

def pool4 : Array CpInfo := pool [(1, u "java/lang/Cloneable"), (0, .class_ 1), (0, u "java/lang/Object"), (0, .class_ 3)] 3

/-- java/lang/Cloneable -/
def k4 : Class := { plain "java/lang/Cloneable" (some 0) with
  accessFlags := 1537
  interfaces := #[]
  cf := some (fileOf pool4 2 #[] #[] 1537 4 #[] #[])
  fields := #[]
  methods := #[]
  instanceTypes := #[]
  staticTypes := #[]
  resolved := Array.replicate 8 none
  statics := none }

def pool5 : Array CpInfo := pool [(1, u "java/io/Serializable"), (0, .class_ 1), (0, u "java/lang/Object"), (0, .class_ 3)] 3

/-- java/io/Serializable -/
def k5 : Class := { plain "java/io/Serializable" (some 0) with
  accessFlags := 1537
  interfaces := #[]
  cf := some (fileOf pool5 2 #[] #[] 1537 4 #[] #[])
  fields := #[]
  methods := #[]
  instanceTypes := #[]
  staticTypes := #[]
  resolved := Array.replicate 8 none
  statics := none }

/-- the primitive byte -/
def k6 : Class := { plain "byte" none with kind := .primitive 'B', accessFlags := 0x411 }
/-- [B -/
def k7 : Class := { plain "[B" (some 0) with kind := .array 6 .byte, interfaces := #[4, 5], accessFlags := 1041 }

/-- the primitive int -/
def k8 : Class := { plain "int" none with kind := .primitive 'I', accessFlags := 0x411 }
/-- [I -/
def k9 : Class := { plain "[I" (some 0) with kind := .array 8 .int, interfaces := #[4, 5], accessFlags := 1041 }

def heap : Heap := #[]
def classes : Array Class := #[k0, k1, k2, k3, k4, k5, k6, k7, k8, k9]
def interned : List (Array UInt16 × Addr) := []
def slotsUsed : Nat := 0
def theMethod : MethodId := ⟨1, 1⟩
def args0 : Array Value := #[.long 5, .int 7, .long 9, .int 11, .int 4]
def aboutOver (below : List Frame) : State where
  vm := { classes := classes, interned := interned.toArray }
  heap := heap
  slotsUsed := slotsUsed
  threads := #[{ frames := .invoking theMethod args0 :: below }]
def below0 : List Frame := [.native { method := ⟨0, 0⟩, args := #[] }]
def about1 : State := aboutOver below0
def p0 : Program := .bare "" "" ""
def e0 : Env := launch0.env 0 0 0
theorem w_frames : about1.frames = Frame.invoking theMethod args0 :: below0 := rfl
set_option maxRecDepth 65536 in
theorem w_args : argsFit about1.vm theMethod args0 = true := by decide +kernel
set_option maxRecDepth 65536 in
theorem w_heap : heapFits about1 = true := by decide +kernel
set_option maxRecDepth 65536 in
theorem w_runnable : about1.curStatus? = some .runnable := by decide +kernel
set_option maxRecDepth 65536 in
theorem w_alone : about1.alone = true := by decide +kernel
set_option maxRecDepth 65536 in
theorem w_named : about1.methodNamed? x = some theMethod := by decide +kernel
set_option maxRecDepth 65536 in
theorem w_hears : about1.hears theMethod below0 = true := by decide +kernel
set_option maxRecDepth 65536 in
theorem w_ripe : about1.ripe theMethod args0 below0 = true := by decide +kernel
theorem w_running : about1.status = .running := rfl
set_option maxRecDepth 65536 in
theorem w_room : about1.hasRoom e0.platform room_1 = true :=
  launch0.hasRoom_least _ room_1 (by decide +kernel) (by decide +kernel) (by decide +kernel) (by decide +kernel) (by decide +kernel) (by decide +kernel)
theorem allAtoms_all (ts : List Jvm.Cond) (a : Array Jvm.Value) (st : Jvm.State) : (allAtoms ts).before a st = ts.all (fun c => c.before a st) := by
  induction ts with
  | nil => rfl
  | cons c t ih =>
    show (Jvm.Cond.and c (allAtoms t)).before a st = _
    rw [Jvm.Cond.before_and, ih, List.all_cons]
def words1 : List Jvm.Cond := Jvm.Cond.code x code maxLocals ret :: tables_1
/-- a 'code' word, met by the world's own term for the bytes: nothing is compared byte by byte -/
theorem code_word {y : MethodName} {bytes : ByteArray} {mx : Nat} {rt : Option FieldType} {a : Array Value} {s : State} {m : MethodId} {meth : Method} {c : Code} (h1 : s.methodNamed? y = some m) (h2 : s.vm.method? m = some meth) (h3 : meth.code = some c) (h4 : c.code = bytes)
    (h5 : (c.maxLocals == mx && c.exceptionTable.isEmpty && decide (c.maxStack ≤ mostOperands) && decide (meth.sig.returnType = rt) && !meth.locks && decide (parseMethodDescriptor y.desc = some meth.sig)) = true) : (Jvm.Cond.code y bytes mx rt).before a s = true := by
  simp only [Bool.and_eq_true, beq_iff_eq, Bool.not_eq_true', decide_eq_true_eq] at h5
  obtain ⟨⟨⟨⟨⟨g1, g2⟩, g3⟩, g4⟩, g5⟩, g6⟩ := h5
  simp [Cond.before, Cond.holds, Cond.value, h1, h2, h3, h4, g1, g2, g3, g4, g5, g6]
def isCode : Jvm.Cond → Bool
  | .code _ _ _ _ => true
  | _ => false
theorem all_split {L : List Jvm.Cond} {P : Jvm.Cond → Bool} (h1 : L.all (fun c => isCode c || P c) = true) (h2 : ∀ c ∈ L.filter isCode, P c = true) : L.all P = true := by
  refine List.all_eq_true.mpr fun c hc => ?_
  have h := List.all_eq_true.mp h1 c hc
  rcases Bool.eq_false_or_eq_true (isCode c) with hi | hi
  · exact h2 c (List.mem_filter.mpr ⟨hc, hi⟩)
  · simpa [hi] using h
set_option maxRecDepth 65536 in
theorem w_c0 : (Jvm.Cond.code x code maxLocals ret).before args0 about1 = true := code_word (m := ⟨1, 1⟩) (meth := k1m1) (c := k1c1) (by decide +kernel) rfl rfl rfl (by decide +kernel)
set_option maxRecDepth 65536 in
theorem w_c1 : (Jvm.Cond.code ({ cls := "com/example/snow_goose/snowgoose/Promise", name := "<init>", desc := "(JI)V" } : Jvm.MethodName) prog_60_method_1_code (4 : Nat) (Option.none : Option Jvm.ClassFile.FieldType)).before args0 about1 = true := code_word (m := ⟨3, 0⟩) (meth := k3m0) (c := k3c0) (by decide +kernel) rfl rfl rfl (by decide +kernel)
set_option maxRecDepth 65536 in
theorem w_c2 : (Jvm.Cond.code ({ cls := "java/lang/Record", name := "<init>", desc := "()V" } : Jvm.MethodName) jdk_30_method_1_code (1 : Nat) (Option.none : Option Jvm.ClassFile.FieldType)).before args0 about1 = true := code_word (m := ⟨2, 0⟩) (meth := k2m0) (c := k2c0) (by decide +kernel) rfl rfl rfl (by decide +kernel)
set_option maxRecDepth 65536 in
theorem w_c3 : (Jvm.Cond.code ({ cls := "java/lang/Object", name := "<init>", desc := "()V" } : Jvm.MethodName) object_method_1_code (1 : Nat) (Option.none : Option Jvm.ClassFile.FieldType)).before args0 about1 = true := code_word (m := ⟨0, 0⟩) (meth := k0m0) (c := k0c0) (by decide +kernel) rfl rfl rfl (by decide +kernel)
set_option maxRecDepth 65536 in
theorem w_c4 : (Jvm.Cond.code ({ cls := "com/example/snow_goose/snowgoose/Promise", name := "allows", desc := "(JI)Z" } : Jvm.MethodName) prog_60_method_2_code (4 : Nat) (Option.some Jvm.ClassFile.FieldType.boolean)).before args0 about1 = true := code_word (m := ⟨3, 1⟩) (meth := k3m1) (c := k3c1) (by decide +kernel) rfl rfl rfl (by decide +kernel)
set_option maxRecDepth 65536 in
theorem w_c5 : (Jvm.Cond.code ({ cls := "com/example/snow_goose/snowgoose/Promise", name := "epoch", desc := "()J" } : Jvm.MethodName) prog_60_method_7_code (1 : Nat) (Option.some Jvm.ClassFile.FieldType.long)).before args0 about1 = true := code_word (m := ⟨3, 2⟩) (meth := k3m2) (c := k3c2) (by decide +kernel) rfl rfl rfl (by decide +kernel)
set_option maxRecDepth 65536 in
theorem w_c6 : (Jvm.Cond.code ({ cls := "com/example/snow_goose/snowgoose/Promise", name := "leader", desc := "()I" } : Jvm.MethodName) prog_60_method_8_code (1 : Nat) (Option.some Jvm.ClassFile.FieldType.int)).before args0 about1 = true := code_word (m := ⟨3, 3⟩) (meth := k3m3) (c := k3c3) (by decide +kernel) rfl rfl rfl (by decide +kernel)
def codes1 : List Jvm.Cond := [Jvm.Cond.code x code maxLocals ret, Jvm.Cond.code ({ cls := "com/example/snow_goose/snowgoose/Promise", name := "<init>", desc := "(JI)V" } : Jvm.MethodName) prog_60_method_1_code (4 : Nat) (Option.none : Option Jvm.ClassFile.FieldType), Jvm.Cond.code ({ cls := "java/lang/Record", name := "<init>", desc := "()V" } : Jvm.MethodName) jdk_30_method_1_code (1 : Nat) (Option.none : Option Jvm.ClassFile.FieldType), Jvm.Cond.code ({ cls := "java/lang/Object", name := "<init>", desc := "()V" } : Jvm.MethodName) object_method_1_code (1 : Nat) (Option.none : Option Jvm.ClassFile.FieldType), Jvm.Cond.code ({ cls := "com/example/snow_goose/snowgoose/Promise", name := "allows", desc := "(JI)Z" } : Jvm.MethodName) prog_60_method_2_code (4 : Nat) (Option.some Jvm.ClassFile.FieldType.boolean), Jvm.Cond.code ({ cls := "com/example/snow_goose/snowgoose/Promise", name := "epoch", desc := "()J" } : Jvm.MethodName) prog_60_method_7_code (1 : Nat) (Option.some Jvm.ClassFile.FieldType.long), Jvm.Cond.code ({ cls := "com/example/snow_goose/snowgoose/Promise", name := "leader", desc := "()I" } : Jvm.MethodName) prog_60_method_8_code (1 : Nat) (Option.some Jvm.ClassFile.FieldType.int)]
set_option maxRecDepth 65536 in
theorem codes_eq : words1.filter isCode = codes1 := rfl
theorem w_codes : ∀ c ∈ words1.filter isCode, c.before args0 about1 = true := by
  rw [codes_eq]
  intro c hc
  simp only [codes1, List.mem_cons, List.not_mem_nil, or_false] at hc
  rcases hc with rfl | rfl | rfl | rfl | rfl | rfl | rfl
  · exact w_c0
  · exact w_c1
  · exact w_c2
  · exact w_c3
  · exact w_c4
  · exact w_c5
  · exact w_c6
set_option maxRecDepth 65536 in
theorem w_t1 : (words1.take 24).all (fun c => isCode c || c.before args0 about1) = true := by decide +kernel
set_option maxRecDepth 65536 in
theorem w_t2 : (words1.drop 24).all (fun c => isCode c || c.before args0 about1) = true := by decide +kernel
theorem w_tables : (allAtoms (Jvm.Cond.code x code maxLocals ret :: tables_1)).before args0 about1 = true := by
  rw [allAtoms_all]
  show words1.all (fun c => c.before args0 about1) = true
  refine all_split ?_ w_codes
  rw [← List.take_append_drop 24 words1, List.all_append, w_t1, w_t2]
  rfl
set_option maxRecDepth 65536 in
theorem w_case : (Jvm.Cond.and given_1 narrow_1).before args0 about1 = true := by decide +kernel
theorem w_applies : (headSpec (Jvm.Cond.code x code maxLocals ret :: tables_1) room_1).applies x e0.platform about1 = true :=
  (Spec.applies_iff w_frames).mpr ⟨w_running, w_runnable, w_alone, w_named, w_hears, w_ripe, w_room, w_tables⟩
theorem atStart : AtStart classFile x code maxLocals ret World_1 tables_1 room_1 Calls_1 rest_1 Pre_1 launch0 p0 e0 about1 theMethod args0 below0 :=
  ⟨lists_1, trivial, launch0.admits_env _ _ _, launch0.least_env, fairChoices_fair.cas, fairChoices_fair.clock, w_frames, w_args, w_heap, w_applies, trivial, trivial, w_case⟩
end start1
theorem witness_1 : WitnessClaimed_1 := ⟨start1.p0, start1.e0, start1.about1, start1.theMethod, start1.args0, start1.below0, start1.atStart⟩
end Jvm.Pilot.@@N@@
