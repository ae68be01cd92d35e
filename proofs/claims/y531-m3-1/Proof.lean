import JvmDerived
import JvmDerived.Pilot.@@N@@Statement
import JvmDerived.Pilot.@@N@@Code
set_option linter.unusedVariables false
set_option linter.unusedSimpArgs false
namespace Jvm.Pilot.@@N@@
open Jvm Jvm.ClassFile Sem Op Lib Jvm.Free Jvm.Stand Jvm.LawKit Jvm.RoadKit Bundle Jvm.Pilot.@@N@@.Jvm.D
section OwnKit
variable {p : Program} {l : Launch} {e : Env} {R : Room} {s : State} {m : MethodId} {args : Array Value} {below : List Frame} {meth : Method} {c : Code} {T T' : State} {locs : List Loc} {cells slots kc kn : Nat} {Q : Option Value → Heap → List Loc → Prop} {f f' : JFrame} {pc q q' : Nat} {Ls Ls' : Array Slot} {st : List Value} {Z : State} {a0 : Array Value} {h : Heap} {by' : ByteArray} {ml : Nat} {own nm : String} {ret : Option FieldType}
/-- from this state, with this frame on top, the body returns as Q says -/
def Run (p : Program) (e : Env) (below : List Frame) (s : State) (kc kn : Nat) (Q : Option Value → Heap → List Loc → Prop) (T : State) (f : JFrame) : Prop :=
  ∃ t o, Steps p.tables e below (T.setTop f) t ∧ t.status = .running ∧ Ended t below o ∧ ∃ v L, o = .returned v ∧ Q v t.heap L ∧ FrameEnd s o t L kc kn
theorem Run.by (st : ∀ t, Steps p.tables e below (T'.setTop f') t → Steps p.tables e below (T.setTop f) t) (k : Run p e below s kc kn Q T' f') : Run p e below s kc kn Q T f := by
  obtain ⟨t, o, h1, r⟩ := k
  exact ⟨t, o, st t h1, r⟩
theorem Run.on (k : Run p e below s kc kn Q T' f') (st : Steps p.tables e below (T.setTop f) (T'.setTop f')) : Run p e below s kc kn Q T f := k.by fun _ h1 => st.trans h1
/-- what a walk knows of its method throughout -/
def Fx (p : Program) (s : State) (m : MethodId) (meth : Method) (c : Code) (by' : ByteArray) (ml : Nat) (own nm : String) (ret : Option FieldType) (Z : State) : Prop :=
  p.tables.exec = Jvm.exec ∧ c.code = by' ∧ c.maxLocals = ml ∧ s.vm.findClass own = some m.cls ∧ Z.Warmed39 s.vm ∧ meth.sig.returnType = ret ∧ meth.locks = false ∧ meth.name = nm
def ushrI (x k : Int32) : Int32 := (x.toUInt32 >>> (k &&& 31).toUInt32).toInt32
def shrI (x k : Int32) : Int32 := x >>> (k &&& 31)
def shlI (x k : Int32) : Int32 := x <<< (k &&& 31)
def i2b (x : Int32) : Int32 := x.toInt8.toInt32
theorem k_iloadN (K : Fx p s m meth c by' ml own nm ret Z) (X : Stand p l e R s m args below meth c T locs cells slots) {k' : Fin 4} {v : Int32} (hd : decode by' pc = .ok (.iload_n k', 1)) (hl : Ls[k'.val]? = some (.val (.int v))) (hq : pc + 1 = q) (k : Run p e below s kc kn Q T (mkF m q Ls (.int v :: st))) : Run p e below s kc kn Q T (mkF m pc Ls st) := by
  subst hq; exact k.by fun t => XS.iloadN X.here K.1 rfl (hb K.2.1 hd) hl
theorem k_iload (K : Fx p s m meth c by' ml own nm ret Z) (X : Stand p l e R s m args below meth c T locs cells slots) {k' : Nat} {v : Int32} (hd : decode by' pc = .ok (.iload k', 2)) (hl : Ls[k']? = some (.val (.int v))) (hq : pc + 2 = q) (k : Run p e below s kc kn Q T (mkF m q Ls (.int v :: st))) : Run p e below s kc kn Q T (mkF m pc Ls st) := by
  subst hq; exact k.by fun t => XS.iload X.here K.1 rfl (hb K.2.1 hd) hl
theorem k_aloadN (K : Fx p s m meth c by' ml own nm ret Z) (X : Stand p l e R s m args below meth c T locs cells slots) {k' : Fin 4} {v : Value} (hd : decode by' pc = .ok (.aload_n k', 1)) (hl : Ls[k'.val]? = some (.val v)) (hv : v.isRef = true) (hq : pc + 1 = q) (k : Run p e below s kc kn Q T (mkF m q Ls (v :: st))) : Run p e below s kc kn Q T (mkF m pc Ls st) := by
  subst hq; exact k.by fun t => XS.aloadN X.here K.1 rfl (hb K.2.1 hd) hl hv
theorem k_aload (K : Fx p s m meth c by' ml own nm ret Z) (X : Stand p l e R s m args below meth c T locs cells slots) {k' : Nat} {v : Value} (hd : decode by' pc = .ok (.aload k', 2)) (hl : Ls[k']? = some (.val v)) (hv : v.isRef = true) (hq : pc + 2 = q) (k : Run p e below s kc kn Q T (mkF m q Ls (v :: st))) : Run p e below s kc kn Q T (mkF m pc Ls st) := by
  subst hq; exact k.by fun t => XS.aload X.here K.1 rfl (hb K.2.1 hd) hl hv
theorem k_istoreN (K : Fx p s m meth c by' ml own nm ret Z) (X : Stand p l e R s m args below meth c T locs cells slots) {k' : Fin 4} {v x : Int32} (hd : decode by' pc = .ok (.istore_n k', 1)) (hv : x = v) (hl : storeLocals Ls k'.val (.int v) = some Ls') (hq : pc + 1 = q) (k : Run p e below s kc kn Q T (mkF m q Ls' st)) : Run p e below s kc kn Q T (mkF m pc Ls (.int x :: st)) := by
  subst hq hv; exact k.by fun t => XS.istoreN X.here K.1 rfl (hb K.2.1 hd) rfl hl
theorem k_istore (K : Fx p s m meth c by' ml own nm ret Z) (X : Stand p l e R s m args below meth c T locs cells slots) {k' : Nat} {v x : Int32} (hd : decode by' pc = .ok (.istore k', 2)) (hv : x = v) (hl : storeLocals Ls k' (.int v) = some Ls') (hq : pc + 2 = q) (k : Run p e below s kc kn Q T (mkF m q Ls' st)) : Run p e below s kc kn Q T (mkF m pc Ls (.int x :: st)) := by
  subst hq hv; exact k.by fun t => XS.istore X.here K.1 rfl (hb K.2.1 hd) rfl hl
theorem k_astoreN (K : Fx p s m meth c by' ml own nm ret Z) (X : Stand p l e R s m args below meth c T locs cells slots) {k' : Fin 4} {v : Value} (hd : decode by' pc = .ok (.astore_n k', 1)) (hv : v.isRef = true) (hl : storeLocals Ls k'.val v = some Ls') (hq : pc + 1 = q) (k : Run p e below s kc kn Q T (mkF m q Ls' st)) : Run p e below s kc kn Q T (mkF m pc Ls (v :: st)) := by
  subst hq; exact k.by fun t => XS.astoreN X.here K.1 rfl (hb K.2.1 hd) rfl hv hl
theorem k_astore (K : Fx p s m meth c by' ml own nm ret Z) (X : Stand p l e R s m args below meth c T locs cells slots) {k' : Nat} {v : Value} (hd : decode by' pc = .ok (.astore k', 2)) (hv : v.isRef = true) (hl : storeLocals Ls k' v = some Ls') (hq : pc + 2 = q) (k : Run p e below s kc kn Q T (mkF m q Ls' st)) : Run p e below s kc kn Q T (mkF m pc Ls (v :: st)) := by
  subst hq; exact k.by fun t => XS.astore X.here K.1 rfl (hb K.2.1 hd) rfl hv hl
theorem k_iinc (K : Fx p s m meth c by' ml own nm ret Z) (X : Stand p l e R s m args below meth c T locs cells slots) {k' : Nat} {cst : Int} {x v : Int32} (hd : decode by' pc = .ok (.iinc k' cst, 3)) (hg : Ls[k']? = some (.val (.int x))) (hv : x + Int32.ofInt cst = v) (hl : storeLocals Ls k' (.int v) = some Ls') (hq : pc + 3 = q) (k : Run p e below s kc kn Q T (mkF m q Ls' st)) : Run p e below s kc kn Q T (mkF m pc Ls st) := by
  subst hq hv; exact k.by fun t => XS.iinc X.here K.1 rfl (hb K.2.1 hd) hg hl
theorem k_iconst (K : Fx p s m meth c by' ml own nm ret Z) (X : Stand p l e R s m args below meth c T locs cells slots) {i : Int} {v : Int32} (hd : decode by' pc = .ok (.iconst i, 1)) (hv : Int32.ofInt i = v) (hq : pc + 1 = q) (k : Run p e below s kc kn Q T (mkF m q Ls (.int v :: st))) : Run p e below s kc kn Q T (mkF m pc Ls st) := by
  subst hq hv; exact k.by fun t => XS.iconst X.here K.1 rfl (hb K.2.1 hd)
theorem k_bipush (K : Fx p s m meth c by' ml own nm ret Z) (X : Stand p l e R s m args below meth c T locs cells slots) {i : Int} {v : Int32} (hd : decode by' pc = .ok (.bipush i, 2)) (hv : (Int8.ofInt i).toInt32 = v) (hq : pc + 2 = q) (k : Run p e below s kc kn Q T (mkF m q Ls (.int v :: st))) : Run p e below s kc kn Q T (mkF m pc Ls st) := by
  subst hq hv; exact k.by fun t => XS.bipush X.here K.1 rfl (hb K.2.1 hd)
theorem k_sipush (K : Fx p s m meth c by' ml own nm ret Z) (X : Stand p l e R s m args below meth c T locs cells slots) {i : Int} {v : Int32} (hd : decode by' pc = .ok (.sipush i, 3)) (hv : (Int16.ofInt i).toInt32 = v) (hq : pc + 3 = q) (k : Run p e below s kc kn Q T (mkF m q Ls (.int v :: st))) : Run p e below s kc kn Q T (mkF m pc Ls st) := by
  subst hq hv; exact k.by fun t => XS.sipush X.here K.1 rfl (hb K.2.1 hd)
theorem k_iadd (K : Fx p s m meth c by' ml own nm ret Z) (X : Stand p l e R s m args below meth c T locs cells slots) {x y : Int32} (hd : decode by' pc = .ok (.iadd, 1)) (hq : pc + 1 = q) (k : Run p e below s kc kn Q T (mkF m q Ls (.int (x + y) :: st))) : Run p e below s kc kn Q T (mkF m pc Ls (.int y :: .int x :: st)) := by
  subst hq; exact k.by fun t => XS.iadd X.here K.1 rfl (hb K.2.1 hd) rfl
theorem k_isub (K : Fx p s m meth c by' ml own nm ret Z) (X : Stand p l e R s m args below meth c T locs cells slots) {x y : Int32} (hd : decode by' pc = .ok (.isub, 1)) (hq : pc + 1 = q) (k : Run p e below s kc kn Q T (mkF m q Ls (.int (x - y) :: st))) : Run p e below s kc kn Q T (mkF m pc Ls (.int y :: .int x :: st)) := by
  subst hq; exact k.by fun t => XS.isub X.here K.1 rfl (hb K.2.1 hd) rfl
theorem k_imul (K : Fx p s m meth c by' ml own nm ret Z) (X : Stand p l e R s m args below meth c T locs cells slots) {x y : Int32} (hd : decode by' pc = .ok (.imul, 1)) (hq : pc + 1 = q) (k : Run p e below s kc kn Q T (mkF m q Ls (.int (x * y) :: st))) : Run p e below s kc kn Q T (mkF m pc Ls (.int y :: .int x :: st)) := by
  subst hq; exact k.by fun t => XS.imul X.here K.1 rfl (hb K.2.1 hd) rfl
theorem k_iand (K : Fx p s m meth c by' ml own nm ret Z) (X : Stand p l e R s m args below meth c T locs cells slots) {x y : Int32} (hd : decode by' pc = .ok (.iand, 1)) (hq : pc + 1 = q) (k : Run p e below s kc kn Q T (mkF m q Ls (.int (x &&& y) :: st))) : Run p e below s kc kn Q T (mkF m pc Ls (.int y :: .int x :: st)) := by
  subst hq; exact k.by fun t => XS.iand X.here K.1 rfl (hb K.2.1 hd) rfl
theorem k_ior (K : Fx p s m meth c by' ml own nm ret Z) (X : Stand p l e R s m args below meth c T locs cells slots) {x y : Int32} (hd : decode by' pc = .ok (.ior, 1)) (hq : pc + 1 = q) (k : Run p e below s kc kn Q T (mkF m q Ls (.int (x ||| y) :: st))) : Run p e below s kc kn Q T (mkF m pc Ls (.int y :: .int x :: st)) := by
  subst hq; exact k.by fun t => XS.ior X.here K.1 rfl (hb K.2.1 hd) rfl
theorem k_ishl (K : Fx p s m meth c by' ml own nm ret Z) (X : Stand p l e R s m args below meth c T locs cells slots) {x y : Int32} (hd : decode by' pc = .ok (.ishl, 1)) (hq : pc + 1 = q) (k : Run p e below s kc kn Q T (mkF m q Ls (.int (shlI x y) :: st))) : Run p e below s kc kn Q T (mkF m pc Ls (.int y :: .int x :: st)) := by
  subst hq; exact k.by fun t => XS.ishl X.here K.1 rfl (hb K.2.1 hd) rfl
theorem k_ishr (K : Fx p s m meth c by' ml own nm ret Z) (X : Stand p l e R s m args below meth c T locs cells slots) {x y : Int32} (hd : decode by' pc = .ok (.ishr, 1)) (hq : pc + 1 = q) (k : Run p e below s kc kn Q T (mkF m q Ls (.int (shrI x y) :: st))) : Run p e below s kc kn Q T (mkF m pc Ls (.int y :: .int x :: st)) := by
  subst hq; exact k.by fun t => XS.ishr X.here K.1 rfl (hb K.2.1 hd) rfl
theorem k_iushr (K : Fx p s m meth c by' ml own nm ret Z) (X : Stand p l e R s m args below meth c T locs cells slots) {x y : Int32} (hd : decode by' pc = .ok (.iushr, 1)) (hq : pc + 1 = q) (k : Run p e below s kc kn Q T (mkF m q Ls (.int (ushrI x y) :: st))) : Run p e below s kc kn Q T (mkF m pc Ls (.int y :: .int x :: st)) := by
  subst hq; exact k.by fun t => XS.iushr X.here K.1 rfl (hb K.2.1 hd) rfl
theorem k_i2b (K : Fx p s m meth c by' ml own nm ret Z) (X : Stand p l e R s m args below meth c T locs cells slots) {x : Int32} (hd : decode by' pc = .ok (.i2b, 1)) (hq : pc + 1 = q) (k : Run p e below s kc kn Q T (mkF m q Ls (.int (i2b x) :: st))) : Run p e below s kc kn Q T (mkF m pc Ls (.int x :: st)) := by
  subst hq; exact k.by fun t => XS.i2b X.here K.1 rfl (hb K.2.1 hd) rfl
theorem k_idiv (K : Fx p s m meth c by' ml own nm ret Z) (X : Stand p l e R s m args below meth c T locs cells slots) {x y : Int32} (hd : decode by' pc = .ok (.idiv, 1)) (hy : y ≠ 0) (hq : pc + 1 = q) (k : Run p e below s kc kn Q T (mkF m q Ls (.int (x / y) :: st))) : Run p e below s kc kn Q T (mkF m pc Ls (.int y :: .int x :: st)) := by
  subst hq; exact k.by fun t => XS.idiv X.here K.1 rfl (hb K.2.1 hd) rfl hy
theorem k_irem (K : Fx p s m meth c by' ml own nm ret Z) (X : Stand p l e R s m args below meth c T locs cells slots) {x y : Int32} (hd : decode by' pc = .ok (.irem, 1)) (hy : y ≠ 0) (hq : pc + 1 = q) (k : Run p e below s kc kn Q T (mkF m q Ls (.int (x % y) :: st))) : Run p e below s kc kn Q T (mkF m pc Ls (.int y :: .int x :: st)) := by
  subst hq; exact k.by fun t => iremM X K.1 rfl (hb K.2.1 hd) rfl hy
theorem k_dup (K : Fx p s m meth c by' ml own nm ret Z) (X : Stand p l e R s m args below meth c T locs cells slots) {v : Value} (hd : decode by' pc = .ok (.dup, 1)) (hc : v.category = 1) (hq : pc + 1 = q) (k : Run p e below s kc kn Q T (mkF m q Ls (v :: v :: st))) : Run p e below s kc kn Q T (mkF m pc Ls (v :: st)) := by
  subst hq; exact k.by fun t => XS.dup X.here K.1 rfl (hb K.2.1 hd) rfl hc
theorem k_goto (K : Fx p s m meth c by' ml own nm ret Z) (X : Stand p l e R s m args below meth c T locs cells slots) {o : Int} (hd : decode by' pc = .ok (.goto o, 3)) (ho : 0 ≤ (pc : Int) + o) (hq : ((pc : Int) + o).toNat = q) (k : Run p e below s kc kn Q T (mkF m q Ls st)) : Run p e below s kc kn Q T (mkF m pc Ls st) := k.by fun t => XS.goto X.here K.1 rfl rfl (hb K.2.1 hd) ho hq
theorem k_nameI {x v : Int32} (hv : x = v) (k : Run p e below s kc kn Q T (mkF m pc Ls (.int v :: st))) : Run p e below s kc kn Q T (mkF m pc Ls (.int x :: st)) := by
  subst hv; exact k
theorem k_if_eq_y (K : Fx p s m meth c by' ml own nm ret Z) (X : Stand p l e R s m args below meth c T locs cells slots) {x : Int32} {o : Int} (hd : decode by' pc = .ok (.ifCond .eq o, 3)) (hc : x = 0) (ho : 0 ≤ (pc : Int) + o) (hq : ((pc : Int) + o).toNat = q) (k : Run p e below s kc kn Q T (mkF m q Ls st)) : Run p e below s kc kn Q T (mkF m pc Ls (.int x :: st)) := k.by fun t => XS.ifYes X.here K.1 rfl rfl (hb K.2.1 hd) rfl ((if0 _ _).trans (teq hc).1) ho hq
theorem k_if_eq_n (K : Fx p s m meth c by' ml own nm ret Z) (X : Stand p l e R s m args below meth c T locs cells slots) {x : Int32} {o : Int} (hd : decode by' pc = .ok (.ifCond .eq o, 3)) (hc : ¬ x = 0) (hq : pc + 3 = q) (k : Run p e below s kc kn Q T (mkF m q Ls st)) : Run p e below s kc kn Q T (mkF m pc Ls (.int x :: st)) := by
  subst hq; exact k.by fun t => XS.ifNo X.here K.1 rfl (hb K.2.1 hd) rfl ((if0 _ _).trans (feq hc).1)
theorem k_if_eq (K : Fx p s m meth c by' ml own nm ret Z) (X : Stand p l e R s m args below meth c T locs cells slots) {x : Int32} {o : Int} (hd : decode by' pc = .ok (.ifCond .eq o, 3)) (ho : 0 ≤ (pc : Int) + o) (hq : ((pc : Int) + o).toNat = q) (hq' : pc + 3 = q') (ky : x = 0 → Run p e below s kc kn Q T (mkF m q Ls st)) (kno : ¬ x = 0 → Run p e below s kc kn Q T (mkF m q' Ls st)) : Run p e below s kc kn Q T (mkF m pc Ls (.int x :: st)) := by
  by_cases hc : x = 0
  · exact k_if_eq_y K X hd hc ho hq (ky hc)
  · exact k_if_eq_n K X hd hc hq' (kno hc)
theorem k_icmp_eq_y (K : Fx p s m meth c by' ml own nm ret Z) (X : Stand p l e R s m args below meth c T locs cells slots) {x y : Int32} {o : Int} (hd : decode by' pc = .ok (.if_icmp .eq o, 3)) (hc : x = y) (ho : 0 ≤ (pc : Int) + o) (hq : ((pc : Int) + o).toNat = q) (k : Run p e below s kc kn Q T (mkF m q Ls st)) : Run p e below s kc kn Q T (mkF m pc Ls (.int y :: .int x :: st)) := k.by fun t => XS.icmpYes X.here K.1 rfl rfl (hb K.2.1 hd) rfl (teq hc).1 ho hq
theorem k_icmp_ne_y (K : Fx p s m meth c by' ml own nm ret Z) (X : Stand p l e R s m args below meth c T locs cells slots) {x y : Int32} {o : Int} (hd : decode by' pc = .ok (.if_icmp .ne o, 3)) (hc : ¬ x = y) (ho : 0 ≤ (pc : Int) + o) (hq : ((pc : Int) + o).toNat = q) (k : Run p e below s kc kn Q T (mkF m q Ls st)) : Run p e below s kc kn Q T (mkF m pc Ls (.int y :: .int x :: st)) := k.by fun t => XS.icmpYes X.here K.1 rfl rfl (hb K.2.1 hd) rfl (feq hc).2 ho hq
theorem k_icmp_ne_n (K : Fx p s m meth c by' ml own nm ret Z) (X : Stand p l e R s m args below meth c T locs cells slots) {x y : Int32} {o : Int} (hd : decode by' pc = .ok (.if_icmp .ne o, 3)) (hc : x = y) (hq : pc + 3 = q) (k : Run p e below s kc kn Q T (mkF m q Ls st)) : Run p e below s kc kn Q T (mkF m pc Ls (.int y :: .int x :: st)) := by
  subst hq; exact k.by fun t => XS.icmpNo X.here K.1 rfl (hb K.2.1 hd) rfl (teq hc).2
theorem k_icmp_ne (K : Fx p s m meth c by' ml own nm ret Z) (X : Stand p l e R s m args below meth c T locs cells slots) {x y : Int32} {o : Int} (hd : decode by' pc = .ok (.if_icmp .ne o, 3)) (ho : 0 ≤ (pc : Int) + o) (hq : ((pc : Int) + o).toNat = q) (hq' : pc + 3 = q') (ky : ¬ x = y → Run p e below s kc kn Q T (mkF m q Ls st)) (kno : x = y → Run p e below s kc kn Q T (mkF m q' Ls st)) : Run p e below s kc kn Q T (mkF m pc Ls (.int y :: .int x :: st)) := by
  by_cases hc : x = y
  · exact k_icmp_ne_n K X hd hc hq' (kno hc)
  · exact k_icmp_ne_y K X hd hc ho hq (ky hc)
theorem k_if_ge_y (K : Fx p s m meth c by' ml own nm ret Z) (X : Stand p l e R s m args below meth c T locs cells slots) {x : Int32} {o : Int} (hd : decode by' pc = .ok (.ifCond .ge o, 3)) (hc : ¬ x < 0) (ho : 0 ≤ (pc : Int) + o) (hq : ((pc : Int) + o).toNat = q) (k : Run p e below s kc kn Q T (mkF m q Ls st)) : Run p e below s kc kn Q T (mkF m pc Ls (.int x :: st)) := k.by fun t => XS.ifYes X.here K.1 rfl rfl (hb K.2.1 hd) rfl ((if0 _ _).trans (flt hc).2.1) ho hq
theorem k_if_ge_n (K : Fx p s m meth c by' ml own nm ret Z) (X : Stand p l e R s m args below meth c T locs cells slots) {x : Int32} {o : Int} (hd : decode by' pc = .ok (.ifCond .ge o, 3)) (hc : x < 0) (hq : pc + 3 = q) (k : Run p e below s kc kn Q T (mkF m q Ls st)) : Run p e below s kc kn Q T (mkF m pc Ls (.int x :: st)) := by
  subst hq; exact k.by fun t => XS.ifNo X.here K.1 rfl (hb K.2.1 hd) rfl ((if0 _ _).trans (tlt hc).2.1)
theorem k_if_ge (K : Fx p s m meth c by' ml own nm ret Z) (X : Stand p l e R s m args below meth c T locs cells slots) {x : Int32} {o : Int} (hd : decode by' pc = .ok (.ifCond .ge o, 3)) (ho : 0 ≤ (pc : Int) + o) (hq : ((pc : Int) + o).toNat = q) (hq' : pc + 3 = q') (ky : ¬ x < 0 → Run p e below s kc kn Q T (mkF m q Ls st)) (kno : x < 0 → Run p e below s kc kn Q T (mkF m q' Ls st)) : Run p e below s kc kn Q T (mkF m pc Ls (.int x :: st)) := by
  by_cases hc : x < 0
  · exact k_if_ge_n K X hd hc hq' (kno hc)
  · exact k_if_ge_y K X hd hc ho hq (ky hc)
theorem k_icmp_ge_y (K : Fx p s m meth c by' ml own nm ret Z) (X : Stand p l e R s m args below meth c T locs cells slots) {x y : Int32} {o : Int} (hd : decode by' pc = .ok (.if_icmp .ge o, 3)) (hc : ¬ x < y) (ho : 0 ≤ (pc : Int) + o) (hq : ((pc : Int) + o).toNat = q) (k : Run p e below s kc kn Q T (mkF m q Ls st)) : Run p e below s kc kn Q T (mkF m pc Ls (.int y :: .int x :: st)) := k.by fun t => XS.icmpYes X.here K.1 rfl rfl (hb K.2.1 hd) rfl (flt hc).2.1 ho hq
theorem k_icmp_ge_n (K : Fx p s m meth c by' ml own nm ret Z) (X : Stand p l e R s m args below meth c T locs cells slots) {x y : Int32} {o : Int} (hd : decode by' pc = .ok (.if_icmp .ge o, 3)) (hc : x < y) (hq : pc + 3 = q) (k : Run p e below s kc kn Q T (mkF m q Ls st)) : Run p e below s kc kn Q T (mkF m pc Ls (.int y :: .int x :: st)) := by
  subst hq; exact k.by fun t => XS.icmpNo X.here K.1 rfl (hb K.2.1 hd) rfl (tlt hc).2.1
theorem k_icmp_gt_y (K : Fx p s m meth c by' ml own nm ret Z) (X : Stand p l e R s m args below meth c T locs cells slots) {x y : Int32} {o : Int} (hd : decode by' pc = .ok (.if_icmp .gt o, 3)) (hc : y < x) (ho : 0 ≤ (pc : Int) + o) (hq : ((pc : Int) + o).toNat = q) (k : Run p e below s kc kn Q T (mkF m q Ls st)) : Run p e below s kc kn Q T (mkF m pc Ls (.int y :: .int x :: st)) := k.by fun t => XS.icmpYes X.here K.1 rfl rfl (hb K.2.1 hd) rfl (tlt hc).2.2.1 ho hq
theorem k_icmp_gt_n (K : Fx p s m meth c by' ml own nm ret Z) (X : Stand p l e R s m args below meth c T locs cells slots) {x y : Int32} {o : Int} (hd : decode by' pc = .ok (.if_icmp .gt o, 3)) (hc : ¬ y < x) (hq : pc + 3 = q) (k : Run p e below s kc kn Q T (mkF m q Ls st)) : Run p e below s kc kn Q T (mkF m pc Ls (.int y :: .int x :: st)) := by
  subst hq; exact k.by fun t => XS.icmpNo X.here K.1 rfl (hb K.2.1 hd) rfl (flt hc).2.2.1
theorem k_icmp_gt (K : Fx p s m meth c by' ml own nm ret Z) (X : Stand p l e R s m args below meth c T locs cells slots) {x y : Int32} {o : Int} (hd : decode by' pc = .ok (.if_icmp .gt o, 3)) (ho : 0 ≤ (pc : Int) + o) (hq : ((pc : Int) + o).toNat = q) (hq' : pc + 3 = q') (ky : y < x → Run p e below s kc kn Q T (mkF m q Ls st)) (kno : ¬ y < x → Run p e below s kc kn Q T (mkF m q' Ls st)) : Run p e below s kc kn Q T (mkF m pc Ls (.int y :: .int x :: st)) := by
  by_cases hc : y < x
  · exact k_icmp_gt_y K X hd hc ho hq (ky hc)
  · exact k_icmp_gt_n K X hd hc hq' (kno hc)
theorem k_if_le_y (K : Fx p s m meth c by' ml own nm ret Z) (X : Stand p l e R s m args below meth c T locs cells slots) {x : Int32} {o : Int} (hd : decode by' pc = .ok (.ifCond .le o, 3)) (hc : ¬ 0 < x) (ho : 0 ≤ (pc : Int) + o) (hq : ((pc : Int) + o).toNat = q) (k : Run p e below s kc kn Q T (mkF m q Ls st)) : Run p e below s kc kn Q T (mkF m pc Ls (.int x :: st)) := k.by fun t => XS.ifYes X.here K.1 rfl rfl (hb K.2.1 hd) rfl ((if0 _ _).trans (flt hc).2.2.2) ho hq
theorem k_if_le_n (K : Fx p s m meth c by' ml own nm ret Z) (X : Stand p l e R s m args below meth c T locs cells slots) {x : Int32} {o : Int} (hd : decode by' pc = .ok (.ifCond .le o, 3)) (hc : 0 < x) (hq : pc + 3 = q) (k : Run p e below s kc kn Q T (mkF m q Ls st)) : Run p e below s kc kn Q T (mkF m pc Ls (.int x :: st)) := by
  subst hq; exact k.by fun t => XS.ifNo X.here K.1 rfl (hb K.2.1 hd) rfl ((if0 _ _).trans (tlt hc).2.2.2)
theorem k_icmp_le_y (K : Fx p s m meth c by' ml own nm ret Z) (X : Stand p l e R s m args below meth c T locs cells slots) {x y : Int32} {o : Int} (hd : decode by' pc = .ok (.if_icmp .le o, 3)) (hc : ¬ y < x) (ho : 0 ≤ (pc : Int) + o) (hq : ((pc : Int) + o).toNat = q) (k : Run p e below s kc kn Q T (mkF m q Ls st)) : Run p e below s kc kn Q T (mkF m pc Ls (.int y :: .int x :: st)) := k.by fun t => XS.icmpYes X.here K.1 rfl rfl (hb K.2.1 hd) rfl (flt hc).2.2.2 ho hq
theorem k_icmp_le_n (K : Fx p s m meth c by' ml own nm ret Z) (X : Stand p l e R s m args below meth c T locs cells slots) {x y : Int32} {o : Int} (hd : decode by' pc = .ok (.if_icmp .le o, 3)) (hc : y < x) (hq : pc + 3 = q) (k : Run p e below s kc kn Q T (mkF m q Ls st)) : Run p e below s kc kn Q T (mkF m pc Ls (.int y :: .int x :: st)) := by
  subst hq; exact k.by fun t => XS.icmpNo X.here K.1 rfl (hb K.2.1 hd) rfl (tlt hc).2.2.2
theorem k_ldc (K : Fx p s m meth c by' ml own nm ret Z) (X : Stand p l e R s m args below meth c T locs cells slots) {i : Nat} {v : Int32} (hd : decode by' pc = .ok (.ldc i, 2)) (w : (Cond.constant own i v).before a0 Z = true) (hq : pc + 2 = q) (k : Run p e below s kc kn Q T (mkF m q Ls (.int v :: st))) : Run p e below s kc kn Q T (mkF m pc Ls st) := by
  subst hq; exact k.by fun t => X.ldcInt K.1 K.2.2.2.1 (mvT K.2.2.2.2.1 w) (g := mkF m pc Ls st) rfl (hb K.2.1 hd) t
theorem k_reti (K : Fx p s m meth c by' ml own nm (some .int) Z) (X : Stand p l e R s m args below meth c T locs cells slots) {x : Int32} (eT : T.heap = h) (hd : decode by' pc = .ok (.ireturn, 1)) (hc : cells ≤ kc) (hn : slots ≤ kn) (hQ : Q (some (.int x)) h locs) : Run p e below s kc kn Q T (mkF m pc Ls [.int x]) := by
  subst eT
  have hlk := K.2.2.2.2.2.2.1
  obtain ⟨fs, hr, hrun, hended, hW, hsame⟩ := X.leave (v := (some (.int x))) (fun z => by rw [K.2.2.2.2.2.1] at z; cases z)
  exact ⟨_, _, X.ireturnOut K.1 K.2.2.2.2.2.1 rfl (Or.inl rfl) (hb K.2.1 hd) hr, hrun, hended, _, _, rfl, hQ, ⟨_, rfl⟩, hW, hsame.mono hc hn⟩
theorem k_retz (K : Fx p s m meth c by' ml own nm (some .boolean) Z) (X : Stand p l e R s m args below meth c T locs cells slots) {x : Int32} (eT : T.heap = h) (hd : decode by' pc = .ok (.ireturn, 1)) (hc : cells ≤ kc) (hn : slots ≤ kn) (hQ : Q (some (.int (nar .boolean x))) h locs) : Run p e below s kc kn Q T (mkF m pc Ls [.int x]) := by
  subst eT
  have hlk := K.2.2.2.2.2.2.1
  obtain ⟨fs, hr, hrun, hended, hW, hsame⟩ := X.leave (v := (some (.int (nar .boolean x)))) (fun z => by rw [K.2.2.2.2.2.1] at z; cases z)
  exact ⟨_, _, retN X K.1 K.2.2.2.2.2.1 (by simp) (hb K.2.1 hd) hr, hrun, hended, _, _, rfl, hQ, ⟨_, rfl⟩, hW, hsame.mono hc hn⟩
theorem k_retv (K : Fx p s m meth c by' ml own nm none Z) (X : Stand p l e R s m args below meth c T locs cells slots)  (eT : T.heap = h) (hd : decode by' pc = .ok (.return_, 1)) (hc : cells ≤ kc) (hn : slots ≤ kn) (hQ : Q none h locs) : Run p e below s kc kn Q T (mkF m pc Ls []) := by
  subst eT
  have hlk := K.2.2.2.2.2.2.1
  obtain ⟨fs, hr, hrun, hended, hW, hsame⟩ := X.leave (v := none) (fun _ => rfl)
  exact ⟨_, _, X.returnOut K.1 K.2.2.2.2.2.1 (hb K.2.1 hd) hr, hrun, hended, _, _, rfl, hQ, ⟨_, rfl⟩, hW, hsame.mono hc hn⟩
theorem k_reta {rt : FieldType} (K : Fx p s m meth c by' ml own nm (some rt) Z) (X : Stand p l e R s m args below meth c T locs cells slots) {x : Value} (eT : T.heap = h) (hd : decode by' pc = .ok (.areturn, 1)) (ht : rt.isReference = true) (hx : x.isRef = true) (hc : cells ≤ kc) (hn : slots ≤ kn) (hQ : Q (some x) h locs) : Run p e below s kc kn Q T (mkF m pc Ls [x]) := by
  subst eT
  have hlk := K.2.2.2.2.2.2.1
  obtain ⟨fs, hr, hrun, hended, hW, hsame⟩ := X.leave (v := some x) (fun z => by rw [K.2.2.2.2.2.1] at z; cases z)
  exact ⟨_, _, retOut X K.1 K.2.2.2.2.2.1 (by cases rt <;> first | (cases ht; done) | rfl) (Or.inr (Or.inr (Or.inr (Or.inr ⟨rfl, ht, hx⟩)))) (hb K.2.1 hd) hr, hrun, hended, _, _, rfl, hQ, ⟨_, rfl⟩, hW, hsame.mono hc hn⟩
/-- a contract: with these arguments over this heap the body returns as Q says, within the room -/
abbrev Met (l : Launch) (y : MethodName) (bytes : ByteArray) (maxL : Nat) (ret : Option FieldType) (ws : List Jvm.Cond) (rm : Room) (Z : State) (as' : Array Value) (h0 : Heap) (Q : Option Value → Heap → List Loc → Prop) : Prop :=
  MetFree l y (head1 (Jvm.Cond.code y bytes maxL ret :: ws) rm) (fun a U => a = as' ∧ Z.Warmed39 U.vm ∧ U.heap = h0) (fun _ _ _ _ _ => True) (fun _ U o U' => ∃ v L, o = .returned v ∧ Q v U'.heap L ∧ FrameEnd U o U' L rm.cells rm.slots)
theorem enter {y : MethodName} {bytes : ByteArray} {maxL : Nat} {ws : List Jvm.Cond} {rm : Room} {as' : Array Value} {h0 : Heap} (hpl : plainFor y = true) (hef : ∀ m, entryFrame m as' maxL = mkF m 0 Ls [])
    (body : ∀ p e s m below meth c T kc kn Q', rm.cells ≤ kc → rm.slots ≤ kn → (∀ v h L, Q v h L → Q' v h L) → Fx p s m meth c bytes maxL y.cls y.name ret Z → Stand p l e rm s m as' below meth c T [] 0 0 → T.heap = h0 → Run p e below s kc kn Q' T (mkF m 0 Ls [])) : Met l y bytes maxL ret ws rm Z as' h0 Q := by
  refine MetFree.of_bodySF hpl hisR ?_
  intro p e s m args below meth c s₁ Bd hml0 hP hK
  obtain ⟨rfl, hZ, hh⟩ := hP
  obtain ⟨t, o, h1, h2, h3, v, L, h4, h5, h6⟩ := body p e s m below meth c s₁ _ _ Q (Nat.le_refl _) (Nat.le_refl _) (fun _ _ _ z => z) ⟨Bd.exec, Bd.bytes, hml0, findClass_of_methodNamed Bd.named, hZ, Bd.returns, BodyLoose.notSynchronized Bd, (name_of_methodNamed Bd.named Bd.method).1⟩ (Stand.of_body Bd) (by rw [← hh, Bd.state]; rfl)
  exact ⟨t, o, castTop (hef m) h1, h2, h3, v, L, h4, h5, h6⟩
theorem k_static (K : Fx p s m meth c by' ml own nm ret Z) (X : Stand p l e R s m args below meth c T locs cells slots) (eT : T.heap = h) {y : MethodName} {bytes : ByteArray} {maxL i W : Nat} {rt : Option FieldType} {rm : Room} {as' : Array Value} {Q' : Option Value → Heap → List Loc → Prop}
    (hd : decode by' pc = .ok (.invokestatic i, 3)) (w1 : (Cond.methodLink own i y).before a0 Z = true) (w2 : (Cond.static y).before a0 Z = true) (w3 : (Cond.initialized y.cls).before a0 Z = true) (w4 : (Cond.code y bytes maxL rt).before a0 Z = true) (hy : y.cls ≠ "java/lang/invoke/MethodHandle" ∧ y.cls ≠ "java/lang/invoke/VarHandle")
    (hM : Met l y bytes maxL rt [] rm Z as' h Q') (hf : rm.frames + 1 ≤ R.frames) (hl : W + (maxL + 11) + rm.locals ≤ R.locals) (hc : cells + rm.cells ≤ R.cells) (hn : slots + rm.slots ≤ R.slots) (hsz : Ls.size = ml)
    {sig : MethodDescriptor} (hdesc : parseMethodDescriptor y.desc = some sig) {argsL rest : List Value} (ha : as' = argsL.toArray) (hlen : argsL.length = sig.parameters.length) (hst : st = argsL.reverse ++ rest) (hW : (rest.map fun v => v.category).sum ≤ W) (hq : pc + 3 = q)
    (k : ∀ v T' L, Stand p l e R s m args below meth c T' (locs ++ L) (cells + rm.cells) (slots + rm.slots) → Q' v T'.heap L → Run p e below s kc kn Q T' (mkF m q Ls (v.toList ++ rest))) : Run p e below s kc kn Q T (mkF m pc Ls st) := by
  have hZ := K.2.2.2.2.1
  subst hq
  obtain ⟨v, _, ⟨T2, L2, k2, n2⟩, -, X2, ⟨Lc, hQ2, l2, y2, z2⟩, st2⟩ := Jvm.LawKit.callS X K.1 (y := y) K.2.2.2.1 (mvT hZ w1) (mvT hZ w2) (mvT hZ w3) (mvT hZ w4) hy (backOf (W := W) hM hZ w4 w3 hf hl) (g := mkF m pc Ls st) rfl (by rw [K.2.2.1]; exact hsz) (argsL := argsL) (rest := rest) (fun sg hs => by cases hdesc.symm.trans hs; exact hlen) hst (by show 2 * 0 + _ ≤ _; omega) (hb K.2.1 hd) (fun _ _ => ⟨ha.symm, eT, hc, hn⟩)
  dsimp only [Pt.U, Pt.locs, Pt.cells, Pt.slots] at X2 l2 y2 z2 st2 hQ2
  subst l2 y2 z2
  exact (k v T2 Lc X2 hQ2).by st2
/-- a static callee that leaves the heap as it was -/
theorem k_staticP (K : Fx p s m meth c by' ml own nm ret Z) (X : Stand p l e R s m args below meth c T locs cells slots) (eT : T.heap = h) {y : MethodName} {bytes : ByteArray} {maxL i W fr lo : Nat} {rt : Option FieldType} {as' : Array Value} {w : Value}
    (hd : decode by' pc = .ok (.invokestatic i, 3)) (w1 : (Cond.methodLink own i y).before a0 Z = true) (w2 : (Cond.static y).before a0 Z = true) (w3 : (Cond.initialized y.cls).before a0 Z = true) (w4 : (Cond.code y bytes maxL rt).before a0 Z = true) (hy : y.cls ≠ "java/lang/invoke/MethodHandle" ∧ y.cls ≠ "java/lang/invoke/VarHandle")
    (hM : Met l y bytes maxL rt [] { frames := fr, cells := 0, slots := 0, locals := lo } Z as' h (fun v h' L => v = some w ∧ h' = h ∧ L = [])) (hf : fr + 1 ≤ R.frames) (hl : W + (maxL + 11) + lo ≤ R.locals) (hc : cells ≤ R.cells) (hn : slots ≤ R.slots) (hsz : Ls.size = ml)
    {sig : MethodDescriptor} (hdesc : parseMethodDescriptor y.desc = some sig) {argsL rest : List Value} (ha : as' = argsL.toArray) (hlen : argsL.length = sig.parameters.length) (hst : st = argsL.reverse ++ rest) (hW : (rest.map fun v => v.category).sum ≤ W) (hq : pc + 3 = q)
    (k : ∀ T', Stand p l e R s m args below meth c T' locs cells slots → T'.heap = h → Run p e below s kc kn Q T' (mkF m q Ls (w :: rest))) : Run p e below s kc kn Q T (mkF m pc Ls st) := by
  refine k_static K X eT hd w1 w2 w3 w4 hy hM hf hl hc hn hsz hdesc ha hlen hst hW hq ?_
  rintro v T' L X' ⟨rfl, h2, rfl⟩
  rw [List.append_nil] at X'
  exact k T' X' h2
theorem setD {α β : Type} (f : α → β) (L : List α) (k : Nat) (x d : α) (hk : k < L.length) (i : Nat) : (if i = k then f x else f (L.getD i d)) = f ((L.set k x).getD i d) := by
  simp only [List.getD_eq_getElem?_getD]
  by_cases q : i = k
  · subst q; simp [hk]
  · rw [if_neg q, List.getElem?_set_ne (Ne.symm q)]
/-- an array of n places; place i holds g i -/
def Ary (Z : State) (h : Heap) (a : Addr) (ty : FieldType) (n : Nat) (g : Nat → Value) : Prop := ∃ c : Cell, Arr Z h a c ty ∧ c.slots.size = n ∧ n < 2147483648 ∧ (∀ i, i < n → c.slots[i]? = some (g i)) ∧ ∀ i, i < n → fits ty (g i) = true
theorem Ary.lt {a : Addr} {ty : FieldType} {n : Nat} {g : Nat → Value} (F : Ary Z h a ty n g) : a < h.size := by obtain ⟨c, A, -⟩ := F; exact A.lt
theorem Ary.ext {h' : Heap} {a : Addr} {ty : FieldType} {n : Nat} {g : Nat → Value} (F : Ary Z h a ty n g) (E : Ext h h') : Ary Z h' a ty n g := by obtain ⟨c, A, r⟩ := F; exact ⟨c, A.ext E, r⟩
theorem Ary.other {h' : Heap} {a b : Addr} {ty : FieldType} {n sl : Nat} {v : Value} {g : Nat → Value} (F : Ary Z h b ty n g) (W : Wr h h' a sl v) (q : b ≠ a) : Ary Z h' b ty n g := by obtain ⟨c, A, r⟩ := F; exact ⟨c, A.other W q, r⟩
theorem Ary.keep {h' : Heap} {a : Addr} {ty : FieldType} {n : Nat} {g : Nat → Value} {ws : List Addr} (F : Ary Z h a ty n g) (K : Keep h h' ws) (q : a ∉ ws) : Ary Z h' a ty n g := by obtain ⟨c, A, r⟩ := F; exact ⟨c, ⟨K.2.1 a c A.1 q, A.2⟩, r⟩
theorem Ary.eqv {a : Addr} {ty : FieldType} {n : Nat} {g g' : Nat → Value} (F : Ary Z h a ty n g) (q : ∀ i, i < n → g i = g' i) : Ary Z h a ty n g' := by
  obtain ⟨c, A, r1, r2, r3, r4⟩ := F; exact ⟨c, A, r1, r2, fun i hi => by rw [← q i hi]; exact r3 i hi, fun i hi => by rw [← q i hi]; exact r4 i hi⟩
theorem Ary.nlt {a : Addr} {ty : FieldType} {n : Nat} {g : Nat → Value} (F : Ary Z h a ty n g) : n < 2147483648 := by obtain ⟨c, A, r1, r2, -⟩ := F; exact r2
theorem Ary.set {h' : Heap} {a : Addr} {ty : FieldType} {n i : Nat} {v : Value} {g : Nat → Value} (F : Ary Z h a ty n g) (W : Wr h h' a i v) (hv : fits ty v = true) : Ary Z h' a ty n (fun k => if k = i then v else g k) := by
  obtain ⟨c, A, r1, r2, r3, r4⟩ := F
  obtain ⟨c', w1, w2, w3, w4⟩ := W
  cases A.1.symm.trans w1
  refine ⟨_, A.same ⟨c, w1, w2, w3, w4⟩, by rw [sz_set]; exact r1, r2, fun k hk => ?_, fun k hk => ?_⟩
  · show (c.setSlot i v).slots[k]? = some (if k = i then v else g k)
    by_cases q : k = i
    · subst q; simp [Cell.setSlot, w3]
    · rw [if_neg q]
      show (c.slots.setIfInBounds i v)[k]? = _
      rw [Array.getElem?_setIfInBounds_ne (Ne.symm q)]; exact r3 k hk
  · show fits ty (if k = i then v else g k) = true
    by_cases q : k = i
    · rw [if_pos q]; exact hv
    · rw [if_neg q]; exact r4 k hk
/-- the int j is the place i -/
abbrev Ix (j : Int32) (i : Nat) : Prop := ¬ j < 0 ∧ j.toNatClampNeg = i
theorem Ix.of {j : Int32} {i : Nat} (h : j.toInt = i) : Ix j i := by
  refine ⟨?_, ?_⟩
  · rw [Int32.lt_iff_toInt_lt, h]; have : (0 : Int32).toInt = 0 := rfl
    omega
  · simp only [Int32.toNatClampNeg, h]; omega
theorem Ix.inb {j : Int32} {i n : Nat} (hi : Ix j i) (hn : i < n) {cl : Cell} (hs : cl.slots.size = n) : ¬ (j < 0 ∨ cl.slots.size ≤ j.toNatClampNeg) := fun z => z.elim hi.1 fun z => by rw [hs, hi.2] at z; omega
theorem k_iaload (K : Fx p s m meth c by' ml own nm ret Z) (X : Stand p l e R s m args below meth c T locs cells slots) (eT : T.heap = h) {a : Addr} {n i : Nat} {g : Nat → Value} {j : Int32} {v : Value} (hd : decode by' pc = .ok (.iaload, 1)) (A : Ary Z h a .int n g) (hi : Ix j i) (hn : i < n) (hg : g i = v) (hq : pc + 1 = q) (k : Run p e below s kc kn Q T (mkF m q Ls (v :: st))) : Run p e below s kc kn Q T (mkF m pc Ls (.int j :: .ref a :: st)) := by
  subst hq hg
  obtain ⟨c', A, r1, r2, r3, -⟩ := A
  exact k.by fun t => X.iaload K.1 (j := j) (v := g i) (by rw [eT]; exact A.1) (State.isArrayOf_alike K.2.2.2.2.1.alike A.2.1) A.2.2 (hi.inb hn r1) (by rw [hi.2]; exact r3 i hn) (g := mkF m pc Ls (.int j :: .ref a :: st)) rfl rfl (hb K.2.1 hd) t
theorem k_baload (K : Fx p s m meth c by' ml own nm ret Z) (X : Stand p l e R s m args below meth c T locs cells slots) (eT : T.heap = h) {a : Addr} {n i : Nat} {g : Nat → Value} {j : Int32} {v : Value} (hd : decode by' pc = .ok (.baload, 1)) (A : Ary Z h a .byte n g) (hi : Ix j i) (hn : i < n) (hg : g i = v) (hq : pc + 1 = q) (k : Run p e below s kc kn Q T (mkF m q Ls (v :: st))) : Run p e below s kc kn Q T (mkF m pc Ls (.int j :: .ref a :: st)) := by
  subst hq hg
  obtain ⟨c', A, r1, r2, r3, -⟩ := A
  exact k.by fun t => X.baloadBytes K.1 (j := j) (v := g i) (by rw [eT]; exact A.1) (State.isArrayOf_alike K.2.2.2.2.1.alike A.2.1) A.2.2 (hi.inb hn r1) (by rw [hi.2]; exact r3 i hn) (g := mkF m pc Ls (.int j :: .ref a :: st)) rfl rfl (hb K.2.1 hd) t
theorem k_iastore (K : Fx p s m meth c by' ml own nm ret Z) (X : Stand p l e R s m args below meth c T locs cells slots) (eT : T.heap = h) {a : Addr} {n i : Nat} {g : Nat → Value} {j : Int32} {x : Int32} (hd : decode by' pc = .ok (.iastore, 1)) (A : Ary Z h a .int n g) (hi : Ix j i) (hn : i < n) (hq : pc + 1 = q)
    (k : ∀ T' h', Stand p l e R s m args below meth c T' (locs ++ [⟨a, i⟩]) cells slots → T'.heap = h' → Wr h h' a i (.int x) → Ary Z h' a .int n (fun k => if k = i then .int x else g k) → Run p e below s kc kn Q T' (mkF m q Ls st)) : Run p e below s kc kn Q T (mkF m pc Ls (.int x :: .int j :: .ref a :: st)) := by
  subst hq
  have A0 := A
  obtain ⟨c', A, r1, r2, r3, -⟩ := A
  obtain ⟨T2, h2, X2, e2, W2, st2⟩ := stI X K.1 K.2.2.2.2.1 eT A (j := j) (hi.inb hn r1) (g := mkF m pc Ls (.int x :: .int j :: .ref a :: st)) rfl rfl (hb K.2.1 hd)
  rw [hi.2] at X2 W2
  exact (k T2 h2 X2 e2 W2 (A0.set W2 (rfl))).by st2
theorem k_bastore (K : Fx p s m meth c by' ml own nm ret Z) (X : Stand p l e R s m args below meth c T locs cells slots) (eT : T.heap = h) {a : Addr} {n i : Nat} {g : Nat → Value} {j : Int32} {x : Int32} (hd : decode by' pc = .ok (.bastore, 1)) (A : Ary Z h a .byte n g) (hi : Ix j i) (hn : i < n) (hq : pc + 1 = q)
    (k : ∀ T' h', Stand p l e R s m args below meth c T' (locs ++ [⟨a, i⟩]) cells slots → T'.heap = h' → Wr h h' a i (.int (nar .byte x)) → Ary Z h' a .byte n (fun k => if k = i then .int (nar .byte x) else g k) → Run p e below s kc kn Q T' (mkF m q Ls st)) : Run p e below s kc kn Q T (mkF m pc Ls (.int x :: .int j :: .ref a :: st)) := by
  subst hq
  have A0 := A
  obtain ⟨c', A, r1, r2, r3, -⟩ := A
  obtain ⟨T2, h2, X2, e2, W2, st2⟩ := stB X K.1 K.2.2.2.2.1 eT A (j := j) (hi.inb hn r1) (g := mkF m pc Ls (.int x :: .int j :: .ref a :: st)) rfl rfl (hb K.2.1 hd)
  rw [hi.2] at X2 W2
  exact (k T2 h2 X2 e2 W2 (A0.set W2 (fits_nar_byte x))).by st2
theorem k_arraylength (K : Fx p s m meth c by' ml own nm ret Z) (X : Stand p l e R s m args below meth c T locs cells slots) (eT : T.heap = h) {a : Addr} {ty : FieldType} {n : Nat} {g : Nat → Value} {v : Int32} (hd : decode by' pc = .ok (.arraylength, 1)) (A : Ary Z h a ty n g) (hv : n.toInt32 = v) (hq : pc + 1 = q) (k : Run p e below s kc kn Q T (mkF m q Ls (.int v :: st))) : Run p e below s kc kn Q T (mkF m pc Ls (.ref a :: st)) := by
  subst hq hv
  obtain ⟨c', A, r1, r2, r3, -⟩ := A
  subst r1
  exact k.by fun t => X.arraylength K.1 (by rw [eT]; exact A.1) (State.isArrayOf_alike K.2.2.2.2.1.alike A.2.1) (g := mkF m pc Ls (.ref a :: st)) rfl rfl (hb K.2.1 hd) t
theorem k_newarrayE (K : Fx p s m meth c by' ml own nm ret Z) (X : Stand p l e R s m args below meth c T locs cells slots) (eT : T.heap = h) {aty : ArrayType} {ty : FieldType} {z : Int32} {n cap : Nat} {ad : String} (hd : decode by' pc = .ok (.newarray aty, 2)) (hty : newarray.typeOf aty = ty) (had : "[" ++ ty.toString = ad) (w : (Cond.arrayClass ty).before a0 Z = true) (hz : Ix z n) (hcap : n ≤ cap) (h8 : cap * 8 ≤ 536870912) (hc : cells + 1 ≤ R.cells) (hn : slots + cap ≤ R.slots) (hq : pc + 2 = q)
    (k : ∀ T' h' a, Stand p l e R s m args below meth c T' locs (cells + 1) (slots + cap) → T'.heap = h' → a = h.size → Ext h h' → Ary Z h' a ty n (fun _ => defaultValue ty) → Exa Z h' a ad → Run p e below s kc kn Q T' (mkF m q Ls (.ref a :: st))) : Run p e below s kc kn Q T (mkF m pc Ls (.int z :: st)) := by
  subst hq hty
  obtain ⟨T2, h2, cA, X2, e2, E2, A2, E3, st2⟩ := newPE X K.1 K.2.2.2.2.1 w eT (g := mkF m pc Ls (.int z :: st)) rfl (hb K.2.1 hd) rfl hz.1 (cap := cap) (by rw [hz.2]; exact hcap) h8 hc hn had
  refine (k T2 h2 h.size X2 e2 rfl E2 ⟨_, A2, (sz_new _ _ _).trans hz.2, by omega, fun i hi => ?_, fun i _ => ?_⟩ E3).by st2
  · rw [← hz.2] at hi; simp [newA, hi]
  · cases aty <;> rfl
theorem ofNat_clamp {n : Nat} (hn : n < 2147483648) : (Int32.ofNat n).toNatClampNeg = n := by
  simp only [Int32.toNatClampNeg]
  rw [Int32.toInt_ofNat_of_lt (by omega)]; omega
theorem getD_map {g : Nat → Value} {n i : Nat} {d : Value} (hi : i < n) : ((List.range n).map g).getD i d = g i := by
  simp [List.getD_eq_getElem?_getD, hi]
theorem Ary.arv {a : Addr} {ty : FieldType} {n : Nat} {g : Nat → Value} (F : Ary Z h a ty n g) : ∃ k, Arv Z h a k ty (Int32.ofNat n) ((List.range n).map g) .null := by
  obtain ⟨c, A, r1, r2, r3, r4⟩ := F
  refine ⟨c.cls, c, A, rfl, by rw [ofNat_clamp r2]; exact r1, fun z => ?_, fun i hi => ?_, fun i hi => ?_⟩
  · have e := Int32.lt_iff_toInt_lt.mp z
    rw [Int32.toInt_ofNat_of_lt (by omega)] at e
    have : (0 : Int32).toInt = 0 := rfl
    omega
  · rw [r1] at hi; rw [getD_map hi]; exact r3 i hi
  · rw [r1] at hi; rw [getD_map hi]; exact r4 i hi
/-- the places j, j + 1, .., j + k - 1 taken from g at i on -/
def blit {α : Type} (g g' : Nat → α) (i j k : Nat) : Nat → α := fun t => if j ≤ t ∧ t < j + k then g (i + (t - j)) else g' t
theorem k_arraycopy (K : Fx p s m meth c by' ml own nm ret Z) (X : Stand p l e R s m args below meth c T locs cells slots) (eT : T.heap = h) {idx W n n' i j k n0 : Nat} {a b : Addr} {ty : FieldType} {g g' : Nat → Value} {sp dp nn : Int32} (hd : decode by' pc = .ok (.invokestatic idx, 3))
    (w1 : (Cond.methodLink own idx Jvm.Stand.acN).before a0 Z = true) (w2 : (Cond.native Jvm.Stand.acN).before a0 Z = true) (w3 : (Cond.static Jvm.Stand.acN).before a0 Z = true) (w4 : (Cond.initialized "java/lang/System").before a0 Z = true)
    (A : Ary Z h a ty n g) (B : Ary Z h b ty n' g') (hty : refKind ty = false) (h1 : Ix sp i) (h2 : Ix dp j) (h3 : Ix nn k) (h4 : i + k ≤ n) (h5 : j + k ≤ n') (N : Fr n0 locs) (ge : n0 ≤ b) (hsz : Ls.size = ml) (hf : 1 ≤ R.frames) (hW : (st.map fun v => v.category).sum ≤ W) (hlo : W + (nativeFrameWords "java/lang/System" "arraycopy" 5 + 11) ≤ R.locals) (hq : pc + 3 = q)
    (kk : ∀ T' h' L, Stand p l e R s m args below meth c T' L cells slots → T'.heap = h' → Fr n0 L → Keep h h' [b] → Ary Z h' b ty n' (blit g g' i j k) → Run p e below s kc kn Q T' (mkF m q Ls st)) : Run p e below s kc kn Q T (mkF m pc Ls (.int nn :: .int dp :: .ref b :: .int sp :: .ref a :: st)) := by
  subst hq
  have A0 := A.nlt
  have B0 := B.nlt
  obtain ⟨ka, Va⟩ := A.arv
  obtain ⟨kb, Vb⟩ := B.arv
  obtain ⟨T', h', L, X', e', N', K', V', st'⟩ := cpA X K.1 K.2.2.2.2.1 K.2.2.2.1 w1 w2 w3 w4 eT Va Vb (Or.inl ⟨rfl, hty⟩) (sp := sp) (dp := dp) (nn := nn) h1.1 h2.1 h3.1 (by rw [h1.2, h3.2, ofNat_clamp A0]; exact h4) (by rw [h2.2, h3.2, ofNat_clamp B0]; exact h5) rfl (by rw [h2.2, h3.2]; simp; exact h5) N ge (g := mkF m pc Ls (.int nn :: .int dp :: .ref b :: .int sp :: .ref a :: st)) rfl (by rw [K.2.2.1]; exact hsz) rfl (hb K.2.1 hd) hf (W := W) (by show 2 * 0 + _ ≤ _; omega) hlo
  refine (kk T' h' L X' e' N' K' ?_).by st'
  obtain ⟨c', A', -, r1, r2, r3, r4⟩ := V'
  rw [ofNat_clamp B0] at r1
  rw [h1.2, h2.2, h3.2] at r3 r4
  have ev : ∀ t, t < n' → (List.take j ((List.range n').map g') ++ (List.range k).map (fun u => ((List.range n).map g).getD (i + u) .null) ++ List.drop (j + k) ((List.range n').map g')).getD t .null = blit g g' i j k t := fun t ht => by
    unfold blit
    simp only [List.getD_eq_getElem?_getD]
    by_cases c1 : t < j
    · rw [if_neg (by omega), List.append_assoc, List.getElem?_append_left (by simp; omega)]
      simp [c1, ht]
    · by_cases c2 : t < j + k
      · rw [if_pos ⟨by omega, c2⟩, List.getElem?_append_left (by simp; omega), List.getElem?_append_right (by simp; omega)]
        have q1 : min j n' = j := by omega
        have q2 : t - j < k := by omega
        have q3 : i + (t - j) < n := by omega
        simp [q1, q2, q3]
      · rw [if_neg (by omega), List.getElem?_append_right (by simp; omega)]
        have q1 : min j n' = j := by omega
        have q2 : j + k + (t - (j + k)) = t := by omega
        simp [q1, q2, ht]
  exact ⟨c', A', r1, B0, fun t ht => by rw [← ev t ht]; exact r3 t (by rw [r1]; exact ht), fun t ht => by rw [← ev t ht]; exact r4 t (by rw [r1]; exact ht)⟩
theorem Stand.up (X : Stand p l e R s m args below meth c T locs cells slots) {cells' slots' : Nat} (hc : cells ≤ cells') (hn : slots ≤ slots') : Stand p l e R s m args below meth c T locs cells' slots' :=
  ⟨X.admits, X.cas, X.clock, X.frames, X.room, X.hears, X.method, X.code, X.here, X.tail, X.warmed, X.limits, X.bytes, X.same.mono hc hn⟩
end OwnKit

theorem wd {Z : State} {az : Array Value} (hw : ∀ d ∈ tables_1, d.before az Z = true) (k : Nat) {d : Jvm.Cond} (h : tables_1[k]? = some d) : d.before az Z = true := hw _ (List.mem_of_getElem? h)
theorem d3_0 : decode jdk_29_method_69_code 0 = .ok (.iload_n 0, 1) := by decide +kernel
theorem d3_1 : decode jdk_29_method_69_code 1 = .ok (.iload_n 1, 1) := by decide +kernel
theorem d3_2 : decode jdk_29_method_69_code 2 = .ok (.if_icmp .gt 7, 3) := by decide +kernel
theorem d3_10 : decode jdk_29_method_69_code 10 = .ok (.ireturn, 1) := by decide +kernel
theorem d3_9 : decode jdk_29_method_69_code 9 = .ok (.iload_n 1, 1) := by decide +kernel
theorem d3_5 : decode jdk_29_method_69_code 5 = .ok (.iload_n 0, 1) := by decide +kernel
theorem d3_6 : decode jdk_29_method_69_code 6 = .ok (.goto 4, 3) := by decide +kernel
theorem ef_3 (p0 : Int32) (p1 : Int32) : ∀ m : MethodId, entryFrame m #[(.int p0), (.int p1)] 2 = mkF m 0 #[.val (.int p0), .val (.int p1)] [] := by intro m; first | (simp [entryFrame, mkF, argsToLocals, Value.category]; done) | rfl
def F_min (p0 : Int32) (p1 : Int32) : Int32 :=
  let d2 : Int32 := (if p1 < p0 then p1 else p0)
  d2
set_option maxRecDepth 65536 in
set_option maxHeartbeats 40000000 in
theorem rm3 (l : Launch) (Z : State) (az : Array Value) (hw : ∀ d ∈ tables_1, d.before az Z = true) (ws : List Jvm.Cond) (p0 : Int32) (p1 : Int32) (h0 : Heap) :
    Met l (⟨"java/lang/Math", "min", "(II)I"⟩ : MethodName) jdk_29_method_69_code 2 (some .int) ws ({ frames := 0, cells := 0, slots := 0, locals := 0 } : Room) Z #[(.int p0), (.int p1)] h0 (fun v h' L => v = some (Value.int (F_min p0 p1)) ∧ h' = h0 ∧ L = []) := by
  refine enter (Jvm.Free.JP.mathPlain rfl (by decide +kernel)) (ef_3 p0 p1) ?_
  intro p e s m below meth c T0 kc kn Q hkc hkn hQ K' X0 e0
  have K : Fx p s m meth c jdk_29_method_69_code 2 "java/lang/Math" "min" (some .int) Z := K'
  refine k_iloadN K X0 d3_0 rfl (q := 1) rfl ?_
  refine k_iloadN K X0 d3_1 rfl (q := 2) rfl ?_
  have J3 : ∀ (d2 : Int32), (if p1 < p0 then p1 else p0) = d2 → Run p e below s kc kn Q T0 (mkF m 10 #[.val (.int p0), .val (.int p1)] [(.int d2)]) := by
    intro d2 hv_d2
    exact k_reti K X0 e0 d3_10 (Nat.le_trans (by decide) hkc) (Nat.le_trans (by decide) hkn) (hQ _ _ _ ⟨(by show some (Value.int d2) = some (Value.int (F_min p0 p1)); first | (simp only [F_min, hv_d2]; done) | (subst hv_d2; simp only [F_min])), rfl, rfl⟩)
  refine k_icmp_gt K X0 d3_2 (by decide) (q := 9) rfl (q' := 5) rfl ?_ ?_
  · intro hc4
    refine k_iloadN K X0 d3_9 rfl (q := 10) rfl ?_
    exact J3 _ (by first | (simp only [if_pos hc4]; done) | rfl)
  · intro hc4
    refine k_iloadN K X0 d3_5 rfl (q := 6) rfl ?_
    refine k_goto K X0 d3_6 (by decide) (q := 10) rfl ?_
    exact J3 _ (by first | (simp only [if_neg hc4]; done) | rfl)
theorem d2_0 : decode jdk_65_method_121_code 0 = .ok (.iload_n 1, 1) := by decide +kernel
theorem d2_1 : decode jdk_65_method_121_code 1 = .ok (.aload_n 0, 1) := by decide +kernel
theorem d2_2 : decode jdk_65_method_121_code 2 = .ok (.arraylength, 1) := by decide +kernel
theorem d2_3 : decode jdk_65_method_121_code 3 = .ok (.if_icmp .ne 11, 3) := by decide +kernel
theorem d2_14 : decode jdk_65_method_121_code 14 = .ok (.iload_n 1, 1) := by decide +kernel
theorem d2_15 : decode jdk_65_method_121_code 15 = .ok (.newarray .byte, 2) := by decide +kernel
theorem d2_17 : decode jdk_65_method_121_code 17 = .ok (.astore_n 2, 1) := by decide +kernel
theorem d2_18 : decode jdk_65_method_121_code 18 = .ok (.aload_n 0, 1) := by decide +kernel
theorem d2_19 : decode jdk_65_method_121_code 19 = .ok (.iconst 0, 1) := by decide +kernel
theorem d2_20 : decode jdk_65_method_121_code 20 = .ok (.aload_n 2, 1) := by decide +kernel
theorem d2_21 : decode jdk_65_method_121_code 21 = .ok (.iconst 0, 1) := by decide +kernel
theorem d2_22 : decode jdk_65_method_121_code 22 = .ok (.aload_n 0, 1) := by decide +kernel
theorem d2_23 : decode jdk_65_method_121_code 23 = .ok (.arraylength, 1) := by decide +kernel
theorem d2_24 : decode jdk_65_method_121_code 24 = .ok (.iload_n 1, 1) := by decide +kernel
theorem d2_25 : decode jdk_65_method_121_code 25 = .ok (.invokestatic 304, 3) := by decide +kernel
theorem pd_0 : parseMethodDescriptor "(II)I" = some ⟨[.int, .int], some .int⟩ := by decide +kernel
theorem d2_28 : decode jdk_65_method_121_code 28 = .ok (.invokestatic 150, 3) := by decide +kernel
theorem d2_31 : decode jdk_65_method_121_code 31 = .ok (.aload_n 2, 1) := by decide +kernel
theorem d2_32 : decode jdk_65_method_121_code 32 = .ok (.areturn, 1) := by decide +kernel
theorem ef_2_0 (a0 : Addr) : ∀ m : MethodId, entryFrame m #[(.ref a0), (.int (8 : Int32))] 3 = mkF m 0 #[.val (.ref a0), .val (.int (8 : Int32)), .unset] [] := by intro m; first | (simp [entryFrame, mkF, argsToLocals, Value.category]; done) | rfl
theorem pn_0 : plainName "java/util/Arrays" = true := by first | (simp [plainName, overriddenIn]; done) | decide +kernel
set_option maxRecDepth 65536 in
set_option maxHeartbeats 40000000 in
theorem rm2_0 (l : Launch) (Z : State) (az : Array Value) (hw : ∀ d ∈ tables_1, d.before az Z = true) (ws : List Jvm.Cond) (a0 : Addr) (h0 : Heap) (n0 : Nat) (Z0 : n0 ≤ h0.size) (A_a0 : Ary Z h0 a0 .byte 0 (fun i => Value.int (List.getD [] i 0))) :
    Met l (⟨"java/util/Arrays", "copyOf", "([BI)[B"⟩ : MethodName) jdk_65_method_121_code 3 (some (.array .byte)) ws ({ frames := 1, cells := 1, slots := 8, locals := 18 } : Room) Z #[(.ref a0), (.int (8 : Int32))] h0 (fun v h' L => ∃ b7 : Addr, n0 ≤ b7 ∧ h0.size ≤ b7 ∧ v = some (.ref b7) ∧ Fr n0 L ∧ Keep h0 h' [] ∧ Exa Z h' b7 "[B" ∧ Ary Z h' b7 .byte 8 (fun i => Value.int (List.getD [(0 : Int32), (0 : Int32), (0 : Int32), (0 : Int32), (0 : Int32), (0 : Int32), (0 : Int32), (0 : Int32)] i 0))) := by
  refine enter (plainFor_of_name pn_0) (ef_2_0 a0) ?_
  intro p e s m below meth c T0 kc kn Q hkc hkn hQ K' X0 e0
  have K : Fx p s m meth c jdk_65_method_121_code 3 "java/util/Arrays" "copyOf" (some (.array .byte)) Z := K'
  have N0 := Fr.nil n0
  have K0 : Keep h0 h0 [] := Keep.refl _ _
  refine k_iloadN K X0 d2_0 rfl (q := 1) rfl ?_
  refine k_aloadN K X0 d2_1 rfl rfl (q := 2) rfl ?_
  refine k_arraylength K X0 e0 d2_2 A_a0 (v := (0 : Int32)) rfl (q := 3) rfl ?_
  refine k_icmp_ne_y K X0 d2_3 (by decide) (by decide) (q := 14) rfl ?_
  refine k_iloadN K X0 d2_14 rfl (q := 15) rfl ?_
  refine k_newarrayE K X0 e0 d2_15 (ty := .byte) rfl (ad := "[B") (by decide) (wd hw 0 rfl) (n := 8) (cap := 8) (by decide) (by decide) (by decide) (by decide) (by decide) (q := 17) rfl ?_
  intro T5 h6 b7 X8 e9 g10 E11 A12 E13
  have ne14 : a0 ≠ b7 := Nat.ne_of_lt (Nat.lt_of_lt_of_eq (A_a0).lt g10.symm)
  have ge15 : n0 ≤ b7 := Nat.le_trans Z0 (Nat.le_of_eq g10.symm)
  have bn16 : h0.size ≤ b7 := Nat.le_trans K0.1 (Nat.le_of_eq g10.symm)
  have f17 := Ary.ext A_a0 E11
  have K18 := Keep.ext K0 E11
  have Z19 := Nat.le_trans Z0 E11.1
  have f20 : Ary Z h6 b7 .byte 8 (fun i => Value.int (List.getD [(0 : Int32), (0 : Int32), (0 : Int32), (0 : Int32), (0 : Int32), (0 : Int32), (0 : Int32), (0 : Int32)] i 0)) := Ary.eqv A12 (by intro i hi; match i, hi with | 0, _ => rfl | 1, _ => rfl | 2, _ => rfl | 3, _ => rfl | 4, _ => rfl | 5, _ => rfl | 6, _ => rfl | 7, _ => rfl | (k + 8), hi => exact absurd hi (by omega))
  refine k_astoreN K X8 d2_17 rfl (Ls' := #[.val (.ref a0), .val (.int (8 : Int32)), .val (.ref b7)]) rfl (q := 18) rfl ?_
  refine k_aloadN K X8 d2_18 rfl rfl (q := 19) rfl ?_
  refine k_iconst K X8 d2_19 (v := (0 : Int32)) rfl (q := 20) rfl ?_
  refine k_aloadN K X8 d2_20 rfl rfl (q := 21) rfl ?_
  refine k_iconst K X8 d2_21 (v := (0 : Int32)) rfl (q := 22) rfl ?_
  refine k_aloadN K X8 d2_22 rfl rfl (q := 23) rfl ?_
  refine k_arraylength K X8 e9 d2_23 f17 (v := (0 : Int32)) rfl (q := 24) rfl ?_
  refine k_iloadN K X8 d2_24 rfl (q := 25) rfl ?_
  refine k_staticP K X8 e9 d2_25 (wd hw 10 rfl) (wd hw 11 rfl) (wd hw 12 rfl) (wd hw 13 rfl) (by decide) (rm3 l Z az hw [] (0 : Int32) (8 : Int32) h6) (W := 4) (by decide) (by decide) (by decide) (by decide) rfl pd_0 (argsL := [(.int (0 : Int32)), (.int (8 : Int32))]) (rest := [(.int (0 : Int32)), (.ref b7), (.int (0 : Int32)), (.ref a0)]) rfl rfl rfl (Nat.le_of_eq rfl) (q := 28) rfl ?_
  intro T21 X22 e23
  refine k_nameI (v := (0 : Int32)) (by decide +kernel) ?_
  refine k_arraycopy K X22 e23 d2_28 (wd hw 14 rfl) (wd hw 17 rfl) (wd hw 15 rfl) (wd hw 16 rfl) f17 f20 rfl (i := 0) (j := 0) (k := 0) (by decide) (by decide) (by decide) (by decide) (by decide) N0 ge15 rfl (by decide) (W := 0) (Nat.le_of_eq rfl) (by decide) (q := 31) rfl ?_
  intro T24 h25 L26 X27 e28 N29 K30 A31
  have f32 : Ary Z h25 b7 .byte 8 (fun i => Value.int (List.getD [(0 : Int32), (0 : Int32), (0 : Int32), (0 : Int32), (0 : Int32), (0 : Int32), (0 : Int32), (0 : Int32)] i 0)) := Ary.eqv A31 (by intro i hi; match i, hi with | 0, _ => rfl | 1, _ => rfl | 2, _ => rfl | 3, _ => rfl | 4, _ => rfl | 5, _ => rfl | 6, _ => rfl | 7, _ => rfl | (k + 8), hi => exact absurd hi (by omega))
  have f33 := Ary.keep f17 K30 (ninS ne14 nin0)
  have f34 := Exa.keep E13 K30
  have K35 := Keep.trans K18 K30 (allS (Or.inr bn16) all0)
  have Z36 := Nat.le_trans Z19 K30.1
  refine k_aloadN K X27 d2_31 rfl rfl (q := 32) rfl ?_
  exact k_reta K X27 e28 d2_32 rfl rfl (Nat.le_trans (by decide) hkc) (Nat.le_trans (by decide) hkn) (hQ _ _ _ ⟨b7, ge15, bn16, rfl, N29, K35, f34, f32⟩)
theorem ef_2_1 (a0 : Addr) : ∀ m : MethodId, entryFrame m #[(.ref a0), (.int (9 : Int32))] 3 = mkF m 0 #[.val (.ref a0), .val (.int (9 : Int32)), .unset] [] := by intro m; first | (simp [entryFrame, mkF, argsToLocals, Value.category]; done) | rfl
set_option maxRecDepth 65536 in
set_option maxHeartbeats 40000000 in
theorem rm2_1 (l : Launch) (Z : State) (az : Array Value) (hw : ∀ d ∈ tables_1, d.before az Z = true) (ws : List Jvm.Cond) (a0 : Addr) (s_a0_0 : Int32) (h0 : Heap) (n0 : Nat) (Z0 : n0 ≤ h0.size) (A_a0 : Ary Z h0 a0 .byte 1 (fun i => Value.int (List.getD [s_a0_0] i 0))) :
    Met l (⟨"java/util/Arrays", "copyOf", "([BI)[B"⟩ : MethodName) jdk_65_method_121_code 3 (some (.array .byte)) ws ({ frames := 1, cells := 1, slots := 9, locals := 18 } : Room) Z #[(.ref a0), (.int (9 : Int32))] h0 (fun v h' L => ∃ b39 : Addr, n0 ≤ b39 ∧ h0.size ≤ b39 ∧ v = some (.ref b39) ∧ Fr n0 L ∧ Keep h0 h' [] ∧ Exa Z h' b39 "[B" ∧ Ary Z h' b39 .byte 9 (fun i => Value.int (List.getD [s_a0_0, (0 : Int32), (0 : Int32), (0 : Int32), (0 : Int32), (0 : Int32), (0 : Int32), (0 : Int32), (0 : Int32)] i 0))) := by
  refine enter (plainFor_of_name pn_0) (ef_2_1 a0) ?_
  intro p e s m below meth c T0 kc kn Q hkc hkn hQ K' X0 e0
  have K : Fx p s m meth c jdk_65_method_121_code 3 "java/util/Arrays" "copyOf" (some (.array .byte)) Z := K'
  have N0 := Fr.nil n0
  have K0 : Keep h0 h0 [] := Keep.refl _ _
  refine k_iloadN K X0 d2_0 rfl (q := 1) rfl ?_
  refine k_aloadN K X0 d2_1 rfl rfl (q := 2) rfl ?_
  refine k_arraylength K X0 e0 d2_2 A_a0 (v := (1 : Int32)) rfl (q := 3) rfl ?_
  refine k_icmp_ne_y K X0 d2_3 (by decide) (by decide) (q := 14) rfl ?_
  refine k_iloadN K X0 d2_14 rfl (q := 15) rfl ?_
  refine k_newarrayE K X0 e0 d2_15 (ty := .byte) rfl (ad := "[B") (by decide) (wd hw 0 rfl) (n := 9) (cap := 9) (by decide) (by decide) (by decide) (by decide) (by decide) (q := 17) rfl ?_
  intro T37 h38 b39 X40 e41 g42 E43 A44 E45
  have ne46 : a0 ≠ b39 := Nat.ne_of_lt (Nat.lt_of_lt_of_eq (A_a0).lt g42.symm)
  have ge47 : n0 ≤ b39 := Nat.le_trans Z0 (Nat.le_of_eq g42.symm)
  have bn48 : h0.size ≤ b39 := Nat.le_trans K0.1 (Nat.le_of_eq g42.symm)
  have f49 := Ary.ext A_a0 E43
  have K50 := Keep.ext K0 E43
  have Z51 := Nat.le_trans Z0 E43.1
  have f52 : Ary Z h38 b39 .byte 9 (fun i => Value.int (List.getD [(0 : Int32), (0 : Int32), (0 : Int32), (0 : Int32), (0 : Int32), (0 : Int32), (0 : Int32), (0 : Int32), (0 : Int32)] i 0)) := Ary.eqv A44 (by intro i hi; match i, hi with | 0, _ => rfl | 1, _ => rfl | 2, _ => rfl | 3, _ => rfl | 4, _ => rfl | 5, _ => rfl | 6, _ => rfl | 7, _ => rfl | 8, _ => rfl | (k + 9), hi => exact absurd hi (by omega))
  refine k_astoreN K X40 d2_17 rfl (Ls' := #[.val (.ref a0), .val (.int (9 : Int32)), .val (.ref b39)]) rfl (q := 18) rfl ?_
  refine k_aloadN K X40 d2_18 rfl rfl (q := 19) rfl ?_
  refine k_iconst K X40 d2_19 (v := (0 : Int32)) rfl (q := 20) rfl ?_
  refine k_aloadN K X40 d2_20 rfl rfl (q := 21) rfl ?_
  refine k_iconst K X40 d2_21 (v := (0 : Int32)) rfl (q := 22) rfl ?_
  refine k_aloadN K X40 d2_22 rfl rfl (q := 23) rfl ?_
  refine k_arraylength K X40 e41 d2_23 f49 (v := (1 : Int32)) rfl (q := 24) rfl ?_
  refine k_iloadN K X40 d2_24 rfl (q := 25) rfl ?_
  refine k_staticP K X40 e41 d2_25 (wd hw 10 rfl) (wd hw 11 rfl) (wd hw 12 rfl) (wd hw 13 rfl) (by decide) (rm3 l Z az hw [] (1 : Int32) (9 : Int32) h38) (W := 4) (by decide) (by decide) (by decide) (by decide) rfl pd_0 (argsL := [(.int (1 : Int32)), (.int (9 : Int32))]) (rest := [(.int (0 : Int32)), (.ref b39), (.int (0 : Int32)), (.ref a0)]) rfl rfl rfl (Nat.le_of_eq rfl) (q := 28) rfl ?_
  intro T53 X54 e55
  refine k_nameI (v := (1 : Int32)) (by decide +kernel) ?_
  refine k_arraycopy K X54 e55 d2_28 (wd hw 14 rfl) (wd hw 17 rfl) (wd hw 15 rfl) (wd hw 16 rfl) f49 f52 rfl (i := 0) (j := 0) (k := 1) (by decide) (by decide) (by decide) (by decide) (by decide) N0 ge47 rfl (by decide) (W := 0) (Nat.le_of_eq rfl) (by decide) (q := 31) rfl ?_
  intro T56 h57 L58 X59 e60 N61 K62 A63
  have f64 : Ary Z h57 b39 .byte 9 (fun i => Value.int (List.getD [s_a0_0, (0 : Int32), (0 : Int32), (0 : Int32), (0 : Int32), (0 : Int32), (0 : Int32), (0 : Int32), (0 : Int32)] i 0)) := Ary.eqv A63 (by intro i hi; match i, hi with | 0, _ => rfl | 1, _ => rfl | 2, _ => rfl | 3, _ => rfl | 4, _ => rfl | 5, _ => rfl | 6, _ => rfl | 7, _ => rfl | 8, _ => rfl | (k + 9), hi => exact absurd hi (by omega))
  have f65 := Ary.keep f49 K62 (ninS ne46 nin0)
  have f66 := Exa.keep E45 K62
  have K67 := Keep.trans K50 K62 (allS (Or.inr bn48) all0)
  have Z68 := Nat.le_trans Z51 K62.1
  refine k_aloadN K X59 d2_31 rfl rfl (q := 32) rfl ?_
  exact k_reta K X59 e60 d2_32 rfl rfl (Nat.le_trans (by decide) hkc) (Nat.le_trans (by decide) hkn) (hQ _ _ _ ⟨b39, ge47, bn48, rfl, N61, K67, f66, f64⟩)
theorem ef_2_2 (a0 : Addr) : ∀ m : MethodId, entryFrame m #[(.ref a0), (.int (10 : Int32))] 3 = mkF m 0 #[.val (.ref a0), .val (.int (10 : Int32)), .unset] [] := by intro m; first | (simp [entryFrame, mkF, argsToLocals, Value.category]; done) | rfl
set_option maxRecDepth 65536 in
set_option maxHeartbeats 40000000 in
theorem rm2_2 (l : Launch) (Z : State) (az : Array Value) (hw : ∀ d ∈ tables_1, d.before az Z = true) (ws : List Jvm.Cond) (a0 : Addr) (s_a0_0 : Int32) (s_a0_1 : Int32) (h0 : Heap) (n0 : Nat) (Z0 : n0 ≤ h0.size) (A_a0 : Ary Z h0 a0 .byte 2 (fun i => Value.int (List.getD [s_a0_0, s_a0_1] i 0))) :
    Met l (⟨"java/util/Arrays", "copyOf", "([BI)[B"⟩ : MethodName) jdk_65_method_121_code 3 (some (.array .byte)) ws ({ frames := 1, cells := 1, slots := 10, locals := 18 } : Room) Z #[(.ref a0), (.int (10 : Int32))] h0 (fun v h' L => ∃ b71 : Addr, n0 ≤ b71 ∧ h0.size ≤ b71 ∧ v = some (.ref b71) ∧ Fr n0 L ∧ Keep h0 h' [] ∧ Exa Z h' b71 "[B" ∧ Ary Z h' b71 .byte 10 (fun i => Value.int (List.getD [s_a0_0, s_a0_1, (0 : Int32), (0 : Int32), (0 : Int32), (0 : Int32), (0 : Int32), (0 : Int32), (0 : Int32), (0 : Int32)] i 0))) := by
  refine enter (plainFor_of_name pn_0) (ef_2_2 a0) ?_
  intro p e s m below meth c T0 kc kn Q hkc hkn hQ K' X0 e0
  have K : Fx p s m meth c jdk_65_method_121_code 3 "java/util/Arrays" "copyOf" (some (.array .byte)) Z := K'
  have N0 := Fr.nil n0
  have K0 : Keep h0 h0 [] := Keep.refl _ _
  refine k_iloadN K X0 d2_0 rfl (q := 1) rfl ?_
  refine k_aloadN K X0 d2_1 rfl rfl (q := 2) rfl ?_
  refine k_arraylength K X0 e0 d2_2 A_a0 (v := (2 : Int32)) rfl (q := 3) rfl ?_
  refine k_icmp_ne_y K X0 d2_3 (by decide) (by decide) (q := 14) rfl ?_
  refine k_iloadN K X0 d2_14 rfl (q := 15) rfl ?_
  refine k_newarrayE K X0 e0 d2_15 (ty := .byte) rfl (ad := "[B") (by decide) (wd hw 0 rfl) (n := 10) (cap := 10) (by decide) (by decide) (by decide) (by decide) (by decide) (q := 17) rfl ?_
  intro T69 h70 b71 X72 e73 g74 E75 A76 E77
  have ne78 : a0 ≠ b71 := Nat.ne_of_lt (Nat.lt_of_lt_of_eq (A_a0).lt g74.symm)
  have ge79 : n0 ≤ b71 := Nat.le_trans Z0 (Nat.le_of_eq g74.symm)
  have bn80 : h0.size ≤ b71 := Nat.le_trans K0.1 (Nat.le_of_eq g74.symm)
  have f81 := Ary.ext A_a0 E75
  have K82 := Keep.ext K0 E75
  have Z83 := Nat.le_trans Z0 E75.1
  have f84 : Ary Z h70 b71 .byte 10 (fun i => Value.int (List.getD [(0 : Int32), (0 : Int32), (0 : Int32), (0 : Int32), (0 : Int32), (0 : Int32), (0 : Int32), (0 : Int32), (0 : Int32), (0 : Int32)] i 0)) := Ary.eqv A76 (by intro i hi; match i, hi with | 0, _ => rfl | 1, _ => rfl | 2, _ => rfl | 3, _ => rfl | 4, _ => rfl | 5, _ => rfl | 6, _ => rfl | 7, _ => rfl | 8, _ => rfl | 9, _ => rfl | (k + 10), hi => exact absurd hi (by omega))
  refine k_astoreN K X72 d2_17 rfl (Ls' := #[.val (.ref a0), .val (.int (10 : Int32)), .val (.ref b71)]) rfl (q := 18) rfl ?_
  refine k_aloadN K X72 d2_18 rfl rfl (q := 19) rfl ?_
  refine k_iconst K X72 d2_19 (v := (0 : Int32)) rfl (q := 20) rfl ?_
  refine k_aloadN K X72 d2_20 rfl rfl (q := 21) rfl ?_
  refine k_iconst K X72 d2_21 (v := (0 : Int32)) rfl (q := 22) rfl ?_
  refine k_aloadN K X72 d2_22 rfl rfl (q := 23) rfl ?_
  refine k_arraylength K X72 e73 d2_23 f81 (v := (2 : Int32)) rfl (q := 24) rfl ?_
  refine k_iloadN K X72 d2_24 rfl (q := 25) rfl ?_
  refine k_staticP K X72 e73 d2_25 (wd hw 10 rfl) (wd hw 11 rfl) (wd hw 12 rfl) (wd hw 13 rfl) (by decide) (rm3 l Z az hw [] (2 : Int32) (10 : Int32) h70) (W := 4) (by decide) (by decide) (by decide) (by decide) rfl pd_0 (argsL := [(.int (2 : Int32)), (.int (10 : Int32))]) (rest := [(.int (0 : Int32)), (.ref b71), (.int (0 : Int32)), (.ref a0)]) rfl rfl rfl (Nat.le_of_eq rfl) (q := 28) rfl ?_
  intro T85 X86 e87
  refine k_nameI (v := (2 : Int32)) (by decide +kernel) ?_
  refine k_arraycopy K X86 e87 d2_28 (wd hw 14 rfl) (wd hw 17 rfl) (wd hw 15 rfl) (wd hw 16 rfl) f81 f84 rfl (i := 0) (j := 0) (k := 2) (by decide) (by decide) (by decide) (by decide) (by decide) N0 ge79 rfl (by decide) (W := 0) (Nat.le_of_eq rfl) (by decide) (q := 31) rfl ?_
  intro T88 h89 L90 X91 e92 N93 K94 A95
  have f96 : Ary Z h89 b71 .byte 10 (fun i => Value.int (List.getD [s_a0_0, s_a0_1, (0 : Int32), (0 : Int32), (0 : Int32), (0 : Int32), (0 : Int32), (0 : Int32), (0 : Int32), (0 : Int32)] i 0)) := Ary.eqv A95 (by intro i hi; match i, hi with | 0, _ => rfl | 1, _ => rfl | 2, _ => rfl | 3, _ => rfl | 4, _ => rfl | 5, _ => rfl | 6, _ => rfl | 7, _ => rfl | 8, _ => rfl | 9, _ => rfl | (k + 10), hi => exact absurd hi (by omega))
  have f97 := Ary.keep f81 K94 (ninS ne78 nin0)
  have f98 := Exa.keep E77 K94
  have K99 := Keep.trans K82 K94 (allS (Or.inr bn80) all0)
  have Z100 := Nat.le_trans Z83 K94.1
  refine k_aloadN K X91 d2_31 rfl rfl (q := 32) rfl ?_
  exact k_reta K X91 e92 d2_32 rfl rfl (Nat.le_trans (by decide) hkc) (Nat.le_trans (by decide) hkn) (hQ _ _ _ ⟨b71, ge79, bn80, rfl, N93, K99, f98, f96⟩)
theorem ef_2_3 (a0 : Addr) : ∀ m : MethodId, entryFrame m #[(.ref a0), (.int (11 : Int32))] 3 = mkF m 0 #[.val (.ref a0), .val (.int (11 : Int32)), .unset] [] := by intro m; first | (simp [entryFrame, mkF, argsToLocals, Value.category]; done) | rfl
set_option maxRecDepth 65536 in
set_option maxHeartbeats 40000000 in
theorem rm2_3 (l : Launch) (Z : State) (az : Array Value) (hw : ∀ d ∈ tables_1, d.before az Z = true) (ws : List Jvm.Cond) (a0 : Addr) (s_a0_0 : Int32) (s_a0_1 : Int32) (s_a0_2 : Int32) (h0 : Heap) (n0 : Nat) (Z0 : n0 ≤ h0.size) (A_a0 : Ary Z h0 a0 .byte 3 (fun i => Value.int (List.getD [s_a0_0, s_a0_1, s_a0_2] i 0))) :
    Met l (⟨"java/util/Arrays", "copyOf", "([BI)[B"⟩ : MethodName) jdk_65_method_121_code 3 (some (.array .byte)) ws ({ frames := 1, cells := 1, slots := 11, locals := 18 } : Room) Z #[(.ref a0), (.int (11 : Int32))] h0 (fun v h' L => ∃ b103 : Addr, n0 ≤ b103 ∧ h0.size ≤ b103 ∧ v = some (.ref b103) ∧ Fr n0 L ∧ Keep h0 h' [] ∧ Exa Z h' b103 "[B" ∧ Ary Z h' b103 .byte 11 (fun i => Value.int (List.getD [s_a0_0, s_a0_1, s_a0_2, (0 : Int32), (0 : Int32), (0 : Int32), (0 : Int32), (0 : Int32), (0 : Int32), (0 : Int32), (0 : Int32)] i 0))) := by
  refine enter (plainFor_of_name pn_0) (ef_2_3 a0) ?_
  intro p e s m below meth c T0 kc kn Q hkc hkn hQ K' X0 e0
  have K : Fx p s m meth c jdk_65_method_121_code 3 "java/util/Arrays" "copyOf" (some (.array .byte)) Z := K'
  have N0 := Fr.nil n0
  have K0 : Keep h0 h0 [] := Keep.refl _ _
  refine k_iloadN K X0 d2_0 rfl (q := 1) rfl ?_
  refine k_aloadN K X0 d2_1 rfl rfl (q := 2) rfl ?_
  refine k_arraylength K X0 e0 d2_2 A_a0 (v := (3 : Int32)) rfl (q := 3) rfl ?_
  refine k_icmp_ne_y K X0 d2_3 (by decide) (by decide) (q := 14) rfl ?_
  refine k_iloadN K X0 d2_14 rfl (q := 15) rfl ?_
  refine k_newarrayE K X0 e0 d2_15 (ty := .byte) rfl (ad := "[B") (by decide) (wd hw 0 rfl) (n := 11) (cap := 11) (by decide) (by decide) (by decide) (by decide) (by decide) (q := 17) rfl ?_
  intro T101 h102 b103 X104 e105 g106 E107 A108 E109
  have ne110 : a0 ≠ b103 := Nat.ne_of_lt (Nat.lt_of_lt_of_eq (A_a0).lt g106.symm)
  have ge111 : n0 ≤ b103 := Nat.le_trans Z0 (Nat.le_of_eq g106.symm)
  have bn112 : h0.size ≤ b103 := Nat.le_trans K0.1 (Nat.le_of_eq g106.symm)
  have f113 := Ary.ext A_a0 E107
  have K114 := Keep.ext K0 E107
  have Z115 := Nat.le_trans Z0 E107.1
  have f116 : Ary Z h102 b103 .byte 11 (fun i => Value.int (List.getD [(0 : Int32), (0 : Int32), (0 : Int32), (0 : Int32), (0 : Int32), (0 : Int32), (0 : Int32), (0 : Int32), (0 : Int32), (0 : Int32), (0 : Int32)] i 0)) := Ary.eqv A108 (by intro i hi; match i, hi with | 0, _ => rfl | 1, _ => rfl | 2, _ => rfl | 3, _ => rfl | 4, _ => rfl | 5, _ => rfl | 6, _ => rfl | 7, _ => rfl | 8, _ => rfl | 9, _ => rfl | 10, _ => rfl | (k + 11), hi => exact absurd hi (by omega))
  refine k_astoreN K X104 d2_17 rfl (Ls' := #[.val (.ref a0), .val (.int (11 : Int32)), .val (.ref b103)]) rfl (q := 18) rfl ?_
  refine k_aloadN K X104 d2_18 rfl rfl (q := 19) rfl ?_
  refine k_iconst K X104 d2_19 (v := (0 : Int32)) rfl (q := 20) rfl ?_
  refine k_aloadN K X104 d2_20 rfl rfl (q := 21) rfl ?_
  refine k_iconst K X104 d2_21 (v := (0 : Int32)) rfl (q := 22) rfl ?_
  refine k_aloadN K X104 d2_22 rfl rfl (q := 23) rfl ?_
  refine k_arraylength K X104 e105 d2_23 f113 (v := (3 : Int32)) rfl (q := 24) rfl ?_
  refine k_iloadN K X104 d2_24 rfl (q := 25) rfl ?_
  refine k_staticP K X104 e105 d2_25 (wd hw 10 rfl) (wd hw 11 rfl) (wd hw 12 rfl) (wd hw 13 rfl) (by decide) (rm3 l Z az hw [] (3 : Int32) (11 : Int32) h102) (W := 4) (by decide) (by decide) (by decide) (by decide) rfl pd_0 (argsL := [(.int (3 : Int32)), (.int (11 : Int32))]) (rest := [(.int (0 : Int32)), (.ref b103), (.int (0 : Int32)), (.ref a0)]) rfl rfl rfl (Nat.le_of_eq rfl) (q := 28) rfl ?_
  intro T117 X118 e119
  refine k_nameI (v := (3 : Int32)) (by decide +kernel) ?_
  refine k_arraycopy K X118 e119 d2_28 (wd hw 14 rfl) (wd hw 17 rfl) (wd hw 15 rfl) (wd hw 16 rfl) f113 f116 rfl (i := 0) (j := 0) (k := 3) (by decide) (by decide) (by decide) (by decide) (by decide) N0 ge111 rfl (by decide) (W := 0) (Nat.le_of_eq rfl) (by decide) (q := 31) rfl ?_
  intro T120 h121 L122 X123 e124 N125 K126 A127
  have f128 : Ary Z h121 b103 .byte 11 (fun i => Value.int (List.getD [s_a0_0, s_a0_1, s_a0_2, (0 : Int32), (0 : Int32), (0 : Int32), (0 : Int32), (0 : Int32), (0 : Int32), (0 : Int32), (0 : Int32)] i 0)) := Ary.eqv A127 (by intro i hi; match i, hi with | 0, _ => rfl | 1, _ => rfl | 2, _ => rfl | 3, _ => rfl | 4, _ => rfl | 5, _ => rfl | 6, _ => rfl | 7, _ => rfl | 8, _ => rfl | 9, _ => rfl | 10, _ => rfl | (k + 11), hi => exact absurd hi (by omega))
  have f129 := Ary.keep f113 K126 (ninS ne110 nin0)
  have f130 := Exa.keep E109 K126
  have K131 := Keep.trans K114 K126 (allS (Or.inr bn112) all0)
  have Z132 := Nat.le_trans Z115 K126.1
  refine k_aloadN K X123 d2_31 rfl rfl (q := 32) rfl ?_
  exact k_reta K X123 e124 d2_32 rfl rfl (Nat.le_trans (by decide) hkc) (Nat.le_trans (by decide) hkn) (hQ _ _ _ ⟨b103, ge111, bn112, rfl, N125, K131, f130, f128⟩)
theorem d4_0 : decode prog_84_method_9_code 0 = .ok (.aload_n 0, 1) := by decide +kernel
theorem d4_1 : decode prog_84_method_9_code 1 = .ok (.iload_n 1, 1) := by decide +kernel
theorem d4_2 : decode prog_84_method_9_code 2 = .ok (.iload_n 2, 1) := by decide +kernel
theorem d4_3 : decode prog_84_method_9_code 3 = .ok (.bipush 24, 2) := by decide +kernel
theorem d4_5 : decode prog_84_method_9_code 5 = .ok (.iushr, 1) := by decide +kernel
theorem d4_6 : decode prog_84_method_9_code 6 = .ok (.i2b, 1) := by decide +kernel
theorem d4_7 : decode prog_84_method_9_code 7 = .ok (.bastore, 1) := by decide +kernel
theorem d4_8 : decode prog_84_method_9_code 8 = .ok (.aload_n 0, 1) := by decide +kernel
theorem d4_9 : decode prog_84_method_9_code 9 = .ok (.iload_n 1, 1) := by decide +kernel
theorem d4_10 : decode prog_84_method_9_code 10 = .ok (.iconst 1, 1) := by decide +kernel
theorem d4_11 : decode prog_84_method_9_code 11 = .ok (.iadd, 1) := by decide +kernel
theorem d4_12 : decode prog_84_method_9_code 12 = .ok (.iload_n 2, 1) := by decide +kernel
theorem d4_13 : decode prog_84_method_9_code 13 = .ok (.bipush 16, 2) := by decide +kernel
theorem d4_15 : decode prog_84_method_9_code 15 = .ok (.iushr, 1) := by decide +kernel
theorem d4_16 : decode prog_84_method_9_code 16 = .ok (.i2b, 1) := by decide +kernel
theorem d4_17 : decode prog_84_method_9_code 17 = .ok (.bastore, 1) := by decide +kernel
theorem d4_18 : decode prog_84_method_9_code 18 = .ok (.aload_n 0, 1) := by decide +kernel
theorem d4_19 : decode prog_84_method_9_code 19 = .ok (.iload_n 1, 1) := by decide +kernel
theorem d4_20 : decode prog_84_method_9_code 20 = .ok (.iconst 2, 1) := by decide +kernel
theorem d4_21 : decode prog_84_method_9_code 21 = .ok (.iadd, 1) := by decide +kernel
theorem d4_22 : decode prog_84_method_9_code 22 = .ok (.iload_n 2, 1) := by decide +kernel
theorem d4_23 : decode prog_84_method_9_code 23 = .ok (.bipush 8, 2) := by decide +kernel
theorem d4_25 : decode prog_84_method_9_code 25 = .ok (.iushr, 1) := by decide +kernel
theorem d4_26 : decode prog_84_method_9_code 26 = .ok (.i2b, 1) := by decide +kernel
theorem d4_27 : decode prog_84_method_9_code 27 = .ok (.bastore, 1) := by decide +kernel
theorem d4_28 : decode prog_84_method_9_code 28 = .ok (.aload_n 0, 1) := by decide +kernel
theorem d4_29 : decode prog_84_method_9_code 29 = .ok (.iload_n 1, 1) := by decide +kernel
theorem d4_30 : decode prog_84_method_9_code 30 = .ok (.iconst 3, 1) := by decide +kernel
theorem d4_31 : decode prog_84_method_9_code 31 = .ok (.iadd, 1) := by decide +kernel
theorem d4_32 : decode prog_84_method_9_code 32 = .ok (.iload_n 2, 1) := by decide +kernel
theorem d4_33 : decode prog_84_method_9_code 33 = .ok (.i2b, 1) := by decide +kernel
theorem d4_34 : decode prog_84_method_9_code 34 = .ok (.bastore, 1) := by decide +kernel
theorem d4_35 : decode prog_84_method_9_code 35 = .ok (.return_, 1) := by decide +kernel
theorem ef_4_8_0 (a0 : Addr) (p2 : Int32) : ∀ m : MethodId, entryFrame m #[(.ref a0), (.int (0 : Int32)), (.int p2)] 3 = mkF m 0 #[.val (.ref a0), .val (.int (0 : Int32)), .val (.int p2)] [] := by intro m; first | (simp [entryFrame, mkF, argsToLocals, Value.category]; done) | rfl
theorem pn_1 : plainName "com/example/muster/muster/search/SortKeys" = true := by first | (simp [plainName, overriddenIn]; done) | decide +kernel
set_option maxRecDepth 65536 in
set_option maxHeartbeats 40000000 in
theorem rm4_8_0 (l : Launch) (Z : State) (az : Array Value) (hw : ∀ d ∈ tables_1, d.before az Z = true) (ws : List Jvm.Cond) (a0 : Addr) (p2 : Int32) (s_a0_0 : Int32) (s_a0_1 : Int32) (s_a0_2 : Int32) (s_a0_3 : Int32) (s_a0_4 : Int32) (s_a0_5 : Int32) (s_a0_6 : Int32) (s_a0_7 : Int32) (h0 : Heap) (n0 : Nat) (Z0 : n0 ≤ h0.size) (A_a0 : Ary Z h0 a0 .byte 8 (fun i => Value.int (List.getD [s_a0_0, s_a0_1, s_a0_2, s_a0_3, s_a0_4, s_a0_5, s_a0_6, s_a0_7] i 0))) (ge_a0 : n0 ≤ a0) :
    Met l (⟨"com/example/muster/muster/search/SortKeys", "writeNumber", "([BII)V"⟩ : MethodName) prog_84_method_9_code 3 none ws ({ frames := 0, cells := 0, slots := 0, locals := 0 } : Room) Z #[(.ref a0), (.int (0 : Int32)), (.int p2)] h0 (fun v h' L => v = none ∧ Fr n0 L ∧ Keep h0 h' [a0] ∧ Ary Z h' a0 .byte 8 (fun i => Value.int (List.getD [(nar .byte (i2b (ushrI p2 (24 : Int32)))), (nar .byte (i2b (ushrI p2 (16 : Int32)))), (nar .byte (i2b (ushrI p2 (8 : Int32)))), (nar .byte (i2b p2)), s_a0_4, s_a0_5, s_a0_6, s_a0_7] i 0))) := by
  refine enter (plainFor_of_name pn_1) (ef_4_8_0 a0 p2) ?_
  intro p e s m below meth c T0 kc kn Q hkc hkn hQ K' X0 e0
  have K : Fx p s m meth c prog_84_method_9_code 3 "com/example/muster/muster/search/SortKeys" "writeNumber" none Z := K'
  have N0 := Fr.nil n0
  have K0 : Keep h0 h0 [a0] := Keep.refl _ _
  refine k_aloadN K X0 d4_0 rfl rfl (q := 1) rfl ?_
  refine k_iloadN K X0 d4_1 rfl (q := 2) rfl ?_
  refine k_iloadN K X0 d4_2 rfl (q := 3) rfl ?_
  refine k_bipush K X0 d4_3 (v := (24 : Int32)) rfl (q := 5) rfl ?_
  refine k_iushr K X0 d4_5 (q := 6) rfl ?_
  refine k_i2b K X0 d4_6 (q := 7) rfl ?_
  refine k_bastore K X0 e0 d4_7 A_a0 (i := 0) (by decide) (by decide) (q := 8) rfl ?_
  intro T133 h134 X135 e136 W137 A138
  have f139 : Ary Z h134 a0 .byte 8 (fun i => Value.int (List.getD [(nar .byte (i2b (ushrI p2 (24 : Int32)))), s_a0_1, s_a0_2, s_a0_3, s_a0_4, s_a0_5, s_a0_6, s_a0_7] i 0)) := Ary.eqv A138 (fun i _ => setD Value.int [s_a0_0, s_a0_1, s_a0_2, s_a0_3, s_a0_4, s_a0_5, s_a0_6, s_a0_7] 0 (nar .byte (i2b (ushrI p2 (24 : Int32)))) 0 (Nat.le_of_ble_eq_true rfl) i)
  have N140 := Fr.snoc X135 N0 ge_a0
  have K141 := Keep.wr K0 W137 (Or.inl (List.mem_of_getElem? (i := 0) rfl))
  have Z142 := Nat.le_trans Z0 (Nat.le_of_eq (Wr.size W137).symm)
  refine k_aloadN K X135 d4_8 rfl rfl (q := 9) rfl ?_
  refine k_iloadN K X135 d4_9 rfl (q := 10) rfl ?_
  refine k_iconst K X135 d4_10 (v := (1 : Int32)) rfl (q := 11) rfl ?_
  refine k_iadd K X135 d4_11 (q := 12) rfl ?_
  refine k_nameI (v := (1 : Int32)) (by decide) ?_
  refine k_iloadN K X135 d4_12 rfl (q := 13) rfl ?_
  refine k_bipush K X135 d4_13 (v := (16 : Int32)) rfl (q := 15) rfl ?_
  refine k_iushr K X135 d4_15 (q := 16) rfl ?_
  refine k_i2b K X135 d4_16 (q := 17) rfl ?_
  refine k_bastore K X135 e136 d4_17 f139 (i := 1) (by decide) (by decide) (q := 18) rfl ?_
  intro T143 h144 X145 e146 W147 A148
  have f149 : Ary Z h144 a0 .byte 8 (fun i => Value.int (List.getD [(nar .byte (i2b (ushrI p2 (24 : Int32)))), (nar .byte (i2b (ushrI p2 (16 : Int32)))), s_a0_2, s_a0_3, s_a0_4, s_a0_5, s_a0_6, s_a0_7] i 0)) := Ary.eqv A148 (fun i _ => setD Value.int [(nar .byte (i2b (ushrI p2 (24 : Int32)))), s_a0_1, s_a0_2, s_a0_3, s_a0_4, s_a0_5, s_a0_6, s_a0_7] 1 (nar .byte (i2b (ushrI p2 (16 : Int32)))) 0 (Nat.le_of_ble_eq_true rfl) i)
  have N150 := Fr.snoc X145 N140 ge_a0
  have K151 := Keep.wr K141 W147 (Or.inl (List.mem_of_getElem? (i := 0) rfl))
  have Z152 := Nat.le_trans Z142 (Nat.le_of_eq (Wr.size W147).symm)
  refine k_aloadN K X145 d4_18 rfl rfl (q := 19) rfl ?_
  refine k_iloadN K X145 d4_19 rfl (q := 20) rfl ?_
  refine k_iconst K X145 d4_20 (v := (2 : Int32)) rfl (q := 21) rfl ?_
  refine k_iadd K X145 d4_21 (q := 22) rfl ?_
  refine k_nameI (v := (2 : Int32)) (by decide) ?_
  refine k_iloadN K X145 d4_22 rfl (q := 23) rfl ?_
  refine k_bipush K X145 d4_23 (v := (8 : Int32)) rfl (q := 25) rfl ?_
  refine k_iushr K X145 d4_25 (q := 26) rfl ?_
  refine k_i2b K X145 d4_26 (q := 27) rfl ?_
  refine k_bastore K X145 e146 d4_27 f149 (i := 2) (by decide) (by decide) (q := 28) rfl ?_
  intro T153 h154 X155 e156 W157 A158
  have f159 : Ary Z h154 a0 .byte 8 (fun i => Value.int (List.getD [(nar .byte (i2b (ushrI p2 (24 : Int32)))), (nar .byte (i2b (ushrI p2 (16 : Int32)))), (nar .byte (i2b (ushrI p2 (8 : Int32)))), s_a0_3, s_a0_4, s_a0_5, s_a0_6, s_a0_7] i 0)) := Ary.eqv A158 (fun i _ => setD Value.int [(nar .byte (i2b (ushrI p2 (24 : Int32)))), (nar .byte (i2b (ushrI p2 (16 : Int32)))), s_a0_2, s_a0_3, s_a0_4, s_a0_5, s_a0_6, s_a0_7] 2 (nar .byte (i2b (ushrI p2 (8 : Int32)))) 0 (Nat.le_of_ble_eq_true rfl) i)
  have N160 := Fr.snoc X155 N150 ge_a0
  have K161 := Keep.wr K151 W157 (Or.inl (List.mem_of_getElem? (i := 0) rfl))
  have Z162 := Nat.le_trans Z152 (Nat.le_of_eq (Wr.size W157).symm)
  refine k_aloadN K X155 d4_28 rfl rfl (q := 29) rfl ?_
  refine k_iloadN K X155 d4_29 rfl (q := 30) rfl ?_
  refine k_iconst K X155 d4_30 (v := (3 : Int32)) rfl (q := 31) rfl ?_
  refine k_iadd K X155 d4_31 (q := 32) rfl ?_
  refine k_nameI (v := (3 : Int32)) (by decide) ?_
  refine k_iloadN K X155 d4_32 rfl (q := 33) rfl ?_
  refine k_i2b K X155 d4_33 (q := 34) rfl ?_
  refine k_bastore K X155 e156 d4_34 f159 (i := 3) (by decide) (by decide) (q := 35) rfl ?_
  intro T163 h164 X165 e166 W167 A168
  have f169 : Ary Z h164 a0 .byte 8 (fun i => Value.int (List.getD [(nar .byte (i2b (ushrI p2 (24 : Int32)))), (nar .byte (i2b (ushrI p2 (16 : Int32)))), (nar .byte (i2b (ushrI p2 (8 : Int32)))), (nar .byte (i2b p2)), s_a0_4, s_a0_5, s_a0_6, s_a0_7] i 0)) := Ary.eqv A168 (fun i _ => setD Value.int [(nar .byte (i2b (ushrI p2 (24 : Int32)))), (nar .byte (i2b (ushrI p2 (16 : Int32)))), (nar .byte (i2b (ushrI p2 (8 : Int32)))), s_a0_3, s_a0_4, s_a0_5, s_a0_6, s_a0_7] 3 (nar .byte (i2b p2)) 0 (Nat.le_of_ble_eq_true rfl) i)
  have N170 := Fr.snoc X165 N160 ge_a0
  have K171 := Keep.wr K161 W167 (Or.inl (List.mem_of_getElem? (i := 0) rfl))
  have Z172 := Nat.le_trans Z162 (Nat.le_of_eq (Wr.size W167).symm)
  exact k_retv K X165 e166 d4_35 (Nat.le_trans (by decide) hkc) (Nat.le_trans (by decide) hkn) (hQ _ _ _ ⟨rfl, N170, K171, f169⟩)
theorem ef_4_8_4 (a0 : Addr) (p2 : Int32) : ∀ m : MethodId, entryFrame m #[(.ref a0), (.int (4 : Int32)), (.int p2)] 3 = mkF m 0 #[.val (.ref a0), .val (.int (4 : Int32)), .val (.int p2)] [] := by intro m; first | (simp [entryFrame, mkF, argsToLocals, Value.category]; done) | rfl
set_option maxRecDepth 65536 in
set_option maxHeartbeats 40000000 in
theorem rm4_8_4 (l : Launch) (Z : State) (az : Array Value) (hw : ∀ d ∈ tables_1, d.before az Z = true) (ws : List Jvm.Cond) (a0 : Addr) (p2 : Int32) (s_a0_0 : Int32) (s_a0_1 : Int32) (s_a0_2 : Int32) (s_a0_3 : Int32) (s_a0_4 : Int32) (s_a0_5 : Int32) (s_a0_6 : Int32) (s_a0_7 : Int32) (h0 : Heap) (n0 : Nat) (Z0 : n0 ≤ h0.size) (A_a0 : Ary Z h0 a0 .byte 8 (fun i => Value.int (List.getD [s_a0_0, s_a0_1, s_a0_2, s_a0_3, s_a0_4, s_a0_5, s_a0_6, s_a0_7] i 0))) (ge_a0 : n0 ≤ a0) :
    Met l (⟨"com/example/muster/muster/search/SortKeys", "writeNumber", "([BII)V"⟩ : MethodName) prog_84_method_9_code 3 none ws ({ frames := 0, cells := 0, slots := 0, locals := 0 } : Room) Z #[(.ref a0), (.int (4 : Int32)), (.int p2)] h0 (fun v h' L => v = none ∧ Fr n0 L ∧ Keep h0 h' [a0] ∧ Ary Z h' a0 .byte 8 (fun i => Value.int (List.getD [s_a0_0, s_a0_1, s_a0_2, s_a0_3, (nar .byte (i2b (ushrI p2 (24 : Int32)))), (nar .byte (i2b (ushrI p2 (16 : Int32)))), (nar .byte (i2b (ushrI p2 (8 : Int32)))), (nar .byte (i2b p2))] i 0))) := by
  refine enter (plainFor_of_name pn_1) (ef_4_8_4 a0 p2) ?_
  intro p e s m below meth c T0 kc kn Q hkc hkn hQ K' X0 e0
  have K : Fx p s m meth c prog_84_method_9_code 3 "com/example/muster/muster/search/SortKeys" "writeNumber" none Z := K'
  have N0 := Fr.nil n0
  have K0 : Keep h0 h0 [a0] := Keep.refl _ _
  refine k_aloadN K X0 d4_0 rfl rfl (q := 1) rfl ?_
  refine k_iloadN K X0 d4_1 rfl (q := 2) rfl ?_
  refine k_iloadN K X0 d4_2 rfl (q := 3) rfl ?_
  refine k_bipush K X0 d4_3 (v := (24 : Int32)) rfl (q := 5) rfl ?_
  refine k_iushr K X0 d4_5 (q := 6) rfl ?_
  refine k_i2b K X0 d4_6 (q := 7) rfl ?_
  refine k_bastore K X0 e0 d4_7 A_a0 (i := 4) (by decide) (by decide) (q := 8) rfl ?_
  intro T173 h174 X175 e176 W177 A178
  have f179 : Ary Z h174 a0 .byte 8 (fun i => Value.int (List.getD [s_a0_0, s_a0_1, s_a0_2, s_a0_3, (nar .byte (i2b (ushrI p2 (24 : Int32)))), s_a0_5, s_a0_6, s_a0_7] i 0)) := Ary.eqv A178 (fun i _ => setD Value.int [s_a0_0, s_a0_1, s_a0_2, s_a0_3, s_a0_4, s_a0_5, s_a0_6, s_a0_7] 4 (nar .byte (i2b (ushrI p2 (24 : Int32)))) 0 (Nat.le_of_ble_eq_true rfl) i)
  have N180 := Fr.snoc X175 N0 ge_a0
  have K181 := Keep.wr K0 W177 (Or.inl (List.mem_of_getElem? (i := 0) rfl))
  have Z182 := Nat.le_trans Z0 (Nat.le_of_eq (Wr.size W177).symm)
  refine k_aloadN K X175 d4_8 rfl rfl (q := 9) rfl ?_
  refine k_iloadN K X175 d4_9 rfl (q := 10) rfl ?_
  refine k_iconst K X175 d4_10 (v := (1 : Int32)) rfl (q := 11) rfl ?_
  refine k_iadd K X175 d4_11 (q := 12) rfl ?_
  refine k_nameI (v := (5 : Int32)) (by decide) ?_
  refine k_iloadN K X175 d4_12 rfl (q := 13) rfl ?_
  refine k_bipush K X175 d4_13 (v := (16 : Int32)) rfl (q := 15) rfl ?_
  refine k_iushr K X175 d4_15 (q := 16) rfl ?_
  refine k_i2b K X175 d4_16 (q := 17) rfl ?_
  refine k_bastore K X175 e176 d4_17 f179 (i := 5) (by decide) (by decide) (q := 18) rfl ?_
  intro T183 h184 X185 e186 W187 A188
  have f189 : Ary Z h184 a0 .byte 8 (fun i => Value.int (List.getD [s_a0_0, s_a0_1, s_a0_2, s_a0_3, (nar .byte (i2b (ushrI p2 (24 : Int32)))), (nar .byte (i2b (ushrI p2 (16 : Int32)))), s_a0_6, s_a0_7] i 0)) := Ary.eqv A188 (fun i _ => setD Value.int [s_a0_0, s_a0_1, s_a0_2, s_a0_3, (nar .byte (i2b (ushrI p2 (24 : Int32)))), s_a0_5, s_a0_6, s_a0_7] 5 (nar .byte (i2b (ushrI p2 (16 : Int32)))) 0 (Nat.le_of_ble_eq_true rfl) i)
  have N190 := Fr.snoc X185 N180 ge_a0
  have K191 := Keep.wr K181 W187 (Or.inl (List.mem_of_getElem? (i := 0) rfl))
  have Z192 := Nat.le_trans Z182 (Nat.le_of_eq (Wr.size W187).symm)
  refine k_aloadN K X185 d4_18 rfl rfl (q := 19) rfl ?_
  refine k_iloadN K X185 d4_19 rfl (q := 20) rfl ?_
  refine k_iconst K X185 d4_20 (v := (2 : Int32)) rfl (q := 21) rfl ?_
  refine k_iadd K X185 d4_21 (q := 22) rfl ?_
  refine k_nameI (v := (6 : Int32)) (by decide) ?_
  refine k_iloadN K X185 d4_22 rfl (q := 23) rfl ?_
  refine k_bipush K X185 d4_23 (v := (8 : Int32)) rfl (q := 25) rfl ?_
  refine k_iushr K X185 d4_25 (q := 26) rfl ?_
  refine k_i2b K X185 d4_26 (q := 27) rfl ?_
  refine k_bastore K X185 e186 d4_27 f189 (i := 6) (by decide) (by decide) (q := 28) rfl ?_
  intro T193 h194 X195 e196 W197 A198
  have f199 : Ary Z h194 a0 .byte 8 (fun i => Value.int (List.getD [s_a0_0, s_a0_1, s_a0_2, s_a0_3, (nar .byte (i2b (ushrI p2 (24 : Int32)))), (nar .byte (i2b (ushrI p2 (16 : Int32)))), (nar .byte (i2b (ushrI p2 (8 : Int32)))), s_a0_7] i 0)) := Ary.eqv A198 (fun i _ => setD Value.int [s_a0_0, s_a0_1, s_a0_2, s_a0_3, (nar .byte (i2b (ushrI p2 (24 : Int32)))), (nar .byte (i2b (ushrI p2 (16 : Int32)))), s_a0_6, s_a0_7] 6 (nar .byte (i2b (ushrI p2 (8 : Int32)))) 0 (Nat.le_of_ble_eq_true rfl) i)
  have N200 := Fr.snoc X195 N190 ge_a0
  have K201 := Keep.wr K191 W197 (Or.inl (List.mem_of_getElem? (i := 0) rfl))
  have Z202 := Nat.le_trans Z192 (Nat.le_of_eq (Wr.size W197).symm)
  refine k_aloadN K X195 d4_28 rfl rfl (q := 29) rfl ?_
  refine k_iloadN K X195 d4_29 rfl (q := 30) rfl ?_
  refine k_iconst K X195 d4_30 (v := (3 : Int32)) rfl (q := 31) rfl ?_
  refine k_iadd K X195 d4_31 (q := 32) rfl ?_
  refine k_nameI (v := (7 : Int32)) (by decide) ?_
  refine k_iloadN K X195 d4_32 rfl (q := 33) rfl ?_
  refine k_i2b K X195 d4_33 (q := 34) rfl ?_
  refine k_bastore K X195 e196 d4_34 f199 (i := 7) (by decide) (by decide) (q := 35) rfl ?_
  intro T203 h204 X205 e206 W207 A208
  have f209 : Ary Z h204 a0 .byte 8 (fun i => Value.int (List.getD [s_a0_0, s_a0_1, s_a0_2, s_a0_3, (nar .byte (i2b (ushrI p2 (24 : Int32)))), (nar .byte (i2b (ushrI p2 (16 : Int32)))), (nar .byte (i2b (ushrI p2 (8 : Int32)))), (nar .byte (i2b p2))] i 0)) := Ary.eqv A208 (fun i _ => setD Value.int [s_a0_0, s_a0_1, s_a0_2, s_a0_3, (nar .byte (i2b (ushrI p2 (24 : Int32)))), (nar .byte (i2b (ushrI p2 (16 : Int32)))), (nar .byte (i2b (ushrI p2 (8 : Int32)))), s_a0_7] 7 (nar .byte (i2b p2)) 0 (Nat.le_of_ble_eq_true rfl) i)
  have N210 := Fr.snoc X205 N200 ge_a0
  have K211 := Keep.wr K201 W207 (Or.inl (List.mem_of_getElem? (i := 0) rfl))
  have Z212 := Nat.le_trans Z202 (Nat.le_of_eq (Wr.size W207).symm)
  exact k_retv K X205 e206 d4_35 (Nat.le_trans (by decide) hkc) (Nat.le_trans (by decide) hkn) (hQ _ _ _ ⟨rfl, N210, K211, f209⟩)
theorem d1_0 : decode prog_84_method_7_code 0 = .ok (.aload_n 0, 1) := by decide +kernel
theorem d1_1 : decode prog_84_method_7_code 1 = .ok (.aload_n 0, 1) := by decide +kernel
theorem d1_2 : decode prog_84_method_7_code 2 = .ok (.arraylength, 1) := by decide +kernel
theorem d1_3 : decode prog_84_method_7_code 3 = .ok (.iconst 4, 1) := by decide +kernel
theorem d1_4 : decode prog_84_method_7_code 4 = .ok (.aload_n 1, 1) := by decide +kernel
theorem d1_5 : decode prog_84_method_7_code 5 = .ok (.arraylength, 1) := by decide +kernel
theorem d1_6 : decode prog_84_method_7_code 6 = .ok (.imul, 1) := by decide +kernel
theorem d1_7 : decode prog_84_method_7_code 7 = .ok (.iadd, 1) := by decide +kernel
theorem d1_8 : decode prog_84_method_7_code 8 = .ok (.invokestatic 50, 3) := by decide +kernel
theorem pd_1 : parseMethodDescriptor "([BI)[B" = some ⟨[(.array .byte), .int], some (.array .byte)⟩ := by decide +kernel
theorem d1_11 : decode prog_84_method_7_code 11 = .ok (.astore_n 2, 1) := by decide +kernel
theorem d1_12 : decode prog_84_method_7_code 12 = .ok (.iconst 0, 1) := by decide +kernel
theorem d1_13 : decode prog_84_method_7_code 13 = .ok (.istore_n 3, 1) := by decide +kernel
theorem d1_14 : decode prog_84_method_7_code 14 = .ok (.iload_n 3, 1) := by decide +kernel
theorem d1_15 : decode prog_84_method_7_code 15 = .ok (.aload_n 1, 1) := by decide +kernel
theorem d1_16 : decode prog_84_method_7_code 16 = .ok (.arraylength, 1) := by decide +kernel
theorem d1_17 : decode prog_84_method_7_code 17 = .ok (.if_icmp .ge 22, 3) := by decide +kernel
theorem d1_20 : decode prog_84_method_7_code 20 = .ok (.aload_n 2, 1) := by decide +kernel
theorem d1_21 : decode prog_84_method_7_code 21 = .ok (.aload_n 0, 1) := by decide +kernel
theorem d1_22 : decode prog_84_method_7_code 22 = .ok (.arraylength, 1) := by decide +kernel
theorem d1_23 : decode prog_84_method_7_code 23 = .ok (.iconst 4, 1) := by decide +kernel
theorem d1_24 : decode prog_84_method_7_code 24 = .ok (.iload_n 3, 1) := by decide +kernel
theorem d1_25 : decode prog_84_method_7_code 25 = .ok (.imul, 1) := by decide +kernel
theorem d1_26 : decode prog_84_method_7_code 26 = .ok (.iadd, 1) := by decide +kernel
theorem d1_27 : decode prog_84_method_7_code 27 = .ok (.aload_n 1, 1) := by decide +kernel
theorem d1_28 : decode prog_84_method_7_code 28 = .ok (.iload_n 3, 1) := by decide +kernel
theorem d1_29 : decode prog_84_method_7_code 29 = .ok (.iaload, 1) := by decide +kernel
theorem d1_30 : decode prog_84_method_7_code 30 = .ok (.invokestatic 56, 3) := by decide +kernel
theorem pd_2 : parseMethodDescriptor "([BII)V" = some ⟨[(.array .byte), .int, .int], none⟩ := by decide +kernel
theorem d1_33 : decode prog_84_method_7_code 33 = .ok (.iinc 3 1, 3) := by decide +kernel
theorem d1_36 : decode prog_84_method_7_code 36 = .ok (.goto (-22), 3) := by decide +kernel
theorem d1_39 : decode prog_84_method_7_code 39 = .ok (.aload_n 2, 1) := by decide +kernel
theorem d1_40 : decode prog_84_method_7_code 40 = .ok (.areturn, 1) := by decide +kernel
theorem ef_1_0 (a0 : Addr) (a1 : Addr) : ∀ m : MethodId, entryFrame m #[(.ref a0), (.ref a1)] 4 = mkF m 0 #[.val (.ref a0), .val (.ref a1), .unset, .unset] [] := by intro m; first | (simp [entryFrame, mkF, argsToLocals, Value.category]; done) | rfl
def F_withNumbers_0_new0_0 (s_a1_0 : Int32) (s_a1_1 : Int32) : Int32 :=
  let v245 : Int32 := (nar .byte (i2b (ushrI s_a1_0 (24 : Int32))))
  let v246 : Int32 := (nar .byte (i2b (ushrI s_a1_0 (16 : Int32))))
  let v247 : Int32 := (nar .byte (i2b (ushrI s_a1_0 (8 : Int32))))
  let v248 : Int32 := (nar .byte (i2b s_a1_0))
  let v262 : Int32 := (nar .byte (i2b (ushrI s_a1_1 (24 : Int32))))
  let v263 : Int32 := (nar .byte (i2b (ushrI s_a1_1 (16 : Int32))))
  let v264 : Int32 := (nar .byte (i2b (ushrI s_a1_1 (8 : Int32))))
  let v265 : Int32 := (nar .byte (i2b s_a1_1))
  v245
def F_withNumbers_0_new0_1 (s_a1_0 : Int32) (s_a1_1 : Int32) : Int32 :=
  let v245 : Int32 := (nar .byte (i2b (ushrI s_a1_0 (24 : Int32))))
  let v246 : Int32 := (nar .byte (i2b (ushrI s_a1_0 (16 : Int32))))
  let v247 : Int32 := (nar .byte (i2b (ushrI s_a1_0 (8 : Int32))))
  let v248 : Int32 := (nar .byte (i2b s_a1_0))
  let v262 : Int32 := (nar .byte (i2b (ushrI s_a1_1 (24 : Int32))))
  let v263 : Int32 := (nar .byte (i2b (ushrI s_a1_1 (16 : Int32))))
  let v264 : Int32 := (nar .byte (i2b (ushrI s_a1_1 (8 : Int32))))
  let v265 : Int32 := (nar .byte (i2b s_a1_1))
  v246
def F_withNumbers_0_new0_2 (s_a1_0 : Int32) (s_a1_1 : Int32) : Int32 :=
  let v245 : Int32 := (nar .byte (i2b (ushrI s_a1_0 (24 : Int32))))
  let v246 : Int32 := (nar .byte (i2b (ushrI s_a1_0 (16 : Int32))))
  let v247 : Int32 := (nar .byte (i2b (ushrI s_a1_0 (8 : Int32))))
  let v248 : Int32 := (nar .byte (i2b s_a1_0))
  let v262 : Int32 := (nar .byte (i2b (ushrI s_a1_1 (24 : Int32))))
  let v263 : Int32 := (nar .byte (i2b (ushrI s_a1_1 (16 : Int32))))
  let v264 : Int32 := (nar .byte (i2b (ushrI s_a1_1 (8 : Int32))))
  let v265 : Int32 := (nar .byte (i2b s_a1_1))
  v247
def F_withNumbers_0_new0_3 (s_a1_0 : Int32) (s_a1_1 : Int32) : Int32 :=
  let v245 : Int32 := (nar .byte (i2b (ushrI s_a1_0 (24 : Int32))))
  let v246 : Int32 := (nar .byte (i2b (ushrI s_a1_0 (16 : Int32))))
  let v247 : Int32 := (nar .byte (i2b (ushrI s_a1_0 (8 : Int32))))
  let v248 : Int32 := (nar .byte (i2b s_a1_0))
  let v262 : Int32 := (nar .byte (i2b (ushrI s_a1_1 (24 : Int32))))
  let v263 : Int32 := (nar .byte (i2b (ushrI s_a1_1 (16 : Int32))))
  let v264 : Int32 := (nar .byte (i2b (ushrI s_a1_1 (8 : Int32))))
  let v265 : Int32 := (nar .byte (i2b s_a1_1))
  v248
def F_withNumbers_0_new0_4 (s_a1_0 : Int32) (s_a1_1 : Int32) : Int32 :=
  let v245 : Int32 := (nar .byte (i2b (ushrI s_a1_0 (24 : Int32))))
  let v246 : Int32 := (nar .byte (i2b (ushrI s_a1_0 (16 : Int32))))
  let v247 : Int32 := (nar .byte (i2b (ushrI s_a1_0 (8 : Int32))))
  let v248 : Int32 := (nar .byte (i2b s_a1_0))
  let v262 : Int32 := (nar .byte (i2b (ushrI s_a1_1 (24 : Int32))))
  let v263 : Int32 := (nar .byte (i2b (ushrI s_a1_1 (16 : Int32))))
  let v264 : Int32 := (nar .byte (i2b (ushrI s_a1_1 (8 : Int32))))
  let v265 : Int32 := (nar .byte (i2b s_a1_1))
  v262
def F_withNumbers_0_new0_5 (s_a1_0 : Int32) (s_a1_1 : Int32) : Int32 :=
  let v245 : Int32 := (nar .byte (i2b (ushrI s_a1_0 (24 : Int32))))
  let v246 : Int32 := (nar .byte (i2b (ushrI s_a1_0 (16 : Int32))))
  let v247 : Int32 := (nar .byte (i2b (ushrI s_a1_0 (8 : Int32))))
  let v248 : Int32 := (nar .byte (i2b s_a1_0))
  let v262 : Int32 := (nar .byte (i2b (ushrI s_a1_1 (24 : Int32))))
  let v263 : Int32 := (nar .byte (i2b (ushrI s_a1_1 (16 : Int32))))
  let v264 : Int32 := (nar .byte (i2b (ushrI s_a1_1 (8 : Int32))))
  let v265 : Int32 := (nar .byte (i2b s_a1_1))
  v263
def F_withNumbers_0_new0_6 (s_a1_0 : Int32) (s_a1_1 : Int32) : Int32 :=
  let v245 : Int32 := (nar .byte (i2b (ushrI s_a1_0 (24 : Int32))))
  let v246 : Int32 := (nar .byte (i2b (ushrI s_a1_0 (16 : Int32))))
  let v247 : Int32 := (nar .byte (i2b (ushrI s_a1_0 (8 : Int32))))
  let v248 : Int32 := (nar .byte (i2b s_a1_0))
  let v262 : Int32 := (nar .byte (i2b (ushrI s_a1_1 (24 : Int32))))
  let v263 : Int32 := (nar .byte (i2b (ushrI s_a1_1 (16 : Int32))))
  let v264 : Int32 := (nar .byte (i2b (ushrI s_a1_1 (8 : Int32))))
  let v265 : Int32 := (nar .byte (i2b s_a1_1))
  v264
def F_withNumbers_0_new0_7 (s_a1_0 : Int32) (s_a1_1 : Int32) : Int32 :=
  let v245 : Int32 := (nar .byte (i2b (ushrI s_a1_0 (24 : Int32))))
  let v246 : Int32 := (nar .byte (i2b (ushrI s_a1_0 (16 : Int32))))
  let v247 : Int32 := (nar .byte (i2b (ushrI s_a1_0 (8 : Int32))))
  let v248 : Int32 := (nar .byte (i2b s_a1_0))
  let v262 : Int32 := (nar .byte (i2b (ushrI s_a1_1 (24 : Int32))))
  let v263 : Int32 := (nar .byte (i2b (ushrI s_a1_1 (16 : Int32))))
  let v264 : Int32 := (nar .byte (i2b (ushrI s_a1_1 (8 : Int32))))
  let v265 : Int32 := (nar .byte (i2b s_a1_1))
  v265
set_option maxRecDepth 65536 in
set_option maxHeartbeats 40000000 in
theorem rm1_0 (l : Launch) (Z : State) (az : Array Value) (hw : ∀ d ∈ tables_1, d.before az Z = true) (ws : List Jvm.Cond) (a0 : Addr) (a1 : Addr) (s_a1_0 : Int32) (s_a1_1 : Int32) (h0 : Heap) (n0 : Nat) (Z0 : n0 ≤ h0.size) (A_a0 : Ary Z h0 a0 .byte 0 (fun i => Value.int (List.getD [] i 0))) (A_a1 : Ary Z h0 a1 .int 2 (fun i => Value.int (List.getD [s_a1_0, s_a1_1] i 0))) :
    Met l (⟨"com/example/muster/muster/search/SortKeys", "withNumbers", "([B[I)[B"⟩ : MethodName) prog_84_method_7_code 4 (some (.array .byte)) ws ({ frames := 2, cells := 1, slots := 8, locals := 32 } : Room) Z #[(.ref a0), (.ref a1)] h0 (fun v h' L => ∃ b219 : Addr, n0 ≤ b219 ∧ h0.size ≤ b219 ∧ v = some (.ref b219) ∧ Fr n0 L ∧ Keep h0 h' [] ∧ Exa Z h' b219 "[B" ∧ Ary Z h' b219 .byte 8 (fun i => Value.int (List.getD [(F_withNumbers_0_new0_0 s_a1_0 s_a1_1), (F_withNumbers_0_new0_1 s_a1_0 s_a1_1), (F_withNumbers_0_new0_2 s_a1_0 s_a1_1), (F_withNumbers_0_new0_3 s_a1_0 s_a1_1), (F_withNumbers_0_new0_4 s_a1_0 s_a1_1), (F_withNumbers_0_new0_5 s_a1_0 s_a1_1), (F_withNumbers_0_new0_6 s_a1_0 s_a1_1), (F_withNumbers_0_new0_7 s_a1_0 s_a1_1)] i 0))) := by
  refine enter (plainFor_of_name pn_1) (ef_1_0 a0 a1) ?_
  intro p e s m below meth c T0 kc kn Q hkc hkn hQ K' X0 e0
  have K : Fx p s m meth c prog_84_method_7_code 4 "com/example/muster/muster/search/SortKeys" "withNumbers" (some (.array .byte)) Z := K'
  have N0 := Fr.nil n0
  have K0 : Keep h0 h0 [] := Keep.refl _ _
  refine k_aloadN K X0 d1_0 rfl rfl (q := 1) rfl ?_
  refine k_aloadN K X0 d1_1 rfl rfl (q := 2) rfl ?_
  refine k_arraylength K X0 e0 d1_2 A_a0 (v := (0 : Int32)) rfl (q := 3) rfl ?_
  refine k_iconst K X0 d1_3 (v := (4 : Int32)) rfl (q := 4) rfl ?_
  refine k_aloadN K X0 d1_4 rfl rfl (q := 5) rfl ?_
  refine k_arraylength K X0 e0 d1_5 A_a1 (v := (2 : Int32)) rfl (q := 6) rfl ?_
  refine k_imul K X0 d1_6 (q := 7) rfl ?_
  refine k_nameI (v := (8 : Int32)) (by decide) ?_
  refine k_iadd K X0 d1_7 (q := 8) rfl ?_
  refine k_nameI (v := (8 : Int32)) (by decide) ?_
  refine k_static K X0 e0 d1_8 (wd hw 6 rfl) (wd hw 7 rfl) (wd hw 8 rfl) (wd hw 9 rfl) (by decide) (rm2_0 l Z az hw [] a0 h0 n0 Z0 A_a0) (W := 0) (by decide) (by decide) (by decide) (by decide) rfl pd_1 (argsL := [(.ref a0), (.int (8 : Int32))]) (rest := []) rfl rfl rfl (Nat.le_of_eq rfl) (q := 11) rfl ?_
  rintro _ T213 L214 X215 ⟨b219, ge220, bn221, rfl, N216, K217, f222, f223⟩
  have ne224 : a0 ≠ b219 := Nat.ne_of_lt (Nat.lt_of_lt_of_le (A_a0).lt bn221)
  have ne225 : a1 ≠ b219 := Nat.ne_of_lt (Nat.lt_of_lt_of_le (A_a1).lt bn221)
  have bn226 : h0.size ≤ b219 := Nat.le_trans K0.1 bn221
  have f227 := Ary.keep A_a0 K217 nin0
  have f228 := Ary.keep A_a1 K217 nin0
  have N229 := Fr.app N0 N216
  have K230 := Keep.trans K0 K217 all0
  have Z231 := Nat.le_trans Z0 K217.1
  refine k_astoreN K X215 d1_11 rfl (Ls' := #[.val (.ref a0), .val (.ref a1), .val (.ref b219), .unset]) rfl (q := 12) rfl ?_
  refine k_iconst K X215 d1_12 (v := (0 : Int32)) rfl (q := 13) rfl ?_
  refine k_istoreN K X215 d1_13 rfl (Ls' := #[.val (.ref a0), .val (.ref a1), .val (.ref b219), .val (.int (0 : Int32))]) rfl (q := 14) rfl ?_
  refine k_iloadN K X215 d1_14 rfl (q := 15) rfl ?_
  refine k_aloadN K X215 d1_15 rfl rfl (q := 16) rfl ?_
  refine k_arraylength K X215 rfl d1_16 f228 (v := (2 : Int32)) rfl (q := 17) rfl ?_
  refine k_icmp_ge_n K X215 d1_17 (by decide) (q := 20) rfl ?_
  refine k_aloadN K X215 d1_20 rfl rfl (q := 21) rfl ?_
  refine k_aloadN K X215 d1_21 rfl rfl (q := 22) rfl ?_
  refine k_arraylength K X215 rfl d1_22 f227 (v := (0 : Int32)) rfl (q := 23) rfl ?_
  refine k_iconst K X215 d1_23 (v := (4 : Int32)) rfl (q := 24) rfl ?_
  refine k_iloadN K X215 d1_24 rfl (q := 25) rfl ?_
  refine k_imul K X215 d1_25 (q := 26) rfl ?_
  refine k_nameI (v := (0 : Int32)) (by decide) ?_
  refine k_iadd K X215 d1_26 (q := 27) rfl ?_
  refine k_nameI (v := (0 : Int32)) (by decide) ?_
  refine k_aloadN K X215 d1_27 rfl rfl (q := 28) rfl ?_
  refine k_iloadN K X215 d1_28 rfl (q := 29) rfl ?_
  refine k_iaload K X215 rfl d1_29 f228 (i := 0) (v := (.int s_a1_0)) (by decide) (by decide) rfl (q := 30) rfl ?_
  refine k_static K X215 rfl d1_30 (wd hw 18 rfl) (wd hw 19 rfl) (wd hw 4 rfl) (wd hw 20 rfl) (by decide) (rm4_8_0 l Z az hw [] b219 s_a1_0 (0 : Int32) (0 : Int32) (0 : Int32) (0 : Int32) (0 : Int32) (0 : Int32) (0 : Int32) (0 : Int32) T213.heap n0 Z231 f223 ge220) (W := 0) (by decide) (by decide) (by decide) (by decide) rfl pd_2 (argsL := [(.ref b219), (.int (0 : Int32)), (.int s_a1_0)]) (rest := []) rfl rfl rfl (Nat.le_of_eq rfl) (q := 33) rfl ?_
  rintro _ T232 L233 X234 ⟨rfl, N235, K236, f238⟩
  have f239 := Ary.keep f227 K236 (ninS ne224 nin0)
  have f240 := Ary.keep f228 K236 (ninS ne225 nin0)
  have f241 := Exa.keep f222 K236
  have N242 := Fr.app N229 N235
  have K243 := Keep.trans K230 K236 (allS (Or.inr bn226) all0)
  have Z244 := Nat.le_trans Z231 K236.1
  obtain ⟨v245, hv_v245⟩ : ∃ z : Int32, (nar .byte (i2b (ushrI s_a1_0 (24 : Int32)))) = z := ⟨_, rfl⟩
  rw [hv_v245] at f238
  obtain ⟨v246, hv_v246⟩ : ∃ z : Int32, (nar .byte (i2b (ushrI s_a1_0 (16 : Int32)))) = z := ⟨_, rfl⟩
  rw [hv_v246] at f238
  obtain ⟨v247, hv_v247⟩ : ∃ z : Int32, (nar .byte (i2b (ushrI s_a1_0 (8 : Int32)))) = z := ⟨_, rfl⟩
  rw [hv_v247] at f238
  obtain ⟨v248, hv_v248⟩ : ∃ z : Int32, (nar .byte (i2b s_a1_0)) = z := ⟨_, rfl⟩
  rw [hv_v248] at f238
  refine k_iinc K X234 d1_33 rfl (by decide) (Ls' := #[.val (.ref a0), .val (.ref a1), .val (.ref b219), .val (.int (1 : Int32))]) rfl (q := 36) rfl ?_
  refine k_goto K X234 d1_36 (by decide) (q := 14) rfl ?_
  refine k_iloadN K X234 d1_14 rfl (q := 15) rfl ?_
  refine k_aloadN K X234 d1_15 rfl rfl (q := 16) rfl ?_
  refine k_arraylength K X234 rfl d1_16 f240 (v := (2 : Int32)) rfl (q := 17) rfl ?_
  refine k_icmp_ge_n K X234 d1_17 (by decide) (q := 20) rfl ?_
  refine k_aloadN K X234 d1_20 rfl rfl (q := 21) rfl ?_
  refine k_aloadN K X234 d1_21 rfl rfl (q := 22) rfl ?_
  refine k_arraylength K X234 rfl d1_22 f239 (v := (0 : Int32)) rfl (q := 23) rfl ?_
  refine k_iconst K X234 d1_23 (v := (4 : Int32)) rfl (q := 24) rfl ?_
  refine k_iloadN K X234 d1_24 rfl (q := 25) rfl ?_
  refine k_imul K X234 d1_25 (q := 26) rfl ?_
  refine k_nameI (v := (4 : Int32)) (by decide) ?_
  refine k_iadd K X234 d1_26 (q := 27) rfl ?_
  refine k_nameI (v := (4 : Int32)) (by decide) ?_
  refine k_aloadN K X234 d1_27 rfl rfl (q := 28) rfl ?_
  refine k_iloadN K X234 d1_28 rfl (q := 29) rfl ?_
  refine k_iaload K X234 rfl d1_29 f240 (i := 1) (v := (.int s_a1_1)) (by decide) (by decide) rfl (q := 30) rfl ?_
  refine k_static K X234 rfl d1_30 (wd hw 18 rfl) (wd hw 19 rfl) (wd hw 4 rfl) (wd hw 20 rfl) (by decide) (rm4_8_4 l Z az hw [] b219 s_a1_1 v245 v246 v247 v248 (0 : Int32) (0 : Int32) (0 : Int32) (0 : Int32) T232.heap n0 Z244 f238 ge220) (W := 0) (by decide) (by decide) (by decide) (by decide) rfl pd_2 (argsL := [(.ref b219), (.int (4 : Int32)), (.int s_a1_1)]) (rest := []) rfl rfl rfl (Nat.le_of_eq rfl) (q := 33) rfl ?_
  rintro _ T249 L250 X251 ⟨rfl, N252, K253, f255⟩
  have f256 := Ary.keep f239 K253 (ninS ne224 nin0)
  have f257 := Ary.keep f240 K253 (ninS ne225 nin0)
  have f258 := Exa.keep f241 K253
  have N259 := Fr.app N242 N252
  have K260 := Keep.trans K243 K253 (allS (Or.inr bn226) all0)
  have Z261 := Nat.le_trans Z244 K253.1
  obtain ⟨v262, hv_v262⟩ : ∃ z : Int32, (nar .byte (i2b (ushrI s_a1_1 (24 : Int32)))) = z := ⟨_, rfl⟩
  rw [hv_v262] at f255
  obtain ⟨v263, hv_v263⟩ : ∃ z : Int32, (nar .byte (i2b (ushrI s_a1_1 (16 : Int32)))) = z := ⟨_, rfl⟩
  rw [hv_v263] at f255
  obtain ⟨v264, hv_v264⟩ : ∃ z : Int32, (nar .byte (i2b (ushrI s_a1_1 (8 : Int32)))) = z := ⟨_, rfl⟩
  rw [hv_v264] at f255
  obtain ⟨v265, hv_v265⟩ : ∃ z : Int32, (nar .byte (i2b s_a1_1)) = z := ⟨_, rfl⟩
  rw [hv_v265] at f255
  refine k_iinc K X251 d1_33 rfl (by decide) (Ls' := #[.val (.ref a0), .val (.ref a1), .val (.ref b219), .val (.int (2 : Int32))]) rfl (q := 36) rfl ?_
  refine k_goto K X251 d1_36 (by decide) (q := 14) rfl ?_
  refine k_iloadN K X251 d1_14 rfl (q := 15) rfl ?_
  refine k_aloadN K X251 d1_15 rfl rfl (q := 16) rfl ?_
  refine k_arraylength K X251 rfl d1_16 f257 (v := (2 : Int32)) rfl (q := 17) rfl ?_
  refine k_icmp_ge_y K X251 d1_17 (by decide) (by decide) (q := 39) rfl ?_
  refine k_aloadN K X251 d1_39 rfl rfl (q := 40) rfl ?_
  exact k_reta K X251 rfl d1_40 rfl rfl (Nat.le_trans (by decide) hkc) (Nat.le_trans (by decide) hkn) (hQ _ _ _ ⟨b219, ge220, bn226, rfl, N259, K260, f258, (by rw [(show F_withNumbers_0_new0_0 s_a1_0 s_a1_1 = v245 from by first | (simp only [F_withNumbers_0_new0_0, hv_v245, hv_v246, hv_v247, hv_v248, hv_v262, hv_v263, hv_v264, hv_v265]; done) | (subst hv_v245; subst hv_v246; subst hv_v247; subst hv_v248; subst hv_v262; subst hv_v263; subst hv_v264; subst hv_v265; simp only [F_withNumbers_0_new0_0])), (show F_withNumbers_0_new0_1 s_a1_0 s_a1_1 = v246 from by first | (simp only [F_withNumbers_0_new0_1, hv_v245, hv_v246, hv_v247, hv_v248, hv_v262, hv_v263, hv_v264, hv_v265]; done) | (subst hv_v245; subst hv_v246; subst hv_v247; subst hv_v248; subst hv_v262; subst hv_v263; subst hv_v264; subst hv_v265; simp only [F_withNumbers_0_new0_1])), (show F_withNumbers_0_new0_2 s_a1_0 s_a1_1 = v247 from by first | (simp only [F_withNumbers_0_new0_2, hv_v245, hv_v246, hv_v247, hv_v248, hv_v262, hv_v263, hv_v264, hv_v265]; done) | (subst hv_v245; subst hv_v246; subst hv_v247; subst hv_v248; subst hv_v262; subst hv_v263; subst hv_v264; subst hv_v265; simp only [F_withNumbers_0_new0_2])), (show F_withNumbers_0_new0_3 s_a1_0 s_a1_1 = v248 from by first | (simp only [F_withNumbers_0_new0_3, hv_v245, hv_v246, hv_v247, hv_v248, hv_v262, hv_v263, hv_v264, hv_v265]; done) | (subst hv_v245; subst hv_v246; subst hv_v247; subst hv_v248; subst hv_v262; subst hv_v263; subst hv_v264; subst hv_v265; simp only [F_withNumbers_0_new0_3])), (show F_withNumbers_0_new0_4 s_a1_0 s_a1_1 = v262 from by first | (simp only [F_withNumbers_0_new0_4, hv_v245, hv_v246, hv_v247, hv_v248, hv_v262, hv_v263, hv_v264, hv_v265]; done) | (subst hv_v245; subst hv_v246; subst hv_v247; subst hv_v248; subst hv_v262; subst hv_v263; subst hv_v264; subst hv_v265; simp only [F_withNumbers_0_new0_4])), (show F_withNumbers_0_new0_5 s_a1_0 s_a1_1 = v263 from by first | (simp only [F_withNumbers_0_new0_5, hv_v245, hv_v246, hv_v247, hv_v248, hv_v262, hv_v263, hv_v264, hv_v265]; done) | (subst hv_v245; subst hv_v246; subst hv_v247; subst hv_v248; subst hv_v262; subst hv_v263; subst hv_v264; subst hv_v265; simp only [F_withNumbers_0_new0_5])), (show F_withNumbers_0_new0_6 s_a1_0 s_a1_1 = v264 from by first | (simp only [F_withNumbers_0_new0_6, hv_v245, hv_v246, hv_v247, hv_v248, hv_v262, hv_v263, hv_v264, hv_v265]; done) | (subst hv_v245; subst hv_v246; subst hv_v247; subst hv_v248; subst hv_v262; subst hv_v263; subst hv_v264; subst hv_v265; simp only [F_withNumbers_0_new0_6])), (show F_withNumbers_0_new0_7 s_a1_0 s_a1_1 = v265 from by first | (simp only [F_withNumbers_0_new0_7, hv_v245, hv_v246, hv_v247, hv_v248, hv_v262, hv_v263, hv_v264, hv_v265]; done) | (subst hv_v245; subst hv_v246; subst hv_v247; subst hv_v248; subst hv_v262; subst hv_v263; subst hv_v264; subst hv_v265; simp only [F_withNumbers_0_new0_7]))]; exact f255)⟩)
theorem d5_0 : decode prog_84_method_8_code 0 = .ok (.aload_n 0, 1) := by decide +kernel
theorem d5_1 : decode prog_84_method_8_code 1 = .ok (.iload_n 1, 1) := by decide +kernel
theorem d5_2 : decode prog_84_method_8_code 2 = .ok (.baload, 1) := by decide +kernel
theorem d5_3 : decode prog_84_method_8_code 3 = .ok (.sipush 255, 3) := by decide +kernel
theorem d5_6 : decode prog_84_method_8_code 6 = .ok (.iand, 1) := by decide +kernel
theorem d5_7 : decode prog_84_method_8_code 7 = .ok (.bipush 24, 2) := by decide +kernel
theorem d5_9 : decode prog_84_method_8_code 9 = .ok (.ishl, 1) := by decide +kernel
theorem d5_10 : decode prog_84_method_8_code 10 = .ok (.aload_n 0, 1) := by decide +kernel
theorem d5_11 : decode prog_84_method_8_code 11 = .ok (.iload_n 1, 1) := by decide +kernel
theorem d5_12 : decode prog_84_method_8_code 12 = .ok (.iconst 1, 1) := by decide +kernel
theorem d5_13 : decode prog_84_method_8_code 13 = .ok (.iadd, 1) := by decide +kernel
theorem d5_14 : decode prog_84_method_8_code 14 = .ok (.baload, 1) := by decide +kernel
theorem d5_15 : decode prog_84_method_8_code 15 = .ok (.sipush 255, 3) := by decide +kernel
theorem d5_18 : decode prog_84_method_8_code 18 = .ok (.iand, 1) := by decide +kernel
theorem d5_19 : decode prog_84_method_8_code 19 = .ok (.bipush 16, 2) := by decide +kernel
theorem d5_21 : decode prog_84_method_8_code 21 = .ok (.ishl, 1) := by decide +kernel
theorem d5_22 : decode prog_84_method_8_code 22 = .ok (.ior, 1) := by decide +kernel
theorem d5_23 : decode prog_84_method_8_code 23 = .ok (.aload_n 0, 1) := by decide +kernel
theorem d5_24 : decode prog_84_method_8_code 24 = .ok (.iload_n 1, 1) := by decide +kernel
theorem d5_25 : decode prog_84_method_8_code 25 = .ok (.iconst 2, 1) := by decide +kernel
theorem d5_26 : decode prog_84_method_8_code 26 = .ok (.iadd, 1) := by decide +kernel
theorem d5_27 : decode prog_84_method_8_code 27 = .ok (.baload, 1) := by decide +kernel
theorem d5_28 : decode prog_84_method_8_code 28 = .ok (.sipush 255, 3) := by decide +kernel
theorem d5_31 : decode prog_84_method_8_code 31 = .ok (.iand, 1) := by decide +kernel
theorem d5_32 : decode prog_84_method_8_code 32 = .ok (.bipush 8, 2) := by decide +kernel
theorem d5_34 : decode prog_84_method_8_code 34 = .ok (.ishl, 1) := by decide +kernel
theorem d5_35 : decode prog_84_method_8_code 35 = .ok (.ior, 1) := by decide +kernel
theorem d5_36 : decode prog_84_method_8_code 36 = .ok (.aload_n 0, 1) := by decide +kernel
theorem d5_37 : decode prog_84_method_8_code 37 = .ok (.iload_n 1, 1) := by decide +kernel
theorem d5_38 : decode prog_84_method_8_code 38 = .ok (.iconst 3, 1) := by decide +kernel
theorem d5_39 : decode prog_84_method_8_code 39 = .ok (.iadd, 1) := by decide +kernel
theorem d5_40 : decode prog_84_method_8_code 40 = .ok (.baload, 1) := by decide +kernel
theorem d5_41 : decode prog_84_method_8_code 41 = .ok (.sipush 255, 3) := by decide +kernel
theorem d5_44 : decode prog_84_method_8_code 44 = .ok (.iand, 1) := by decide +kernel
theorem d5_45 : decode prog_84_method_8_code 45 = .ok (.ior, 1) := by decide +kernel
theorem d5_46 : decode prog_84_method_8_code 46 = .ok (.ireturn, 1) := by decide +kernel
theorem ef_5_8_0 (a0 : Addr) : ∀ m : MethodId, entryFrame m #[(.ref a0), (.int (0 : Int32))] 2 = mkF m 0 #[.val (.ref a0), .val (.int (0 : Int32))] [] := by intro m; first | (simp [entryFrame, mkF, argsToLocals, Value.category]; done) | rfl
def F_readNumber_8_0 (s_a0_0 : Int32) (s_a0_1 : Int32) (s_a0_2 : Int32) (s_a0_3 : Int32) (s_a0_4 : Int32) (s_a0_5 : Int32) (s_a0_6 : Int32) (s_a0_7 : Int32) : Int32 :=
  ((((shlI (s_a0_0 &&& (255 : Int32)) (24 : Int32)) ||| (shlI (s_a0_1 &&& (255 : Int32)) (16 : Int32))) ||| (shlI (s_a0_2 &&& (255 : Int32)) (8 : Int32))) ||| (s_a0_3 &&& (255 : Int32)))
set_option maxRecDepth 65536 in
set_option maxHeartbeats 40000000 in
theorem rm5_8_0 (l : Launch) (Z : State) (az : Array Value) (hw : ∀ d ∈ tables_1, d.before az Z = true) (ws : List Jvm.Cond) (a0 : Addr) (s_a0_0 : Int32) (s_a0_1 : Int32) (s_a0_2 : Int32) (s_a0_3 : Int32) (s_a0_4 : Int32) (s_a0_5 : Int32) (s_a0_6 : Int32) (s_a0_7 : Int32) (h0 : Heap) (A_a0 : Ary Z h0 a0 .byte 8 (fun i => Value.int (List.getD [s_a0_0, s_a0_1, s_a0_2, s_a0_3, s_a0_4, s_a0_5, s_a0_6, s_a0_7] i 0))) :
    Met l (⟨"com/example/muster/muster/search/SortKeys", "readNumber", "([BI)I"⟩ : MethodName) prog_84_method_8_code 2 (some .int) ws ({ frames := 0, cells := 0, slots := 0, locals := 0 } : Room) Z #[(.ref a0), (.int (0 : Int32))] h0 (fun v h' L => v = some (Value.int (F_readNumber_8_0 s_a0_0 s_a0_1 s_a0_2 s_a0_3 s_a0_4 s_a0_5 s_a0_6 s_a0_7)) ∧ h' = h0 ∧ L = []) := by
  refine enter (plainFor_of_name pn_1) (ef_5_8_0 a0) ?_
  intro p e s m below meth c T0 kc kn Q hkc hkn hQ K' X0 e0
  have K : Fx p s m meth c prog_84_method_8_code 2 "com/example/muster/muster/search/SortKeys" "readNumber" (some .int) Z := K'
  refine k_aloadN K X0 d5_0 rfl rfl (q := 1) rfl ?_
  refine k_iloadN K X0 d5_1 rfl (q := 2) rfl ?_
  refine k_baload K X0 e0 d5_2 A_a0 (i := 0) (v := (.int s_a0_0)) (by decide) (by decide) rfl (q := 3) rfl ?_
  refine k_sipush K X0 d5_3 (v := (255 : Int32)) rfl (q := 6) rfl ?_
  refine k_iand K X0 d5_6 (q := 7) rfl ?_
  refine k_bipush K X0 d5_7 (v := (24 : Int32)) rfl (q := 9) rfl ?_
  refine k_ishl K X0 d5_9 (q := 10) rfl ?_
  refine k_aloadN K X0 d5_10 rfl rfl (q := 11) rfl ?_
  refine k_iloadN K X0 d5_11 rfl (q := 12) rfl ?_
  refine k_iconst K X0 d5_12 (v := (1 : Int32)) rfl (q := 13) rfl ?_
  refine k_iadd K X0 d5_13 (q := 14) rfl ?_
  refine k_nameI (v := (1 : Int32)) (by decide) ?_
  refine k_baload K X0 e0 d5_14 A_a0 (i := 1) (v := (.int s_a0_1)) (by decide) (by decide) rfl (q := 15) rfl ?_
  refine k_sipush K X0 d5_15 (v := (255 : Int32)) rfl (q := 18) rfl ?_
  refine k_iand K X0 d5_18 (q := 19) rfl ?_
  refine k_bipush K X0 d5_19 (v := (16 : Int32)) rfl (q := 21) rfl ?_
  refine k_ishl K X0 d5_21 (q := 22) rfl ?_
  refine k_ior K X0 d5_22 (q := 23) rfl ?_
  refine k_aloadN K X0 d5_23 rfl rfl (q := 24) rfl ?_
  refine k_iloadN K X0 d5_24 rfl (q := 25) rfl ?_
  refine k_iconst K X0 d5_25 (v := (2 : Int32)) rfl (q := 26) rfl ?_
  refine k_iadd K X0 d5_26 (q := 27) rfl ?_
  refine k_nameI (v := (2 : Int32)) (by decide) ?_
  refine k_baload K X0 e0 d5_27 A_a0 (i := 2) (v := (.int s_a0_2)) (by decide) (by decide) rfl (q := 28) rfl ?_
  refine k_sipush K X0 d5_28 (v := (255 : Int32)) rfl (q := 31) rfl ?_
  refine k_iand K X0 d5_31 (q := 32) rfl ?_
  refine k_bipush K X0 d5_32 (v := (8 : Int32)) rfl (q := 34) rfl ?_
  refine k_ishl K X0 d5_34 (q := 35) rfl ?_
  refine k_ior K X0 d5_35 (q := 36) rfl ?_
  refine k_aloadN K X0 d5_36 rfl rfl (q := 37) rfl ?_
  refine k_iloadN K X0 d5_37 rfl (q := 38) rfl ?_
  refine k_iconst K X0 d5_38 (v := (3 : Int32)) rfl (q := 39) rfl ?_
  refine k_iadd K X0 d5_39 (q := 40) rfl ?_
  refine k_nameI (v := (3 : Int32)) (by decide) ?_
  refine k_baload K X0 e0 d5_40 A_a0 (i := 3) (v := (.int s_a0_3)) (by decide) (by decide) rfl (q := 41) rfl ?_
  refine k_sipush K X0 d5_41 (v := (255 : Int32)) rfl (q := 44) rfl ?_
  refine k_iand K X0 d5_44 (q := 45) rfl ?_
  refine k_ior K X0 d5_45 (q := 46) rfl ?_
  exact k_reti K X0 e0 d5_46 (Nat.le_trans (by decide) hkc) (Nat.le_trans (by decide) hkn) (hQ _ _ _ ⟨(by show some (Value.int ((((shlI (s_a0_0 &&& (255 : Int32)) (24 : Int32)) ||| (shlI (s_a0_1 &&& (255 : Int32)) (16 : Int32))) ||| (shlI (s_a0_2 &&& (255 : Int32)) (8 : Int32))) ||| (s_a0_3 &&& (255 : Int32)))) = some (Value.int (F_readNumber_8_0 s_a0_0 s_a0_1 s_a0_2 s_a0_3 s_a0_4 s_a0_5 s_a0_6 s_a0_7)); first | (simp only [F_readNumber_8_0]; done) | (simp only [F_readNumber_8_0])), rfl, rfl⟩)
theorem ef_5_8_4 (a0 : Addr) : ∀ m : MethodId, entryFrame m #[(.ref a0), (.int (4 : Int32))] 2 = mkF m 0 #[.val (.ref a0), .val (.int (4 : Int32))] [] := by intro m; first | (simp [entryFrame, mkF, argsToLocals, Value.category]; done) | rfl
def F_readNumber_8_4 (s_a0_0 : Int32) (s_a0_1 : Int32) (s_a0_2 : Int32) (s_a0_3 : Int32) (s_a0_4 : Int32) (s_a0_5 : Int32) (s_a0_6 : Int32) (s_a0_7 : Int32) : Int32 :=
  ((((shlI (s_a0_4 &&& (255 : Int32)) (24 : Int32)) ||| (shlI (s_a0_5 &&& (255 : Int32)) (16 : Int32))) ||| (shlI (s_a0_6 &&& (255 : Int32)) (8 : Int32))) ||| (s_a0_7 &&& (255 : Int32)))
set_option maxRecDepth 65536 in
set_option maxHeartbeats 40000000 in
theorem rm5_8_4 (l : Launch) (Z : State) (az : Array Value) (hw : ∀ d ∈ tables_1, d.before az Z = true) (ws : List Jvm.Cond) (a0 : Addr) (s_a0_0 : Int32) (s_a0_1 : Int32) (s_a0_2 : Int32) (s_a0_3 : Int32) (s_a0_4 : Int32) (s_a0_5 : Int32) (s_a0_6 : Int32) (s_a0_7 : Int32) (h0 : Heap) (A_a0 : Ary Z h0 a0 .byte 8 (fun i => Value.int (List.getD [s_a0_0, s_a0_1, s_a0_2, s_a0_3, s_a0_4, s_a0_5, s_a0_6, s_a0_7] i 0))) :
    Met l (⟨"com/example/muster/muster/search/SortKeys", "readNumber", "([BI)I"⟩ : MethodName) prog_84_method_8_code 2 (some .int) ws ({ frames := 0, cells := 0, slots := 0, locals := 0 } : Room) Z #[(.ref a0), (.int (4 : Int32))] h0 (fun v h' L => v = some (Value.int (F_readNumber_8_4 s_a0_0 s_a0_1 s_a0_2 s_a0_3 s_a0_4 s_a0_5 s_a0_6 s_a0_7)) ∧ h' = h0 ∧ L = []) := by
  refine enter (plainFor_of_name pn_1) (ef_5_8_4 a0) ?_
  intro p e s m below meth c T0 kc kn Q hkc hkn hQ K' X0 e0
  have K : Fx p s m meth c prog_84_method_8_code 2 "com/example/muster/muster/search/SortKeys" "readNumber" (some .int) Z := K'
  refine k_aloadN K X0 d5_0 rfl rfl (q := 1) rfl ?_
  refine k_iloadN K X0 d5_1 rfl (q := 2) rfl ?_
  refine k_baload K X0 e0 d5_2 A_a0 (i := 4) (v := (.int s_a0_4)) (by decide) (by decide) rfl (q := 3) rfl ?_
  refine k_sipush K X0 d5_3 (v := (255 : Int32)) rfl (q := 6) rfl ?_
  refine k_iand K X0 d5_6 (q := 7) rfl ?_
  refine k_bipush K X0 d5_7 (v := (24 : Int32)) rfl (q := 9) rfl ?_
  refine k_ishl K X0 d5_9 (q := 10) rfl ?_
  refine k_aloadN K X0 d5_10 rfl rfl (q := 11) rfl ?_
  refine k_iloadN K X0 d5_11 rfl (q := 12) rfl ?_
  refine k_iconst K X0 d5_12 (v := (1 : Int32)) rfl (q := 13) rfl ?_
  refine k_iadd K X0 d5_13 (q := 14) rfl ?_
  refine k_nameI (v := (5 : Int32)) (by decide) ?_
  refine k_baload K X0 e0 d5_14 A_a0 (i := 5) (v := (.int s_a0_5)) (by decide) (by decide) rfl (q := 15) rfl ?_
  refine k_sipush K X0 d5_15 (v := (255 : Int32)) rfl (q := 18) rfl ?_
  refine k_iand K X0 d5_18 (q := 19) rfl ?_
  refine k_bipush K X0 d5_19 (v := (16 : Int32)) rfl (q := 21) rfl ?_
  refine k_ishl K X0 d5_21 (q := 22) rfl ?_
  refine k_ior K X0 d5_22 (q := 23) rfl ?_
  refine k_aloadN K X0 d5_23 rfl rfl (q := 24) rfl ?_
  refine k_iloadN K X0 d5_24 rfl (q := 25) rfl ?_
  refine k_iconst K X0 d5_25 (v := (2 : Int32)) rfl (q := 26) rfl ?_
  refine k_iadd K X0 d5_26 (q := 27) rfl ?_
  refine k_nameI (v := (6 : Int32)) (by decide) ?_
  refine k_baload K X0 e0 d5_27 A_a0 (i := 6) (v := (.int s_a0_6)) (by decide) (by decide) rfl (q := 28) rfl ?_
  refine k_sipush K X0 d5_28 (v := (255 : Int32)) rfl (q := 31) rfl ?_
  refine k_iand K X0 d5_31 (q := 32) rfl ?_
  refine k_bipush K X0 d5_32 (v := (8 : Int32)) rfl (q := 34) rfl ?_
  refine k_ishl K X0 d5_34 (q := 35) rfl ?_
  refine k_ior K X0 d5_35 (q := 36) rfl ?_
  refine k_aloadN K X0 d5_36 rfl rfl (q := 37) rfl ?_
  refine k_iloadN K X0 d5_37 rfl (q := 38) rfl ?_
  refine k_iconst K X0 d5_38 (v := (3 : Int32)) rfl (q := 39) rfl ?_
  refine k_iadd K X0 d5_39 (q := 40) rfl ?_
  refine k_nameI (v := (7 : Int32)) (by decide) ?_
  refine k_baload K X0 e0 d5_40 A_a0 (i := 7) (v := (.int s_a0_7)) (by decide) (by decide) rfl (q := 41) rfl ?_
  refine k_sipush K X0 d5_41 (v := (255 : Int32)) rfl (q := 44) rfl ?_
  refine k_iand K X0 d5_44 (q := 45) rfl ?_
  refine k_ior K X0 d5_45 (q := 46) rfl ?_
  exact k_reti K X0 e0 d5_46 (Nat.le_trans (by decide) hkc) (Nat.le_trans (by decide) hkn) (hQ _ _ _ ⟨(by show some (Value.int ((((shlI (s_a0_4 &&& (255 : Int32)) (24 : Int32)) ||| (shlI (s_a0_5 &&& (255 : Int32)) (16 : Int32))) ||| (shlI (s_a0_6 &&& (255 : Int32)) (8 : Int32))) ||| (s_a0_7 &&& (255 : Int32)))) = some (Value.int (F_readNumber_8_4 s_a0_0 s_a0_1 s_a0_2 s_a0_3 s_a0_4 s_a0_5 s_a0_6 s_a0_7)); first | (simp only [F_readNumber_8_4]; done) | (simp only [F_readNumber_8_4])), rfl, rfl⟩)
theorem ef_4_9_1 (a0 : Addr) (p2 : Int32) : ∀ m : MethodId, entryFrame m #[(.ref a0), (.int (1 : Int32)), (.int p2)] 3 = mkF m 0 #[.val (.ref a0), .val (.int (1 : Int32)), .val (.int p2)] [] := by intro m; first | (simp [entryFrame, mkF, argsToLocals, Value.category]; done) | rfl
set_option maxRecDepth 65536 in
set_option maxHeartbeats 40000000 in
theorem rm4_9_1 (l : Launch) (Z : State) (az : Array Value) (hw : ∀ d ∈ tables_1, d.before az Z = true) (ws : List Jvm.Cond) (a0 : Addr) (p2 : Int32) (s_a0_0 : Int32) (s_a0_1 : Int32) (s_a0_2 : Int32) (s_a0_3 : Int32) (s_a0_4 : Int32) (s_a0_5 : Int32) (s_a0_6 : Int32) (s_a0_7 : Int32) (s_a0_8 : Int32) (h0 : Heap) (n0 : Nat) (Z0 : n0 ≤ h0.size) (A_a0 : Ary Z h0 a0 .byte 9 (fun i => Value.int (List.getD [s_a0_0, s_a0_1, s_a0_2, s_a0_3, s_a0_4, s_a0_5, s_a0_6, s_a0_7, s_a0_8] i 0))) (ge_a0 : n0 ≤ a0) :
    Met l (⟨"com/example/muster/muster/search/SortKeys", "writeNumber", "([BII)V"⟩ : MethodName) prog_84_method_9_code 3 none ws ({ frames := 0, cells := 0, slots := 0, locals := 0 } : Room) Z #[(.ref a0), (.int (1 : Int32)), (.int p2)] h0 (fun v h' L => v = none ∧ Fr n0 L ∧ Keep h0 h' [a0] ∧ Ary Z h' a0 .byte 9 (fun i => Value.int (List.getD [s_a0_0, (nar .byte (i2b (ushrI p2 (24 : Int32)))), (nar .byte (i2b (ushrI p2 (16 : Int32)))), (nar .byte (i2b (ushrI p2 (8 : Int32)))), (nar .byte (i2b p2)), s_a0_5, s_a0_6, s_a0_7, s_a0_8] i 0))) := by
  refine enter (plainFor_of_name pn_1) (ef_4_9_1 a0 p2) ?_
  intro p e s m below meth c T0 kc kn Q hkc hkn hQ K' X0 e0
  have K : Fx p s m meth c prog_84_method_9_code 3 "com/example/muster/muster/search/SortKeys" "writeNumber" none Z := K'
  have N0 := Fr.nil n0
  have K0 : Keep h0 h0 [a0] := Keep.refl _ _
  refine k_aloadN K X0 d4_0 rfl rfl (q := 1) rfl ?_
  refine k_iloadN K X0 d4_1 rfl (q := 2) rfl ?_
  refine k_iloadN K X0 d4_2 rfl (q := 3) rfl ?_
  refine k_bipush K X0 d4_3 (v := (24 : Int32)) rfl (q := 5) rfl ?_
  refine k_iushr K X0 d4_5 (q := 6) rfl ?_
  refine k_i2b K X0 d4_6 (q := 7) rfl ?_
  refine k_bastore K X0 e0 d4_7 A_a0 (i := 1) (by decide) (by decide) (q := 8) rfl ?_
  intro T266 h267 X268 e269 W270 A271
  have f272 : Ary Z h267 a0 .byte 9 (fun i => Value.int (List.getD [s_a0_0, (nar .byte (i2b (ushrI p2 (24 : Int32)))), s_a0_2, s_a0_3, s_a0_4, s_a0_5, s_a0_6, s_a0_7, s_a0_8] i 0)) := Ary.eqv A271 (fun i _ => setD Value.int [s_a0_0, s_a0_1, s_a0_2, s_a0_3, s_a0_4, s_a0_5, s_a0_6, s_a0_7, s_a0_8] 1 (nar .byte (i2b (ushrI p2 (24 : Int32)))) 0 (Nat.le_of_ble_eq_true rfl) i)
  have N273 := Fr.snoc X268 N0 ge_a0
  have K274 := Keep.wr K0 W270 (Or.inl (List.mem_of_getElem? (i := 0) rfl))
  have Z275 := Nat.le_trans Z0 (Nat.le_of_eq (Wr.size W270).symm)
  refine k_aloadN K X268 d4_8 rfl rfl (q := 9) rfl ?_
  refine k_iloadN K X268 d4_9 rfl (q := 10) rfl ?_
  refine k_iconst K X268 d4_10 (v := (1 : Int32)) rfl (q := 11) rfl ?_
  refine k_iadd K X268 d4_11 (q := 12) rfl ?_
  refine k_nameI (v := (2 : Int32)) (by decide) ?_
  refine k_iloadN K X268 d4_12 rfl (q := 13) rfl ?_
  refine k_bipush K X268 d4_13 (v := (16 : Int32)) rfl (q := 15) rfl ?_
  refine k_iushr K X268 d4_15 (q := 16) rfl ?_
  refine k_i2b K X268 d4_16 (q := 17) rfl ?_
  refine k_bastore K X268 e269 d4_17 f272 (i := 2) (by decide) (by decide) (q := 18) rfl ?_
  intro T276 h277 X278 e279 W280 A281
  have f282 : Ary Z h277 a0 .byte 9 (fun i => Value.int (List.getD [s_a0_0, (nar .byte (i2b (ushrI p2 (24 : Int32)))), (nar .byte (i2b (ushrI p2 (16 : Int32)))), s_a0_3, s_a0_4, s_a0_5, s_a0_6, s_a0_7, s_a0_8] i 0)) := Ary.eqv A281 (fun i _ => setD Value.int [s_a0_0, (nar .byte (i2b (ushrI p2 (24 : Int32)))), s_a0_2, s_a0_3, s_a0_4, s_a0_5, s_a0_6, s_a0_7, s_a0_8] 2 (nar .byte (i2b (ushrI p2 (16 : Int32)))) 0 (Nat.le_of_ble_eq_true rfl) i)
  have N283 := Fr.snoc X278 N273 ge_a0
  have K284 := Keep.wr K274 W280 (Or.inl (List.mem_of_getElem? (i := 0) rfl))
  have Z285 := Nat.le_trans Z275 (Nat.le_of_eq (Wr.size W280).symm)
  refine k_aloadN K X278 d4_18 rfl rfl (q := 19) rfl ?_
  refine k_iloadN K X278 d4_19 rfl (q := 20) rfl ?_
  refine k_iconst K X278 d4_20 (v := (2 : Int32)) rfl (q := 21) rfl ?_
  refine k_iadd K X278 d4_21 (q := 22) rfl ?_
  refine k_nameI (v := (3 : Int32)) (by decide) ?_
  refine k_iloadN K X278 d4_22 rfl (q := 23) rfl ?_
  refine k_bipush K X278 d4_23 (v := (8 : Int32)) rfl (q := 25) rfl ?_
  refine k_iushr K X278 d4_25 (q := 26) rfl ?_
  refine k_i2b K X278 d4_26 (q := 27) rfl ?_
  refine k_bastore K X278 e279 d4_27 f282 (i := 3) (by decide) (by decide) (q := 28) rfl ?_
  intro T286 h287 X288 e289 W290 A291
  have f292 : Ary Z h287 a0 .byte 9 (fun i => Value.int (List.getD [s_a0_0, (nar .byte (i2b (ushrI p2 (24 : Int32)))), (nar .byte (i2b (ushrI p2 (16 : Int32)))), (nar .byte (i2b (ushrI p2 (8 : Int32)))), s_a0_4, s_a0_5, s_a0_6, s_a0_7, s_a0_8] i 0)) := Ary.eqv A291 (fun i _ => setD Value.int [s_a0_0, (nar .byte (i2b (ushrI p2 (24 : Int32)))), (nar .byte (i2b (ushrI p2 (16 : Int32)))), s_a0_3, s_a0_4, s_a0_5, s_a0_6, s_a0_7, s_a0_8] 3 (nar .byte (i2b (ushrI p2 (8 : Int32)))) 0 (Nat.le_of_ble_eq_true rfl) i)
  have N293 := Fr.snoc X288 N283 ge_a0
  have K294 := Keep.wr K284 W290 (Or.inl (List.mem_of_getElem? (i := 0) rfl))
  have Z295 := Nat.le_trans Z285 (Nat.le_of_eq (Wr.size W290).symm)
  refine k_aloadN K X288 d4_28 rfl rfl (q := 29) rfl ?_
  refine k_iloadN K X288 d4_29 rfl (q := 30) rfl ?_
  refine k_iconst K X288 d4_30 (v := (3 : Int32)) rfl (q := 31) rfl ?_
  refine k_iadd K X288 d4_31 (q := 32) rfl ?_
  refine k_nameI (v := (4 : Int32)) (by decide) ?_
  refine k_iloadN K X288 d4_32 rfl (q := 33) rfl ?_
  refine k_i2b K X288 d4_33 (q := 34) rfl ?_
  refine k_bastore K X288 e289 d4_34 f292 (i := 4) (by decide) (by decide) (q := 35) rfl ?_
  intro T296 h297 X298 e299 W300 A301
  have f302 : Ary Z h297 a0 .byte 9 (fun i => Value.int (List.getD [s_a0_0, (nar .byte (i2b (ushrI p2 (24 : Int32)))), (nar .byte (i2b (ushrI p2 (16 : Int32)))), (nar .byte (i2b (ushrI p2 (8 : Int32)))), (nar .byte (i2b p2)), s_a0_5, s_a0_6, s_a0_7, s_a0_8] i 0)) := Ary.eqv A301 (fun i _ => setD Value.int [s_a0_0, (nar .byte (i2b (ushrI p2 (24 : Int32)))), (nar .byte (i2b (ushrI p2 (16 : Int32)))), (nar .byte (i2b (ushrI p2 (8 : Int32)))), s_a0_4, s_a0_5, s_a0_6, s_a0_7, s_a0_8] 4 (nar .byte (i2b p2)) 0 (Nat.le_of_ble_eq_true rfl) i)
  have N303 := Fr.snoc X298 N293 ge_a0
  have K304 := Keep.wr K294 W300 (Or.inl (List.mem_of_getElem? (i := 0) rfl))
  have Z305 := Nat.le_trans Z295 (Nat.le_of_eq (Wr.size W300).symm)
  exact k_retv K X298 e299 d4_35 (Nat.le_trans (by decide) hkc) (Nat.le_trans (by decide) hkn) (hQ _ _ _ ⟨rfl, N303, K304, f302⟩)
theorem ef_4_9_5 (a0 : Addr) (p2 : Int32) : ∀ m : MethodId, entryFrame m #[(.ref a0), (.int (5 : Int32)), (.int p2)] 3 = mkF m 0 #[.val (.ref a0), .val (.int (5 : Int32)), .val (.int p2)] [] := by intro m; first | (simp [entryFrame, mkF, argsToLocals, Value.category]; done) | rfl
set_option maxRecDepth 65536 in
set_option maxHeartbeats 40000000 in
theorem rm4_9_5 (l : Launch) (Z : State) (az : Array Value) (hw : ∀ d ∈ tables_1, d.before az Z = true) (ws : List Jvm.Cond) (a0 : Addr) (p2 : Int32) (s_a0_0 : Int32) (s_a0_1 : Int32) (s_a0_2 : Int32) (s_a0_3 : Int32) (s_a0_4 : Int32) (s_a0_5 : Int32) (s_a0_6 : Int32) (s_a0_7 : Int32) (s_a0_8 : Int32) (h0 : Heap) (n0 : Nat) (Z0 : n0 ≤ h0.size) (A_a0 : Ary Z h0 a0 .byte 9 (fun i => Value.int (List.getD [s_a0_0, s_a0_1, s_a0_2, s_a0_3, s_a0_4, s_a0_5, s_a0_6, s_a0_7, s_a0_8] i 0))) (ge_a0 : n0 ≤ a0) :
    Met l (⟨"com/example/muster/muster/search/SortKeys", "writeNumber", "([BII)V"⟩ : MethodName) prog_84_method_9_code 3 none ws ({ frames := 0, cells := 0, slots := 0, locals := 0 } : Room) Z #[(.ref a0), (.int (5 : Int32)), (.int p2)] h0 (fun v h' L => v = none ∧ Fr n0 L ∧ Keep h0 h' [a0] ∧ Ary Z h' a0 .byte 9 (fun i => Value.int (List.getD [s_a0_0, s_a0_1, s_a0_2, s_a0_3, s_a0_4, (nar .byte (i2b (ushrI p2 (24 : Int32)))), (nar .byte (i2b (ushrI p2 (16 : Int32)))), (nar .byte (i2b (ushrI p2 (8 : Int32)))), (nar .byte (i2b p2))] i 0))) := by
  refine enter (plainFor_of_name pn_1) (ef_4_9_5 a0 p2) ?_
  intro p e s m below meth c T0 kc kn Q hkc hkn hQ K' X0 e0
  have K : Fx p s m meth c prog_84_method_9_code 3 "com/example/muster/muster/search/SortKeys" "writeNumber" none Z := K'
  have N0 := Fr.nil n0
  have K0 : Keep h0 h0 [a0] := Keep.refl _ _
  refine k_aloadN K X0 d4_0 rfl rfl (q := 1) rfl ?_
  refine k_iloadN K X0 d4_1 rfl (q := 2) rfl ?_
  refine k_iloadN K X0 d4_2 rfl (q := 3) rfl ?_
  refine k_bipush K X0 d4_3 (v := (24 : Int32)) rfl (q := 5) rfl ?_
  refine k_iushr K X0 d4_5 (q := 6) rfl ?_
  refine k_i2b K X0 d4_6 (q := 7) rfl ?_
  refine k_bastore K X0 e0 d4_7 A_a0 (i := 5) (by decide) (by decide) (q := 8) rfl ?_
  intro T306 h307 X308 e309 W310 A311
  have f312 : Ary Z h307 a0 .byte 9 (fun i => Value.int (List.getD [s_a0_0, s_a0_1, s_a0_2, s_a0_3, s_a0_4, (nar .byte (i2b (ushrI p2 (24 : Int32)))), s_a0_6, s_a0_7, s_a0_8] i 0)) := Ary.eqv A311 (fun i _ => setD Value.int [s_a0_0, s_a0_1, s_a0_2, s_a0_3, s_a0_4, s_a0_5, s_a0_6, s_a0_7, s_a0_8] 5 (nar .byte (i2b (ushrI p2 (24 : Int32)))) 0 (Nat.le_of_ble_eq_true rfl) i)
  have N313 := Fr.snoc X308 N0 ge_a0
  have K314 := Keep.wr K0 W310 (Or.inl (List.mem_of_getElem? (i := 0) rfl))
  have Z315 := Nat.le_trans Z0 (Nat.le_of_eq (Wr.size W310).symm)
  refine k_aloadN K X308 d4_8 rfl rfl (q := 9) rfl ?_
  refine k_iloadN K X308 d4_9 rfl (q := 10) rfl ?_
  refine k_iconst K X308 d4_10 (v := (1 : Int32)) rfl (q := 11) rfl ?_
  refine k_iadd K X308 d4_11 (q := 12) rfl ?_
  refine k_nameI (v := (6 : Int32)) (by decide) ?_
  refine k_iloadN K X308 d4_12 rfl (q := 13) rfl ?_
  refine k_bipush K X308 d4_13 (v := (16 : Int32)) rfl (q := 15) rfl ?_
  refine k_iushr K X308 d4_15 (q := 16) rfl ?_
  refine k_i2b K X308 d4_16 (q := 17) rfl ?_
  refine k_bastore K X308 e309 d4_17 f312 (i := 6) (by decide) (by decide) (q := 18) rfl ?_
  intro T316 h317 X318 e319 W320 A321
  have f322 : Ary Z h317 a0 .byte 9 (fun i => Value.int (List.getD [s_a0_0, s_a0_1, s_a0_2, s_a0_3, s_a0_4, (nar .byte (i2b (ushrI p2 (24 : Int32)))), (nar .byte (i2b (ushrI p2 (16 : Int32)))), s_a0_7, s_a0_8] i 0)) := Ary.eqv A321 (fun i _ => setD Value.int [s_a0_0, s_a0_1, s_a0_2, s_a0_3, s_a0_4, (nar .byte (i2b (ushrI p2 (24 : Int32)))), s_a0_6, s_a0_7, s_a0_8] 6 (nar .byte (i2b (ushrI p2 (16 : Int32)))) 0 (Nat.le_of_ble_eq_true rfl) i)
  have N323 := Fr.snoc X318 N313 ge_a0
  have K324 := Keep.wr K314 W320 (Or.inl (List.mem_of_getElem? (i := 0) rfl))
  have Z325 := Nat.le_trans Z315 (Nat.le_of_eq (Wr.size W320).symm)
  refine k_aloadN K X318 d4_18 rfl rfl (q := 19) rfl ?_
  refine k_iloadN K X318 d4_19 rfl (q := 20) rfl ?_
  refine k_iconst K X318 d4_20 (v := (2 : Int32)) rfl (q := 21) rfl ?_
  refine k_iadd K X318 d4_21 (q := 22) rfl ?_
  refine k_nameI (v := (7 : Int32)) (by decide) ?_
  refine k_iloadN K X318 d4_22 rfl (q := 23) rfl ?_
  refine k_bipush K X318 d4_23 (v := (8 : Int32)) rfl (q := 25) rfl ?_
  refine k_iushr K X318 d4_25 (q := 26) rfl ?_
  refine k_i2b K X318 d4_26 (q := 27) rfl ?_
  refine k_bastore K X318 e319 d4_27 f322 (i := 7) (by decide) (by decide) (q := 28) rfl ?_
  intro T326 h327 X328 e329 W330 A331
  have f332 : Ary Z h327 a0 .byte 9 (fun i => Value.int (List.getD [s_a0_0, s_a0_1, s_a0_2, s_a0_3, s_a0_4, (nar .byte (i2b (ushrI p2 (24 : Int32)))), (nar .byte (i2b (ushrI p2 (16 : Int32)))), (nar .byte (i2b (ushrI p2 (8 : Int32)))), s_a0_8] i 0)) := Ary.eqv A331 (fun i _ => setD Value.int [s_a0_0, s_a0_1, s_a0_2, s_a0_3, s_a0_4, (nar .byte (i2b (ushrI p2 (24 : Int32)))), (nar .byte (i2b (ushrI p2 (16 : Int32)))), s_a0_7, s_a0_8] 7 (nar .byte (i2b (ushrI p2 (8 : Int32)))) 0 (Nat.le_of_ble_eq_true rfl) i)
  have N333 := Fr.snoc X328 N323 ge_a0
  have K334 := Keep.wr K324 W330 (Or.inl (List.mem_of_getElem? (i := 0) rfl))
  have Z335 := Nat.le_trans Z325 (Nat.le_of_eq (Wr.size W330).symm)
  refine k_aloadN K X328 d4_28 rfl rfl (q := 29) rfl ?_
  refine k_iloadN K X328 d4_29 rfl (q := 30) rfl ?_
  refine k_iconst K X328 d4_30 (v := (3 : Int32)) rfl (q := 31) rfl ?_
  refine k_iadd K X328 d4_31 (q := 32) rfl ?_
  refine k_nameI (v := (8 : Int32)) (by decide) ?_
  refine k_iloadN K X328 d4_32 rfl (q := 33) rfl ?_
  refine k_i2b K X328 d4_33 (q := 34) rfl ?_
  refine k_bastore K X328 e329 d4_34 f332 (i := 8) (by decide) (by decide) (q := 35) rfl ?_
  intro T336 h337 X338 e339 W340 A341
  have f342 : Ary Z h337 a0 .byte 9 (fun i => Value.int (List.getD [s_a0_0, s_a0_1, s_a0_2, s_a0_3, s_a0_4, (nar .byte (i2b (ushrI p2 (24 : Int32)))), (nar .byte (i2b (ushrI p2 (16 : Int32)))), (nar .byte (i2b (ushrI p2 (8 : Int32)))), (nar .byte (i2b p2))] i 0)) := Ary.eqv A341 (fun i _ => setD Value.int [s_a0_0, s_a0_1, s_a0_2, s_a0_3, s_a0_4, (nar .byte (i2b (ushrI p2 (24 : Int32)))), (nar .byte (i2b (ushrI p2 (16 : Int32)))), (nar .byte (i2b (ushrI p2 (8 : Int32)))), s_a0_8] 8 (nar .byte (i2b p2)) 0 (Nat.le_of_ble_eq_true rfl) i)
  have N343 := Fr.snoc X338 N333 ge_a0
  have K344 := Keep.wr K334 W340 (Or.inl (List.mem_of_getElem? (i := 0) rfl))
  have Z345 := Nat.le_trans Z335 (Nat.le_of_eq (Wr.size W340).symm)
  exact k_retv K X338 e339 d4_35 (Nat.le_trans (by decide) hkc) (Nat.le_trans (by decide) hkn) (hQ _ _ _ ⟨rfl, N343, K344, f342⟩)
theorem ef_1_1 (a0 : Addr) (a1 : Addr) : ∀ m : MethodId, entryFrame m #[(.ref a0), (.ref a1)] 4 = mkF m 0 #[.val (.ref a0), .val (.ref a1), .unset, .unset] [] := by intro m; first | (simp [entryFrame, mkF, argsToLocals, Value.category]; done) | rfl
def F_withNumbers_1_new0_0 (s_a0_0 : Int32) (s_a1_0 : Int32) (s_a1_1 : Int32) : Int32 :=
  let v378 : Int32 := (nar .byte (i2b (ushrI s_a1_0 (24 : Int32))))
  let v379 : Int32 := (nar .byte (i2b (ushrI s_a1_0 (16 : Int32))))
  let v380 : Int32 := (nar .byte (i2b (ushrI s_a1_0 (8 : Int32))))
  let v381 : Int32 := (nar .byte (i2b s_a1_0))
  let v395 : Int32 := (nar .byte (i2b (ushrI s_a1_1 (24 : Int32))))
  let v396 : Int32 := (nar .byte (i2b (ushrI s_a1_1 (16 : Int32))))
  let v397 : Int32 := (nar .byte (i2b (ushrI s_a1_1 (8 : Int32))))
  let v398 : Int32 := (nar .byte (i2b s_a1_1))
  s_a0_0
def F_withNumbers_1_new0_1 (s_a0_0 : Int32) (s_a1_0 : Int32) (s_a1_1 : Int32) : Int32 :=
  let v378 : Int32 := (nar .byte (i2b (ushrI s_a1_0 (24 : Int32))))
  let v379 : Int32 := (nar .byte (i2b (ushrI s_a1_0 (16 : Int32))))
  let v380 : Int32 := (nar .byte (i2b (ushrI s_a1_0 (8 : Int32))))
  let v381 : Int32 := (nar .byte (i2b s_a1_0))
  let v395 : Int32 := (nar .byte (i2b (ushrI s_a1_1 (24 : Int32))))
  let v396 : Int32 := (nar .byte (i2b (ushrI s_a1_1 (16 : Int32))))
  let v397 : Int32 := (nar .byte (i2b (ushrI s_a1_1 (8 : Int32))))
  let v398 : Int32 := (nar .byte (i2b s_a1_1))
  v378
def F_withNumbers_1_new0_2 (s_a0_0 : Int32) (s_a1_0 : Int32) (s_a1_1 : Int32) : Int32 :=
  let v378 : Int32 := (nar .byte (i2b (ushrI s_a1_0 (24 : Int32))))
  let v379 : Int32 := (nar .byte (i2b (ushrI s_a1_0 (16 : Int32))))
  let v380 : Int32 := (nar .byte (i2b (ushrI s_a1_0 (8 : Int32))))
  let v381 : Int32 := (nar .byte (i2b s_a1_0))
  let v395 : Int32 := (nar .byte (i2b (ushrI s_a1_1 (24 : Int32))))
  let v396 : Int32 := (nar .byte (i2b (ushrI s_a1_1 (16 : Int32))))
  let v397 : Int32 := (nar .byte (i2b (ushrI s_a1_1 (8 : Int32))))
  let v398 : Int32 := (nar .byte (i2b s_a1_1))
  v379
def F_withNumbers_1_new0_3 (s_a0_0 : Int32) (s_a1_0 : Int32) (s_a1_1 : Int32) : Int32 :=
  let v378 : Int32 := (nar .byte (i2b (ushrI s_a1_0 (24 : Int32))))
  let v379 : Int32 := (nar .byte (i2b (ushrI s_a1_0 (16 : Int32))))
  let v380 : Int32 := (nar .byte (i2b (ushrI s_a1_0 (8 : Int32))))
  let v381 : Int32 := (nar .byte (i2b s_a1_0))
  let v395 : Int32 := (nar .byte (i2b (ushrI s_a1_1 (24 : Int32))))
  let v396 : Int32 := (nar .byte (i2b (ushrI s_a1_1 (16 : Int32))))
  let v397 : Int32 := (nar .byte (i2b (ushrI s_a1_1 (8 : Int32))))
  let v398 : Int32 := (nar .byte (i2b s_a1_1))
  v380
def F_withNumbers_1_new0_4 (s_a0_0 : Int32) (s_a1_0 : Int32) (s_a1_1 : Int32) : Int32 :=
  let v378 : Int32 := (nar .byte (i2b (ushrI s_a1_0 (24 : Int32))))
  let v379 : Int32 := (nar .byte (i2b (ushrI s_a1_0 (16 : Int32))))
  let v380 : Int32 := (nar .byte (i2b (ushrI s_a1_0 (8 : Int32))))
  let v381 : Int32 := (nar .byte (i2b s_a1_0))
  let v395 : Int32 := (nar .byte (i2b (ushrI s_a1_1 (24 : Int32))))
  let v396 : Int32 := (nar .byte (i2b (ushrI s_a1_1 (16 : Int32))))
  let v397 : Int32 := (nar .byte (i2b (ushrI s_a1_1 (8 : Int32))))
  let v398 : Int32 := (nar .byte (i2b s_a1_1))
  v381
def F_withNumbers_1_new0_5 (s_a0_0 : Int32) (s_a1_0 : Int32) (s_a1_1 : Int32) : Int32 :=
  let v378 : Int32 := (nar .byte (i2b (ushrI s_a1_0 (24 : Int32))))
  let v379 : Int32 := (nar .byte (i2b (ushrI s_a1_0 (16 : Int32))))
  let v380 : Int32 := (nar .byte (i2b (ushrI s_a1_0 (8 : Int32))))
  let v381 : Int32 := (nar .byte (i2b s_a1_0))
  let v395 : Int32 := (nar .byte (i2b (ushrI s_a1_1 (24 : Int32))))
  let v396 : Int32 := (nar .byte (i2b (ushrI s_a1_1 (16 : Int32))))
  let v397 : Int32 := (nar .byte (i2b (ushrI s_a1_1 (8 : Int32))))
  let v398 : Int32 := (nar .byte (i2b s_a1_1))
  v395
def F_withNumbers_1_new0_6 (s_a0_0 : Int32) (s_a1_0 : Int32) (s_a1_1 : Int32) : Int32 :=
  let v378 : Int32 := (nar .byte (i2b (ushrI s_a1_0 (24 : Int32))))
  let v379 : Int32 := (nar .byte (i2b (ushrI s_a1_0 (16 : Int32))))
  let v380 : Int32 := (nar .byte (i2b (ushrI s_a1_0 (8 : Int32))))
  let v381 : Int32 := (nar .byte (i2b s_a1_0))
  let v395 : Int32 := (nar .byte (i2b (ushrI s_a1_1 (24 : Int32))))
  let v396 : Int32 := (nar .byte (i2b (ushrI s_a1_1 (16 : Int32))))
  let v397 : Int32 := (nar .byte (i2b (ushrI s_a1_1 (8 : Int32))))
  let v398 : Int32 := (nar .byte (i2b s_a1_1))
  v396
def F_withNumbers_1_new0_7 (s_a0_0 : Int32) (s_a1_0 : Int32) (s_a1_1 : Int32) : Int32 :=
  let v378 : Int32 := (nar .byte (i2b (ushrI s_a1_0 (24 : Int32))))
  let v379 : Int32 := (nar .byte (i2b (ushrI s_a1_0 (16 : Int32))))
  let v380 : Int32 := (nar .byte (i2b (ushrI s_a1_0 (8 : Int32))))
  let v381 : Int32 := (nar .byte (i2b s_a1_0))
  let v395 : Int32 := (nar .byte (i2b (ushrI s_a1_1 (24 : Int32))))
  let v396 : Int32 := (nar .byte (i2b (ushrI s_a1_1 (16 : Int32))))
  let v397 : Int32 := (nar .byte (i2b (ushrI s_a1_1 (8 : Int32))))
  let v398 : Int32 := (nar .byte (i2b s_a1_1))
  v397
def F_withNumbers_1_new0_8 (s_a0_0 : Int32) (s_a1_0 : Int32) (s_a1_1 : Int32) : Int32 :=
  let v378 : Int32 := (nar .byte (i2b (ushrI s_a1_0 (24 : Int32))))
  let v379 : Int32 := (nar .byte (i2b (ushrI s_a1_0 (16 : Int32))))
  let v380 : Int32 := (nar .byte (i2b (ushrI s_a1_0 (8 : Int32))))
  let v381 : Int32 := (nar .byte (i2b s_a1_0))
  let v395 : Int32 := (nar .byte (i2b (ushrI s_a1_1 (24 : Int32))))
  let v396 : Int32 := (nar .byte (i2b (ushrI s_a1_1 (16 : Int32))))
  let v397 : Int32 := (nar .byte (i2b (ushrI s_a1_1 (8 : Int32))))
  let v398 : Int32 := (nar .byte (i2b s_a1_1))
  v398
set_option maxRecDepth 65536 in
set_option maxHeartbeats 40000000 in
theorem rm1_1 (l : Launch) (Z : State) (az : Array Value) (hw : ∀ d ∈ tables_1, d.before az Z = true) (ws : List Jvm.Cond) (a0 : Addr) (a1 : Addr) (s_a0_0 : Int32) (s_a1_0 : Int32) (s_a1_1 : Int32) (h0 : Heap) (n0 : Nat) (Z0 : n0 ≤ h0.size) (A_a0 : Ary Z h0 a0 .byte 1 (fun i => Value.int (List.getD [s_a0_0] i 0))) (A_a1 : Ary Z h0 a1 .int 2 (fun i => Value.int (List.getD [s_a1_0, s_a1_1] i 0))) :
    Met l (⟨"com/example/muster/muster/search/SortKeys", "withNumbers", "([B[I)[B"⟩ : MethodName) prog_84_method_7_code 4 (some (.array .byte)) ws ({ frames := 2, cells := 1, slots := 9, locals := 32 } : Room) Z #[(.ref a0), (.ref a1)] h0 (fun v h' L => ∃ b352 : Addr, n0 ≤ b352 ∧ h0.size ≤ b352 ∧ v = some (.ref b352) ∧ Fr n0 L ∧ Keep h0 h' [] ∧ Exa Z h' b352 "[B" ∧ Ary Z h' b352 .byte 9 (fun i => Value.int (List.getD [(F_withNumbers_1_new0_0 s_a0_0 s_a1_0 s_a1_1), (F_withNumbers_1_new0_1 s_a0_0 s_a1_0 s_a1_1), (F_withNumbers_1_new0_2 s_a0_0 s_a1_0 s_a1_1), (F_withNumbers_1_new0_3 s_a0_0 s_a1_0 s_a1_1), (F_withNumbers_1_new0_4 s_a0_0 s_a1_0 s_a1_1), (F_withNumbers_1_new0_5 s_a0_0 s_a1_0 s_a1_1), (F_withNumbers_1_new0_6 s_a0_0 s_a1_0 s_a1_1), (F_withNumbers_1_new0_7 s_a0_0 s_a1_0 s_a1_1), (F_withNumbers_1_new0_8 s_a0_0 s_a1_0 s_a1_1)] i 0))) := by
  refine enter (plainFor_of_name pn_1) (ef_1_1 a0 a1) ?_
  intro p e s m below meth c T0 kc kn Q hkc hkn hQ K' X0 e0
  have K : Fx p s m meth c prog_84_method_7_code 4 "com/example/muster/muster/search/SortKeys" "withNumbers" (some (.array .byte)) Z := K'
  have N0 := Fr.nil n0
  have K0 : Keep h0 h0 [] := Keep.refl _ _
  refine k_aloadN K X0 d1_0 rfl rfl (q := 1) rfl ?_
  refine k_aloadN K X0 d1_1 rfl rfl (q := 2) rfl ?_
  refine k_arraylength K X0 e0 d1_2 A_a0 (v := (1 : Int32)) rfl (q := 3) rfl ?_
  refine k_iconst K X0 d1_3 (v := (4 : Int32)) rfl (q := 4) rfl ?_
  refine k_aloadN K X0 d1_4 rfl rfl (q := 5) rfl ?_
  refine k_arraylength K X0 e0 d1_5 A_a1 (v := (2 : Int32)) rfl (q := 6) rfl ?_
  refine k_imul K X0 d1_6 (q := 7) rfl ?_
  refine k_nameI (v := (8 : Int32)) (by decide) ?_
  refine k_iadd K X0 d1_7 (q := 8) rfl ?_
  refine k_nameI (v := (9 : Int32)) (by decide) ?_
  refine k_static K X0 e0 d1_8 (wd hw 6 rfl) (wd hw 7 rfl) (wd hw 8 rfl) (wd hw 9 rfl) (by decide) (rm2_1 l Z az hw [] a0 s_a0_0 h0 n0 Z0 A_a0) (W := 0) (by decide) (by decide) (by decide) (by decide) rfl pd_1 (argsL := [(.ref a0), (.int (9 : Int32))]) (rest := []) rfl rfl rfl (Nat.le_of_eq rfl) (q := 11) rfl ?_
  rintro _ T346 L347 X348 ⟨b352, ge353, bn354, rfl, N349, K350, f355, f356⟩
  have ne357 : a0 ≠ b352 := Nat.ne_of_lt (Nat.lt_of_lt_of_le (A_a0).lt bn354)
  have ne358 : a1 ≠ b352 := Nat.ne_of_lt (Nat.lt_of_lt_of_le (A_a1).lt bn354)
  have bn359 : h0.size ≤ b352 := Nat.le_trans K0.1 bn354
  have f360 := Ary.keep A_a0 K350 nin0
  have f361 := Ary.keep A_a1 K350 nin0
  have N362 := Fr.app N0 N349
  have K363 := Keep.trans K0 K350 all0
  have Z364 := Nat.le_trans Z0 K350.1
  refine k_astoreN K X348 d1_11 rfl (Ls' := #[.val (.ref a0), .val (.ref a1), .val (.ref b352), .unset]) rfl (q := 12) rfl ?_
  refine k_iconst K X348 d1_12 (v := (0 : Int32)) rfl (q := 13) rfl ?_
  refine k_istoreN K X348 d1_13 rfl (Ls' := #[.val (.ref a0), .val (.ref a1), .val (.ref b352), .val (.int (0 : Int32))]) rfl (q := 14) rfl ?_
  refine k_iloadN K X348 d1_14 rfl (q := 15) rfl ?_
  refine k_aloadN K X348 d1_15 rfl rfl (q := 16) rfl ?_
  refine k_arraylength K X348 rfl d1_16 f361 (v := (2 : Int32)) rfl (q := 17) rfl ?_
  refine k_icmp_ge_n K X348 d1_17 (by decide) (q := 20) rfl ?_
  refine k_aloadN K X348 d1_20 rfl rfl (q := 21) rfl ?_
  refine k_aloadN K X348 d1_21 rfl rfl (q := 22) rfl ?_
  refine k_arraylength K X348 rfl d1_22 f360 (v := (1 : Int32)) rfl (q := 23) rfl ?_
  refine k_iconst K X348 d1_23 (v := (4 : Int32)) rfl (q := 24) rfl ?_
  refine k_iloadN K X348 d1_24 rfl (q := 25) rfl ?_
  refine k_imul K X348 d1_25 (q := 26) rfl ?_
  refine k_nameI (v := (0 : Int32)) (by decide) ?_
  refine k_iadd K X348 d1_26 (q := 27) rfl ?_
  refine k_nameI (v := (1 : Int32)) (by decide) ?_
  refine k_aloadN K X348 d1_27 rfl rfl (q := 28) rfl ?_
  refine k_iloadN K X348 d1_28 rfl (q := 29) rfl ?_
  refine k_iaload K X348 rfl d1_29 f361 (i := 0) (v := (.int s_a1_0)) (by decide) (by decide) rfl (q := 30) rfl ?_
  refine k_static K X348 rfl d1_30 (wd hw 18 rfl) (wd hw 19 rfl) (wd hw 4 rfl) (wd hw 20 rfl) (by decide) (rm4_9_1 l Z az hw [] b352 s_a1_0 s_a0_0 (0 : Int32) (0 : Int32) (0 : Int32) (0 : Int32) (0 : Int32) (0 : Int32) (0 : Int32) (0 : Int32) T346.heap n0 Z364 f356 ge353) (W := 0) (by decide) (by decide) (by decide) (by decide) rfl pd_2 (argsL := [(.ref b352), (.int (1 : Int32)), (.int s_a1_0)]) (rest := []) rfl rfl rfl (Nat.le_of_eq rfl) (q := 33) rfl ?_
  rintro _ T365 L366 X367 ⟨rfl, N368, K369, f371⟩
  have f372 := Ary.keep f360 K369 (ninS ne357 nin0)
  have f373 := Ary.keep f361 K369 (ninS ne358 nin0)
  have f374 := Exa.keep f355 K369
  have N375 := Fr.app N362 N368
  have K376 := Keep.trans K363 K369 (allS (Or.inr bn359) all0)
  have Z377 := Nat.le_trans Z364 K369.1
  obtain ⟨v378, hv_v378⟩ : ∃ z : Int32, (nar .byte (i2b (ushrI s_a1_0 (24 : Int32)))) = z := ⟨_, rfl⟩
  rw [hv_v378] at f371
  obtain ⟨v379, hv_v379⟩ : ∃ z : Int32, (nar .byte (i2b (ushrI s_a1_0 (16 : Int32)))) = z := ⟨_, rfl⟩
  rw [hv_v379] at f371
  obtain ⟨v380, hv_v380⟩ : ∃ z : Int32, (nar .byte (i2b (ushrI s_a1_0 (8 : Int32)))) = z := ⟨_, rfl⟩
  rw [hv_v380] at f371
  obtain ⟨v381, hv_v381⟩ : ∃ z : Int32, (nar .byte (i2b s_a1_0)) = z := ⟨_, rfl⟩
  rw [hv_v381] at f371
  refine k_iinc K X367 d1_33 rfl (by decide) (Ls' := #[.val (.ref a0), .val (.ref a1), .val (.ref b352), .val (.int (1 : Int32))]) rfl (q := 36) rfl ?_
  refine k_goto K X367 d1_36 (by decide) (q := 14) rfl ?_
  refine k_iloadN K X367 d1_14 rfl (q := 15) rfl ?_
  refine k_aloadN K X367 d1_15 rfl rfl (q := 16) rfl ?_
  refine k_arraylength K X367 rfl d1_16 f373 (v := (2 : Int32)) rfl (q := 17) rfl ?_
  refine k_icmp_ge_n K X367 d1_17 (by decide) (q := 20) rfl ?_
  refine k_aloadN K X367 d1_20 rfl rfl (q := 21) rfl ?_
  refine k_aloadN K X367 d1_21 rfl rfl (q := 22) rfl ?_
  refine k_arraylength K X367 rfl d1_22 f372 (v := (1 : Int32)) rfl (q := 23) rfl ?_
  refine k_iconst K X367 d1_23 (v := (4 : Int32)) rfl (q := 24) rfl ?_
  refine k_iloadN K X367 d1_24 rfl (q := 25) rfl ?_
  refine k_imul K X367 d1_25 (q := 26) rfl ?_
  refine k_nameI (v := (4 : Int32)) (by decide) ?_
  refine k_iadd K X367 d1_26 (q := 27) rfl ?_
  refine k_nameI (v := (5 : Int32)) (by decide) ?_
  refine k_aloadN K X367 d1_27 rfl rfl (q := 28) rfl ?_
  refine k_iloadN K X367 d1_28 rfl (q := 29) rfl ?_
  refine k_iaload K X367 rfl d1_29 f373 (i := 1) (v := (.int s_a1_1)) (by decide) (by decide) rfl (q := 30) rfl ?_
  refine k_static K X367 rfl d1_30 (wd hw 18 rfl) (wd hw 19 rfl) (wd hw 4 rfl) (wd hw 20 rfl) (by decide) (rm4_9_5 l Z az hw [] b352 s_a1_1 s_a0_0 v378 v379 v380 v381 (0 : Int32) (0 : Int32) (0 : Int32) (0 : Int32) T365.heap n0 Z377 f371 ge353) (W := 0) (by decide) (by decide) (by decide) (by decide) rfl pd_2 (argsL := [(.ref b352), (.int (5 : Int32)), (.int s_a1_1)]) (rest := []) rfl rfl rfl (Nat.le_of_eq rfl) (q := 33) rfl ?_
  rintro _ T382 L383 X384 ⟨rfl, N385, K386, f388⟩
  have f389 := Ary.keep f372 K386 (ninS ne357 nin0)
  have f390 := Ary.keep f373 K386 (ninS ne358 nin0)
  have f391 := Exa.keep f374 K386
  have N392 := Fr.app N375 N385
  have K393 := Keep.trans K376 K386 (allS (Or.inr bn359) all0)
  have Z394 := Nat.le_trans Z377 K386.1
  obtain ⟨v395, hv_v395⟩ : ∃ z : Int32, (nar .byte (i2b (ushrI s_a1_1 (24 : Int32)))) = z := ⟨_, rfl⟩
  rw [hv_v395] at f388
  obtain ⟨v396, hv_v396⟩ : ∃ z : Int32, (nar .byte (i2b (ushrI s_a1_1 (16 : Int32)))) = z := ⟨_, rfl⟩
  rw [hv_v396] at f388
  obtain ⟨v397, hv_v397⟩ : ∃ z : Int32, (nar .byte (i2b (ushrI s_a1_1 (8 : Int32)))) = z := ⟨_, rfl⟩
  rw [hv_v397] at f388
  obtain ⟨v398, hv_v398⟩ : ∃ z : Int32, (nar .byte (i2b s_a1_1)) = z := ⟨_, rfl⟩
  rw [hv_v398] at f388
  refine k_iinc K X384 d1_33 rfl (by decide) (Ls' := #[.val (.ref a0), .val (.ref a1), .val (.ref b352), .val (.int (2 : Int32))]) rfl (q := 36) rfl ?_
  refine k_goto K X384 d1_36 (by decide) (q := 14) rfl ?_
  refine k_iloadN K X384 d1_14 rfl (q := 15) rfl ?_
  refine k_aloadN K X384 d1_15 rfl rfl (q := 16) rfl ?_
  refine k_arraylength K X384 rfl d1_16 f390 (v := (2 : Int32)) rfl (q := 17) rfl ?_
  refine k_icmp_ge_y K X384 d1_17 (by decide) (by decide) (q := 39) rfl ?_
  refine k_aloadN K X384 d1_39 rfl rfl (q := 40) rfl ?_
  exact k_reta K X384 rfl d1_40 rfl rfl (Nat.le_trans (by decide) hkc) (Nat.le_trans (by decide) hkn) (hQ _ _ _ ⟨b352, ge353, bn359, rfl, N392, K393, f391, (by rw [(show F_withNumbers_1_new0_0 s_a0_0 s_a1_0 s_a1_1 = s_a0_0 from by first | (simp only [F_withNumbers_1_new0_0, hv_v378, hv_v379, hv_v380, hv_v381, hv_v395, hv_v396, hv_v397, hv_v398]; done) | (subst hv_v378; subst hv_v379; subst hv_v380; subst hv_v381; subst hv_v395; subst hv_v396; subst hv_v397; subst hv_v398; simp only [F_withNumbers_1_new0_0])), (show F_withNumbers_1_new0_1 s_a0_0 s_a1_0 s_a1_1 = v378 from by first | (simp only [F_withNumbers_1_new0_1, hv_v378, hv_v379, hv_v380, hv_v381, hv_v395, hv_v396, hv_v397, hv_v398]; done) | (subst hv_v378; subst hv_v379; subst hv_v380; subst hv_v381; subst hv_v395; subst hv_v396; subst hv_v397; subst hv_v398; simp only [F_withNumbers_1_new0_1])), (show F_withNumbers_1_new0_2 s_a0_0 s_a1_0 s_a1_1 = v379 from by first | (simp only [F_withNumbers_1_new0_2, hv_v378, hv_v379, hv_v380, hv_v381, hv_v395, hv_v396, hv_v397, hv_v398]; done) | (subst hv_v378; subst hv_v379; subst hv_v380; subst hv_v381; subst hv_v395; subst hv_v396; subst hv_v397; subst hv_v398; simp only [F_withNumbers_1_new0_2])), (show F_withNumbers_1_new0_3 s_a0_0 s_a1_0 s_a1_1 = v380 from by first | (simp only [F_withNumbers_1_new0_3, hv_v378, hv_v379, hv_v380, hv_v381, hv_v395, hv_v396, hv_v397, hv_v398]; done) | (subst hv_v378; subst hv_v379; subst hv_v380; subst hv_v381; subst hv_v395; subst hv_v396; subst hv_v397; subst hv_v398; simp only [F_withNumbers_1_new0_3])), (show F_withNumbers_1_new0_4 s_a0_0 s_a1_0 s_a1_1 = v381 from by first | (simp only [F_withNumbers_1_new0_4, hv_v378, hv_v379, hv_v380, hv_v381, hv_v395, hv_v396, hv_v397, hv_v398]; done) | (subst hv_v378; subst hv_v379; subst hv_v380; subst hv_v381; subst hv_v395; subst hv_v396; subst hv_v397; subst hv_v398; simp only [F_withNumbers_1_new0_4])), (show F_withNumbers_1_new0_5 s_a0_0 s_a1_0 s_a1_1 = v395 from by first | (simp only [F_withNumbers_1_new0_5, hv_v378, hv_v379, hv_v380, hv_v381, hv_v395, hv_v396, hv_v397, hv_v398]; done) | (subst hv_v378; subst hv_v379; subst hv_v380; subst hv_v381; subst hv_v395; subst hv_v396; subst hv_v397; subst hv_v398; simp only [F_withNumbers_1_new0_5])), (show F_withNumbers_1_new0_6 s_a0_0 s_a1_0 s_a1_1 = v396 from by first | (simp only [F_withNumbers_1_new0_6, hv_v378, hv_v379, hv_v380, hv_v381, hv_v395, hv_v396, hv_v397, hv_v398]; done) | (subst hv_v378; subst hv_v379; subst hv_v380; subst hv_v381; subst hv_v395; subst hv_v396; subst hv_v397; subst hv_v398; simp only [F_withNumbers_1_new0_6])), (show F_withNumbers_1_new0_7 s_a0_0 s_a1_0 s_a1_1 = v397 from by first | (simp only [F_withNumbers_1_new0_7, hv_v378, hv_v379, hv_v380, hv_v381, hv_v395, hv_v396, hv_v397, hv_v398]; done) | (subst hv_v378; subst hv_v379; subst hv_v380; subst hv_v381; subst hv_v395; subst hv_v396; subst hv_v397; subst hv_v398; simp only [F_withNumbers_1_new0_7])), (show F_withNumbers_1_new0_8 s_a0_0 s_a1_0 s_a1_1 = v398 from by first | (simp only [F_withNumbers_1_new0_8, hv_v378, hv_v379, hv_v380, hv_v381, hv_v395, hv_v396, hv_v397, hv_v398]; done) | (subst hv_v378; subst hv_v379; subst hv_v380; subst hv_v381; subst hv_v395; subst hv_v396; subst hv_v397; subst hv_v398; simp only [F_withNumbers_1_new0_8]))]; exact f388)⟩)
theorem ef_5_9_1 (a0 : Addr) : ∀ m : MethodId, entryFrame m #[(.ref a0), (.int (1 : Int32))] 2 = mkF m 0 #[.val (.ref a0), .val (.int (1 : Int32))] [] := by intro m; first | (simp [entryFrame, mkF, argsToLocals, Value.category]; done) | rfl
def F_readNumber_9_1 (s_a0_0 : Int32) (s_a0_1 : Int32) (s_a0_2 : Int32) (s_a0_3 : Int32) (s_a0_4 : Int32) (s_a0_5 : Int32) (s_a0_6 : Int32) (s_a0_7 : Int32) (s_a0_8 : Int32) : Int32 :=
  ((((shlI (s_a0_1 &&& (255 : Int32)) (24 : Int32)) ||| (shlI (s_a0_2 &&& (255 : Int32)) (16 : Int32))) ||| (shlI (s_a0_3 &&& (255 : Int32)) (8 : Int32))) ||| (s_a0_4 &&& (255 : Int32)))
set_option maxRecDepth 65536 in
set_option maxHeartbeats 40000000 in
theorem rm5_9_1 (l : Launch) (Z : State) (az : Array Value) (hw : ∀ d ∈ tables_1, d.before az Z = true) (ws : List Jvm.Cond) (a0 : Addr) (s_a0_0 : Int32) (s_a0_1 : Int32) (s_a0_2 : Int32) (s_a0_3 : Int32) (s_a0_4 : Int32) (s_a0_5 : Int32) (s_a0_6 : Int32) (s_a0_7 : Int32) (s_a0_8 : Int32) (h0 : Heap) (A_a0 : Ary Z h0 a0 .byte 9 (fun i => Value.int (List.getD [s_a0_0, s_a0_1, s_a0_2, s_a0_3, s_a0_4, s_a0_5, s_a0_6, s_a0_7, s_a0_8] i 0))) :
    Met l (⟨"com/example/muster/muster/search/SortKeys", "readNumber", "([BI)I"⟩ : MethodName) prog_84_method_8_code 2 (some .int) ws ({ frames := 0, cells := 0, slots := 0, locals := 0 } : Room) Z #[(.ref a0), (.int (1 : Int32))] h0 (fun v h' L => v = some (Value.int (F_readNumber_9_1 s_a0_0 s_a0_1 s_a0_2 s_a0_3 s_a0_4 s_a0_5 s_a0_6 s_a0_7 s_a0_8)) ∧ h' = h0 ∧ L = []) := by
  refine enter (plainFor_of_name pn_1) (ef_5_9_1 a0) ?_
  intro p e s m below meth c T0 kc kn Q hkc hkn hQ K' X0 e0
  have K : Fx p s m meth c prog_84_method_8_code 2 "com/example/muster/muster/search/SortKeys" "readNumber" (some .int) Z := K'
  refine k_aloadN K X0 d5_0 rfl rfl (q := 1) rfl ?_
  refine k_iloadN K X0 d5_1 rfl (q := 2) rfl ?_
  refine k_baload K X0 e0 d5_2 A_a0 (i := 1) (v := (.int s_a0_1)) (by decide) (by decide) rfl (q := 3) rfl ?_
  refine k_sipush K X0 d5_3 (v := (255 : Int32)) rfl (q := 6) rfl ?_
  refine k_iand K X0 d5_6 (q := 7) rfl ?_
  refine k_bipush K X0 d5_7 (v := (24 : Int32)) rfl (q := 9) rfl ?_
  refine k_ishl K X0 d5_9 (q := 10) rfl ?_
  refine k_aloadN K X0 d5_10 rfl rfl (q := 11) rfl ?_
  refine k_iloadN K X0 d5_11 rfl (q := 12) rfl ?_
  refine k_iconst K X0 d5_12 (v := (1 : Int32)) rfl (q := 13) rfl ?_
  refine k_iadd K X0 d5_13 (q := 14) rfl ?_
  refine k_nameI (v := (2 : Int32)) (by decide) ?_
  refine k_baload K X0 e0 d5_14 A_a0 (i := 2) (v := (.int s_a0_2)) (by decide) (by decide) rfl (q := 15) rfl ?_
  refine k_sipush K X0 d5_15 (v := (255 : Int32)) rfl (q := 18) rfl ?_
  refine k_iand K X0 d5_18 (q := 19) rfl ?_
  refine k_bipush K X0 d5_19 (v := (16 : Int32)) rfl (q := 21) rfl ?_
  refine k_ishl K X0 d5_21 (q := 22) rfl ?_
  refine k_ior K X0 d5_22 (q := 23) rfl ?_
  refine k_aloadN K X0 d5_23 rfl rfl (q := 24) rfl ?_
  refine k_iloadN K X0 d5_24 rfl (q := 25) rfl ?_
  refine k_iconst K X0 d5_25 (v := (2 : Int32)) rfl (q := 26) rfl ?_
  refine k_iadd K X0 d5_26 (q := 27) rfl ?_
  refine k_nameI (v := (3 : Int32)) (by decide) ?_
  refine k_baload K X0 e0 d5_27 A_a0 (i := 3) (v := (.int s_a0_3)) (by decide) (by decide) rfl (q := 28) rfl ?_
  refine k_sipush K X0 d5_28 (v := (255 : Int32)) rfl (q := 31) rfl ?_
  refine k_iand K X0 d5_31 (q := 32) rfl ?_
  refine k_bipush K X0 d5_32 (v := (8 : Int32)) rfl (q := 34) rfl ?_
  refine k_ishl K X0 d5_34 (q := 35) rfl ?_
  refine k_ior K X0 d5_35 (q := 36) rfl ?_
  refine k_aloadN K X0 d5_36 rfl rfl (q := 37) rfl ?_
  refine k_iloadN K X0 d5_37 rfl (q := 38) rfl ?_
  refine k_iconst K X0 d5_38 (v := (3 : Int32)) rfl (q := 39) rfl ?_
  refine k_iadd K X0 d5_39 (q := 40) rfl ?_
  refine k_nameI (v := (4 : Int32)) (by decide) ?_
  refine k_baload K X0 e0 d5_40 A_a0 (i := 4) (v := (.int s_a0_4)) (by decide) (by decide) rfl (q := 41) rfl ?_
  refine k_sipush K X0 d5_41 (v := (255 : Int32)) rfl (q := 44) rfl ?_
  refine k_iand K X0 d5_44 (q := 45) rfl ?_
  refine k_ior K X0 d5_45 (q := 46) rfl ?_
  exact k_reti K X0 e0 d5_46 (Nat.le_trans (by decide) hkc) (Nat.le_trans (by decide) hkn) (hQ _ _ _ ⟨(by show some (Value.int ((((shlI (s_a0_1 &&& (255 : Int32)) (24 : Int32)) ||| (shlI (s_a0_2 &&& (255 : Int32)) (16 : Int32))) ||| (shlI (s_a0_3 &&& (255 : Int32)) (8 : Int32))) ||| (s_a0_4 &&& (255 : Int32)))) = some (Value.int (F_readNumber_9_1 s_a0_0 s_a0_1 s_a0_2 s_a0_3 s_a0_4 s_a0_5 s_a0_6 s_a0_7 s_a0_8)); first | (simp only [F_readNumber_9_1]; done) | (simp only [F_readNumber_9_1])), rfl, rfl⟩)
theorem ef_5_9_5 (a0 : Addr) : ∀ m : MethodId, entryFrame m #[(.ref a0), (.int (5 : Int32))] 2 = mkF m 0 #[.val (.ref a0), .val (.int (5 : Int32))] [] := by intro m; first | (simp [entryFrame, mkF, argsToLocals, Value.category]; done) | rfl
def F_readNumber_9_5 (s_a0_0 : Int32) (s_a0_1 : Int32) (s_a0_2 : Int32) (s_a0_3 : Int32) (s_a0_4 : Int32) (s_a0_5 : Int32) (s_a0_6 : Int32) (s_a0_7 : Int32) (s_a0_8 : Int32) : Int32 :=
  ((((shlI (s_a0_5 &&& (255 : Int32)) (24 : Int32)) ||| (shlI (s_a0_6 &&& (255 : Int32)) (16 : Int32))) ||| (shlI (s_a0_7 &&& (255 : Int32)) (8 : Int32))) ||| (s_a0_8 &&& (255 : Int32)))
set_option maxRecDepth 65536 in
set_option maxHeartbeats 40000000 in
theorem rm5_9_5 (l : Launch) (Z : State) (az : Array Value) (hw : ∀ d ∈ tables_1, d.before az Z = true) (ws : List Jvm.Cond) (a0 : Addr) (s_a0_0 : Int32) (s_a0_1 : Int32) (s_a0_2 : Int32) (s_a0_3 : Int32) (s_a0_4 : Int32) (s_a0_5 : Int32) (s_a0_6 : Int32) (s_a0_7 : Int32) (s_a0_8 : Int32) (h0 : Heap) (A_a0 : Ary Z h0 a0 .byte 9 (fun i => Value.int (List.getD [s_a0_0, s_a0_1, s_a0_2, s_a0_3, s_a0_4, s_a0_5, s_a0_6, s_a0_7, s_a0_8] i 0))) :
    Met l (⟨"com/example/muster/muster/search/SortKeys", "readNumber", "([BI)I"⟩ : MethodName) prog_84_method_8_code 2 (some .int) ws ({ frames := 0, cells := 0, slots := 0, locals := 0 } : Room) Z #[(.ref a0), (.int (5 : Int32))] h0 (fun v h' L => v = some (Value.int (F_readNumber_9_5 s_a0_0 s_a0_1 s_a0_2 s_a0_3 s_a0_4 s_a0_5 s_a0_6 s_a0_7 s_a0_8)) ∧ h' = h0 ∧ L = []) := by
  refine enter (plainFor_of_name pn_1) (ef_5_9_5 a0) ?_
  intro p e s m below meth c T0 kc kn Q hkc hkn hQ K' X0 e0
  have K : Fx p s m meth c prog_84_method_8_code 2 "com/example/muster/muster/search/SortKeys" "readNumber" (some .int) Z := K'
  refine k_aloadN K X0 d5_0 rfl rfl (q := 1) rfl ?_
  refine k_iloadN K X0 d5_1 rfl (q := 2) rfl ?_
  refine k_baload K X0 e0 d5_2 A_a0 (i := 5) (v := (.int s_a0_5)) (by decide) (by decide) rfl (q := 3) rfl ?_
  refine k_sipush K X0 d5_3 (v := (255 : Int32)) rfl (q := 6) rfl ?_
  refine k_iand K X0 d5_6 (q := 7) rfl ?_
  refine k_bipush K X0 d5_7 (v := (24 : Int32)) rfl (q := 9) rfl ?_
  refine k_ishl K X0 d5_9 (q := 10) rfl ?_
  refine k_aloadN K X0 d5_10 rfl rfl (q := 11) rfl ?_
  refine k_iloadN K X0 d5_11 rfl (q := 12) rfl ?_
  refine k_iconst K X0 d5_12 (v := (1 : Int32)) rfl (q := 13) rfl ?_
  refine k_iadd K X0 d5_13 (q := 14) rfl ?_
  refine k_nameI (v := (6 : Int32)) (by decide) ?_
  refine k_baload K X0 e0 d5_14 A_a0 (i := 6) (v := (.int s_a0_6)) (by decide) (by decide) rfl (q := 15) rfl ?_
  refine k_sipush K X0 d5_15 (v := (255 : Int32)) rfl (q := 18) rfl ?_
  refine k_iand K X0 d5_18 (q := 19) rfl ?_
  refine k_bipush K X0 d5_19 (v := (16 : Int32)) rfl (q := 21) rfl ?_
  refine k_ishl K X0 d5_21 (q := 22) rfl ?_
  refine k_ior K X0 d5_22 (q := 23) rfl ?_
  refine k_aloadN K X0 d5_23 rfl rfl (q := 24) rfl ?_
  refine k_iloadN K X0 d5_24 rfl (q := 25) rfl ?_
  refine k_iconst K X0 d5_25 (v := (2 : Int32)) rfl (q := 26) rfl ?_
  refine k_iadd K X0 d5_26 (q := 27) rfl ?_
  refine k_nameI (v := (7 : Int32)) (by decide) ?_
  refine k_baload K X0 e0 d5_27 A_a0 (i := 7) (v := (.int s_a0_7)) (by decide) (by decide) rfl (q := 28) rfl ?_
  refine k_sipush K X0 d5_28 (v := (255 : Int32)) rfl (q := 31) rfl ?_
  refine k_iand K X0 d5_31 (q := 32) rfl ?_
  refine k_bipush K X0 d5_32 (v := (8 : Int32)) rfl (q := 34) rfl ?_
  refine k_ishl K X0 d5_34 (q := 35) rfl ?_
  refine k_ior K X0 d5_35 (q := 36) rfl ?_
  refine k_aloadN K X0 d5_36 rfl rfl (q := 37) rfl ?_
  refine k_iloadN K X0 d5_37 rfl (q := 38) rfl ?_
  refine k_iconst K X0 d5_38 (v := (3 : Int32)) rfl (q := 39) rfl ?_
  refine k_iadd K X0 d5_39 (q := 40) rfl ?_
  refine k_nameI (v := (8 : Int32)) (by decide) ?_
  refine k_baload K X0 e0 d5_40 A_a0 (i := 8) (v := (.int s_a0_8)) (by decide) (by decide) rfl (q := 41) rfl ?_
  refine k_sipush K X0 d5_41 (v := (255 : Int32)) rfl (q := 44) rfl ?_
  refine k_iand K X0 d5_44 (q := 45) rfl ?_
  refine k_ior K X0 d5_45 (q := 46) rfl ?_
  exact k_reti K X0 e0 d5_46 (Nat.le_trans (by decide) hkc) (Nat.le_trans (by decide) hkn) (hQ _ _ _ ⟨(by show some (Value.int ((((shlI (s_a0_5 &&& (255 : Int32)) (24 : Int32)) ||| (shlI (s_a0_6 &&& (255 : Int32)) (16 : Int32))) ||| (shlI (s_a0_7 &&& (255 : Int32)) (8 : Int32))) ||| (s_a0_8 &&& (255 : Int32)))) = some (Value.int (F_readNumber_9_5 s_a0_0 s_a0_1 s_a0_2 s_a0_3 s_a0_4 s_a0_5 s_a0_6 s_a0_7 s_a0_8)); first | (simp only [F_readNumber_9_5]; done) | (simp only [F_readNumber_9_5])), rfl, rfl⟩)
theorem ef_4_10_2 (a0 : Addr) (p2 : Int32) : ∀ m : MethodId, entryFrame m #[(.ref a0), (.int (2 : Int32)), (.int p2)] 3 = mkF m 0 #[.val (.ref a0), .val (.int (2 : Int32)), .val (.int p2)] [] := by intro m; first | (simp [entryFrame, mkF, argsToLocals, Value.category]; done) | rfl
set_option maxRecDepth 65536 in
set_option maxHeartbeats 40000000 in
theorem rm4_10_2 (l : Launch) (Z : State) (az : Array Value) (hw : ∀ d ∈ tables_1, d.before az Z = true) (ws : List Jvm.Cond) (a0 : Addr) (p2 : Int32) (s_a0_0 : Int32) (s_a0_1 : Int32) (s_a0_2 : Int32) (s_a0_3 : Int32) (s_a0_4 : Int32) (s_a0_5 : Int32) (s_a0_6 : Int32) (s_a0_7 : Int32) (s_a0_8 : Int32) (s_a0_9 : Int32) (h0 : Heap) (n0 : Nat) (Z0 : n0 ≤ h0.size) (A_a0 : Ary Z h0 a0 .byte 10 (fun i => Value.int (List.getD [s_a0_0, s_a0_1, s_a0_2, s_a0_3, s_a0_4, s_a0_5, s_a0_6, s_a0_7, s_a0_8, s_a0_9] i 0))) (ge_a0 : n0 ≤ a0) :
    Met l (⟨"com/example/muster/muster/search/SortKeys", "writeNumber", "([BII)V"⟩ : MethodName) prog_84_method_9_code 3 none ws ({ frames := 0, cells := 0, slots := 0, locals := 0 } : Room) Z #[(.ref a0), (.int (2 : Int32)), (.int p2)] h0 (fun v h' L => v = none ∧ Fr n0 L ∧ Keep h0 h' [a0] ∧ Ary Z h' a0 .byte 10 (fun i => Value.int (List.getD [s_a0_0, s_a0_1, (nar .byte (i2b (ushrI p2 (24 : Int32)))), (nar .byte (i2b (ushrI p2 (16 : Int32)))), (nar .byte (i2b (ushrI p2 (8 : Int32)))), (nar .byte (i2b p2)), s_a0_6, s_a0_7, s_a0_8, s_a0_9] i 0))) := by
  refine enter (plainFor_of_name pn_1) (ef_4_10_2 a0 p2) ?_
  intro p e s m below meth c T0 kc kn Q hkc hkn hQ K' X0 e0
  have K : Fx p s m meth c prog_84_method_9_code 3 "com/example/muster/muster/search/SortKeys" "writeNumber" none Z := K'
  have N0 := Fr.nil n0
  have K0 : Keep h0 h0 [a0] := Keep.refl _ _
  refine k_aloadN K X0 d4_0 rfl rfl (q := 1) rfl ?_
  refine k_iloadN K X0 d4_1 rfl (q := 2) rfl ?_
  refine k_iloadN K X0 d4_2 rfl (q := 3) rfl ?_
  refine k_bipush K X0 d4_3 (v := (24 : Int32)) rfl (q := 5) rfl ?_
  refine k_iushr K X0 d4_5 (q := 6) rfl ?_
  refine k_i2b K X0 d4_6 (q := 7) rfl ?_
  refine k_bastore K X0 e0 d4_7 A_a0 (i := 2) (by decide) (by decide) (q := 8) rfl ?_
  intro T399 h400 X401 e402 W403 A404
  have f405 : Ary Z h400 a0 .byte 10 (fun i => Value.int (List.getD [s_a0_0, s_a0_1, (nar .byte (i2b (ushrI p2 (24 : Int32)))), s_a0_3, s_a0_4, s_a0_5, s_a0_6, s_a0_7, s_a0_8, s_a0_9] i 0)) := Ary.eqv A404 (fun i _ => setD Value.int [s_a0_0, s_a0_1, s_a0_2, s_a0_3, s_a0_4, s_a0_5, s_a0_6, s_a0_7, s_a0_8, s_a0_9] 2 (nar .byte (i2b (ushrI p2 (24 : Int32)))) 0 (Nat.le_of_ble_eq_true rfl) i)
  have N406 := Fr.snoc X401 N0 ge_a0
  have K407 := Keep.wr K0 W403 (Or.inl (List.mem_of_getElem? (i := 0) rfl))
  have Z408 := Nat.le_trans Z0 (Nat.le_of_eq (Wr.size W403).symm)
  refine k_aloadN K X401 d4_8 rfl rfl (q := 9) rfl ?_
  refine k_iloadN K X401 d4_9 rfl (q := 10) rfl ?_
  refine k_iconst K X401 d4_10 (v := (1 : Int32)) rfl (q := 11) rfl ?_
  refine k_iadd K X401 d4_11 (q := 12) rfl ?_
  refine k_nameI (v := (3 : Int32)) (by decide) ?_
  refine k_iloadN K X401 d4_12 rfl (q := 13) rfl ?_
  refine k_bipush K X401 d4_13 (v := (16 : Int32)) rfl (q := 15) rfl ?_
  refine k_iushr K X401 d4_15 (q := 16) rfl ?_
  refine k_i2b K X401 d4_16 (q := 17) rfl ?_
  refine k_bastore K X401 e402 d4_17 f405 (i := 3) (by decide) (by decide) (q := 18) rfl ?_
  intro T409 h410 X411 e412 W413 A414
  have f415 : Ary Z h410 a0 .byte 10 (fun i => Value.int (List.getD [s_a0_0, s_a0_1, (nar .byte (i2b (ushrI p2 (24 : Int32)))), (nar .byte (i2b (ushrI p2 (16 : Int32)))), s_a0_4, s_a0_5, s_a0_6, s_a0_7, s_a0_8, s_a0_9] i 0)) := Ary.eqv A414 (fun i _ => setD Value.int [s_a0_0, s_a0_1, (nar .byte (i2b (ushrI p2 (24 : Int32)))), s_a0_3, s_a0_4, s_a0_5, s_a0_6, s_a0_7, s_a0_8, s_a0_9] 3 (nar .byte (i2b (ushrI p2 (16 : Int32)))) 0 (Nat.le_of_ble_eq_true rfl) i)
  have N416 := Fr.snoc X411 N406 ge_a0
  have K417 := Keep.wr K407 W413 (Or.inl (List.mem_of_getElem? (i := 0) rfl))
  have Z418 := Nat.le_trans Z408 (Nat.le_of_eq (Wr.size W413).symm)
  refine k_aloadN K X411 d4_18 rfl rfl (q := 19) rfl ?_
  refine k_iloadN K X411 d4_19 rfl (q := 20) rfl ?_
  refine k_iconst K X411 d4_20 (v := (2 : Int32)) rfl (q := 21) rfl ?_
  refine k_iadd K X411 d4_21 (q := 22) rfl ?_
  refine k_nameI (v := (4 : Int32)) (by decide) ?_
  refine k_iloadN K X411 d4_22 rfl (q := 23) rfl ?_
  refine k_bipush K X411 d4_23 (v := (8 : Int32)) rfl (q := 25) rfl ?_
  refine k_iushr K X411 d4_25 (q := 26) rfl ?_
  refine k_i2b K X411 d4_26 (q := 27) rfl ?_
  refine k_bastore K X411 e412 d4_27 f415 (i := 4) (by decide) (by decide) (q := 28) rfl ?_
  intro T419 h420 X421 e422 W423 A424
  have f425 : Ary Z h420 a0 .byte 10 (fun i => Value.int (List.getD [s_a0_0, s_a0_1, (nar .byte (i2b (ushrI p2 (24 : Int32)))), (nar .byte (i2b (ushrI p2 (16 : Int32)))), (nar .byte (i2b (ushrI p2 (8 : Int32)))), s_a0_5, s_a0_6, s_a0_7, s_a0_8, s_a0_9] i 0)) := Ary.eqv A424 (fun i _ => setD Value.int [s_a0_0, s_a0_1, (nar .byte (i2b (ushrI p2 (24 : Int32)))), (nar .byte (i2b (ushrI p2 (16 : Int32)))), s_a0_4, s_a0_5, s_a0_6, s_a0_7, s_a0_8, s_a0_9] 4 (nar .byte (i2b (ushrI p2 (8 : Int32)))) 0 (Nat.le_of_ble_eq_true rfl) i)
  have N426 := Fr.snoc X421 N416 ge_a0
  have K427 := Keep.wr K417 W423 (Or.inl (List.mem_of_getElem? (i := 0) rfl))
  have Z428 := Nat.le_trans Z418 (Nat.le_of_eq (Wr.size W423).symm)
  refine k_aloadN K X421 d4_28 rfl rfl (q := 29) rfl ?_
  refine k_iloadN K X421 d4_29 rfl (q := 30) rfl ?_
  refine k_iconst K X421 d4_30 (v := (3 : Int32)) rfl (q := 31) rfl ?_
  refine k_iadd K X421 d4_31 (q := 32) rfl ?_
  refine k_nameI (v := (5 : Int32)) (by decide) ?_
  refine k_iloadN K X421 d4_32 rfl (q := 33) rfl ?_
  refine k_i2b K X421 d4_33 (q := 34) rfl ?_
  refine k_bastore K X421 e422 d4_34 f425 (i := 5) (by decide) (by decide) (q := 35) rfl ?_
  intro T429 h430 X431 e432 W433 A434
  have f435 : Ary Z h430 a0 .byte 10 (fun i => Value.int (List.getD [s_a0_0, s_a0_1, (nar .byte (i2b (ushrI p2 (24 : Int32)))), (nar .byte (i2b (ushrI p2 (16 : Int32)))), (nar .byte (i2b (ushrI p2 (8 : Int32)))), (nar .byte (i2b p2)), s_a0_6, s_a0_7, s_a0_8, s_a0_9] i 0)) := Ary.eqv A434 (fun i _ => setD Value.int [s_a0_0, s_a0_1, (nar .byte (i2b (ushrI p2 (24 : Int32)))), (nar .byte (i2b (ushrI p2 (16 : Int32)))), (nar .byte (i2b (ushrI p2 (8 : Int32)))), s_a0_5, s_a0_6, s_a0_7, s_a0_8, s_a0_9] 5 (nar .byte (i2b p2)) 0 (Nat.le_of_ble_eq_true rfl) i)
  have N436 := Fr.snoc X431 N426 ge_a0
  have K437 := Keep.wr K427 W433 (Or.inl (List.mem_of_getElem? (i := 0) rfl))
  have Z438 := Nat.le_trans Z428 (Nat.le_of_eq (Wr.size W433).symm)
  exact k_retv K X431 e432 d4_35 (Nat.le_trans (by decide) hkc) (Nat.le_trans (by decide) hkn) (hQ _ _ _ ⟨rfl, N436, K437, f435⟩)
theorem ef_4_10_6 (a0 : Addr) (p2 : Int32) : ∀ m : MethodId, entryFrame m #[(.ref a0), (.int (6 : Int32)), (.int p2)] 3 = mkF m 0 #[.val (.ref a0), .val (.int (6 : Int32)), .val (.int p2)] [] := by intro m; first | (simp [entryFrame, mkF, argsToLocals, Value.category]; done) | rfl
set_option maxRecDepth 65536 in
set_option maxHeartbeats 40000000 in
theorem rm4_10_6 (l : Launch) (Z : State) (az : Array Value) (hw : ∀ d ∈ tables_1, d.before az Z = true) (ws : List Jvm.Cond) (a0 : Addr) (p2 : Int32) (s_a0_0 : Int32) (s_a0_1 : Int32) (s_a0_2 : Int32) (s_a0_3 : Int32) (s_a0_4 : Int32) (s_a0_5 : Int32) (s_a0_6 : Int32) (s_a0_7 : Int32) (s_a0_8 : Int32) (s_a0_9 : Int32) (h0 : Heap) (n0 : Nat) (Z0 : n0 ≤ h0.size) (A_a0 : Ary Z h0 a0 .byte 10 (fun i => Value.int (List.getD [s_a0_0, s_a0_1, s_a0_2, s_a0_3, s_a0_4, s_a0_5, s_a0_6, s_a0_7, s_a0_8, s_a0_9] i 0))) (ge_a0 : n0 ≤ a0) :
    Met l (⟨"com/example/muster/muster/search/SortKeys", "writeNumber", "([BII)V"⟩ : MethodName) prog_84_method_9_code 3 none ws ({ frames := 0, cells := 0, slots := 0, locals := 0 } : Room) Z #[(.ref a0), (.int (6 : Int32)), (.int p2)] h0 (fun v h' L => v = none ∧ Fr n0 L ∧ Keep h0 h' [a0] ∧ Ary Z h' a0 .byte 10 (fun i => Value.int (List.getD [s_a0_0, s_a0_1, s_a0_2, s_a0_3, s_a0_4, s_a0_5, (nar .byte (i2b (ushrI p2 (24 : Int32)))), (nar .byte (i2b (ushrI p2 (16 : Int32)))), (nar .byte (i2b (ushrI p2 (8 : Int32)))), (nar .byte (i2b p2))] i 0))) := by
  refine enter (plainFor_of_name pn_1) (ef_4_10_6 a0 p2) ?_
  intro p e s m below meth c T0 kc kn Q hkc hkn hQ K' X0 e0
  have K : Fx p s m meth c prog_84_method_9_code 3 "com/example/muster/muster/search/SortKeys" "writeNumber" none Z := K'
  have N0 := Fr.nil n0
  have K0 : Keep h0 h0 [a0] := Keep.refl _ _
  refine k_aloadN K X0 d4_0 rfl rfl (q := 1) rfl ?_
  refine k_iloadN K X0 d4_1 rfl (q := 2) rfl ?_
  refine k_iloadN K X0 d4_2 rfl (q := 3) rfl ?_
  refine k_bipush K X0 d4_3 (v := (24 : Int32)) rfl (q := 5) rfl ?_
  refine k_iushr K X0 d4_5 (q := 6) rfl ?_
  refine k_i2b K X0 d4_6 (q := 7) rfl ?_
  refine k_bastore K X0 e0 d4_7 A_a0 (i := 6) (by decide) (by decide) (q := 8) rfl ?_
  intro T439 h440 X441 e442 W443 A444
  have f445 : Ary Z h440 a0 .byte 10 (fun i => Value.int (List.getD [s_a0_0, s_a0_1, s_a0_2, s_a0_3, s_a0_4, s_a0_5, (nar .byte (i2b (ushrI p2 (24 : Int32)))), s_a0_7, s_a0_8, s_a0_9] i 0)) := Ary.eqv A444 (fun i _ => setD Value.int [s_a0_0, s_a0_1, s_a0_2, s_a0_3, s_a0_4, s_a0_5, s_a0_6, s_a0_7, s_a0_8, s_a0_9] 6 (nar .byte (i2b (ushrI p2 (24 : Int32)))) 0 (Nat.le_of_ble_eq_true rfl) i)
  have N446 := Fr.snoc X441 N0 ge_a0
  have K447 := Keep.wr K0 W443 (Or.inl (List.mem_of_getElem? (i := 0) rfl))
  have Z448 := Nat.le_trans Z0 (Nat.le_of_eq (Wr.size W443).symm)
  refine k_aloadN K X441 d4_8 rfl rfl (q := 9) rfl ?_
  refine k_iloadN K X441 d4_9 rfl (q := 10) rfl ?_
  refine k_iconst K X441 d4_10 (v := (1 : Int32)) rfl (q := 11) rfl ?_
  refine k_iadd K X441 d4_11 (q := 12) rfl ?_
  refine k_nameI (v := (7 : Int32)) (by decide) ?_
  refine k_iloadN K X441 d4_12 rfl (q := 13) rfl ?_
  refine k_bipush K X441 d4_13 (v := (16 : Int32)) rfl (q := 15) rfl ?_
  refine k_iushr K X441 d4_15 (q := 16) rfl ?_
  refine k_i2b K X441 d4_16 (q := 17) rfl ?_
  refine k_bastore K X441 e442 d4_17 f445 (i := 7) (by decide) (by decide) (q := 18) rfl ?_
  intro T449 h450 X451 e452 W453 A454
  have f455 : Ary Z h450 a0 .byte 10 (fun i => Value.int (List.getD [s_a0_0, s_a0_1, s_a0_2, s_a0_3, s_a0_4, s_a0_5, (nar .byte (i2b (ushrI p2 (24 : Int32)))), (nar .byte (i2b (ushrI p2 (16 : Int32)))), s_a0_8, s_a0_9] i 0)) := Ary.eqv A454 (fun i _ => setD Value.int [s_a0_0, s_a0_1, s_a0_2, s_a0_3, s_a0_4, s_a0_5, (nar .byte (i2b (ushrI p2 (24 : Int32)))), s_a0_7, s_a0_8, s_a0_9] 7 (nar .byte (i2b (ushrI p2 (16 : Int32)))) 0 (Nat.le_of_ble_eq_true rfl) i)
  have N456 := Fr.snoc X451 N446 ge_a0
  have K457 := Keep.wr K447 W453 (Or.inl (List.mem_of_getElem? (i := 0) rfl))
  have Z458 := Nat.le_trans Z448 (Nat.le_of_eq (Wr.size W453).symm)
  refine k_aloadN K X451 d4_18 rfl rfl (q := 19) rfl ?_
  refine k_iloadN K X451 d4_19 rfl (q := 20) rfl ?_
  refine k_iconst K X451 d4_20 (v := (2 : Int32)) rfl (q := 21) rfl ?_
  refine k_iadd K X451 d4_21 (q := 22) rfl ?_
  refine k_nameI (v := (8 : Int32)) (by decide) ?_
  refine k_iloadN K X451 d4_22 rfl (q := 23) rfl ?_
  refine k_bipush K X451 d4_23 (v := (8 : Int32)) rfl (q := 25) rfl ?_
  refine k_iushr K X451 d4_25 (q := 26) rfl ?_
  refine k_i2b K X451 d4_26 (q := 27) rfl ?_
  refine k_bastore K X451 e452 d4_27 f455 (i := 8) (by decide) (by decide) (q := 28) rfl ?_
  intro T459 h460 X461 e462 W463 A464
  have f465 : Ary Z h460 a0 .byte 10 (fun i => Value.int (List.getD [s_a0_0, s_a0_1, s_a0_2, s_a0_3, s_a0_4, s_a0_5, (nar .byte (i2b (ushrI p2 (24 : Int32)))), (nar .byte (i2b (ushrI p2 (16 : Int32)))), (nar .byte (i2b (ushrI p2 (8 : Int32)))), s_a0_9] i 0)) := Ary.eqv A464 (fun i _ => setD Value.int [s_a0_0, s_a0_1, s_a0_2, s_a0_3, s_a0_4, s_a0_5, (nar .byte (i2b (ushrI p2 (24 : Int32)))), (nar .byte (i2b (ushrI p2 (16 : Int32)))), s_a0_8, s_a0_9] 8 (nar .byte (i2b (ushrI p2 (8 : Int32)))) 0 (Nat.le_of_ble_eq_true rfl) i)
  have N466 := Fr.snoc X461 N456 ge_a0
  have K467 := Keep.wr K457 W463 (Or.inl (List.mem_of_getElem? (i := 0) rfl))
  have Z468 := Nat.le_trans Z458 (Nat.le_of_eq (Wr.size W463).symm)
  refine k_aloadN K X461 d4_28 rfl rfl (q := 29) rfl ?_
  refine k_iloadN K X461 d4_29 rfl (q := 30) rfl ?_
  refine k_iconst K X461 d4_30 (v := (3 : Int32)) rfl (q := 31) rfl ?_
  refine k_iadd K X461 d4_31 (q := 32) rfl ?_
  refine k_nameI (v := (9 : Int32)) (by decide) ?_
  refine k_iloadN K X461 d4_32 rfl (q := 33) rfl ?_
  refine k_i2b K X461 d4_33 (q := 34) rfl ?_
  refine k_bastore K X461 e462 d4_34 f465 (i := 9) (by decide) (by decide) (q := 35) rfl ?_
  intro T469 h470 X471 e472 W473 A474
  have f475 : Ary Z h470 a0 .byte 10 (fun i => Value.int (List.getD [s_a0_0, s_a0_1, s_a0_2, s_a0_3, s_a0_4, s_a0_5, (nar .byte (i2b (ushrI p2 (24 : Int32)))), (nar .byte (i2b (ushrI p2 (16 : Int32)))), (nar .byte (i2b (ushrI p2 (8 : Int32)))), (nar .byte (i2b p2))] i 0)) := Ary.eqv A474 (fun i _ => setD Value.int [s_a0_0, s_a0_1, s_a0_2, s_a0_3, s_a0_4, s_a0_5, (nar .byte (i2b (ushrI p2 (24 : Int32)))), (nar .byte (i2b (ushrI p2 (16 : Int32)))), (nar .byte (i2b (ushrI p2 (8 : Int32)))), s_a0_9] 9 (nar .byte (i2b p2)) 0 (Nat.le_of_ble_eq_true rfl) i)
  have N476 := Fr.snoc X471 N466 ge_a0
  have K477 := Keep.wr K467 W473 (Or.inl (List.mem_of_getElem? (i := 0) rfl))
  have Z478 := Nat.le_trans Z468 (Nat.le_of_eq (Wr.size W473).symm)
  exact k_retv K X471 e472 d4_35 (Nat.le_trans (by decide) hkc) (Nat.le_trans (by decide) hkn) (hQ _ _ _ ⟨rfl, N476, K477, f475⟩)
theorem ef_1_2 (a0 : Addr) (a1 : Addr) : ∀ m : MethodId, entryFrame m #[(.ref a0), (.ref a1)] 4 = mkF m 0 #[.val (.ref a0), .val (.ref a1), .unset, .unset] [] := by intro m; first | (simp [entryFrame, mkF, argsToLocals, Value.category]; done) | rfl
def F_withNumbers_2_new0_0 (s_a0_0 : Int32) (s_a0_1 : Int32) (s_a1_0 : Int32) (s_a1_1 : Int32) : Int32 :=
  let v511 : Int32 := (nar .byte (i2b (ushrI s_a1_0 (24 : Int32))))
  let v512 : Int32 := (nar .byte (i2b (ushrI s_a1_0 (16 : Int32))))
  let v513 : Int32 := (nar .byte (i2b (ushrI s_a1_0 (8 : Int32))))
  let v514 : Int32 := (nar .byte (i2b s_a1_0))
  let v528 : Int32 := (nar .byte (i2b (ushrI s_a1_1 (24 : Int32))))
  let v529 : Int32 := (nar .byte (i2b (ushrI s_a1_1 (16 : Int32))))
  let v530 : Int32 := (nar .byte (i2b (ushrI s_a1_1 (8 : Int32))))
  let v531 : Int32 := (nar .byte (i2b s_a1_1))
  s_a0_0
def F_withNumbers_2_new0_1 (s_a0_0 : Int32) (s_a0_1 : Int32) (s_a1_0 : Int32) (s_a1_1 : Int32) : Int32 :=
  let v511 : Int32 := (nar .byte (i2b (ushrI s_a1_0 (24 : Int32))))
  let v512 : Int32 := (nar .byte (i2b (ushrI s_a1_0 (16 : Int32))))
  let v513 : Int32 := (nar .byte (i2b (ushrI s_a1_0 (8 : Int32))))
  let v514 : Int32 := (nar .byte (i2b s_a1_0))
  let v528 : Int32 := (nar .byte (i2b (ushrI s_a1_1 (24 : Int32))))
  let v529 : Int32 := (nar .byte (i2b (ushrI s_a1_1 (16 : Int32))))
  let v530 : Int32 := (nar .byte (i2b (ushrI s_a1_1 (8 : Int32))))
  let v531 : Int32 := (nar .byte (i2b s_a1_1))
  s_a0_1
def F_withNumbers_2_new0_2 (s_a0_0 : Int32) (s_a0_1 : Int32) (s_a1_0 : Int32) (s_a1_1 : Int32) : Int32 :=
  let v511 : Int32 := (nar .byte (i2b (ushrI s_a1_0 (24 : Int32))))
  let v512 : Int32 := (nar .byte (i2b (ushrI s_a1_0 (16 : Int32))))
  let v513 : Int32 := (nar .byte (i2b (ushrI s_a1_0 (8 : Int32))))
  let v514 : Int32 := (nar .byte (i2b s_a1_0))
  let v528 : Int32 := (nar .byte (i2b (ushrI s_a1_1 (24 : Int32))))
  let v529 : Int32 := (nar .byte (i2b (ushrI s_a1_1 (16 : Int32))))
  let v530 : Int32 := (nar .byte (i2b (ushrI s_a1_1 (8 : Int32))))
  let v531 : Int32 := (nar .byte (i2b s_a1_1))
  v511
def F_withNumbers_2_new0_3 (s_a0_0 : Int32) (s_a0_1 : Int32) (s_a1_0 : Int32) (s_a1_1 : Int32) : Int32 :=
  let v511 : Int32 := (nar .byte (i2b (ushrI s_a1_0 (24 : Int32))))
  let v512 : Int32 := (nar .byte (i2b (ushrI s_a1_0 (16 : Int32))))
  let v513 : Int32 := (nar .byte (i2b (ushrI s_a1_0 (8 : Int32))))
  let v514 : Int32 := (nar .byte (i2b s_a1_0))
  let v528 : Int32 := (nar .byte (i2b (ushrI s_a1_1 (24 : Int32))))
  let v529 : Int32 := (nar .byte (i2b (ushrI s_a1_1 (16 : Int32))))
  let v530 : Int32 := (nar .byte (i2b (ushrI s_a1_1 (8 : Int32))))
  let v531 : Int32 := (nar .byte (i2b s_a1_1))
  v512
def F_withNumbers_2_new0_4 (s_a0_0 : Int32) (s_a0_1 : Int32) (s_a1_0 : Int32) (s_a1_1 : Int32) : Int32 :=
  let v511 : Int32 := (nar .byte (i2b (ushrI s_a1_0 (24 : Int32))))
  let v512 : Int32 := (nar .byte (i2b (ushrI s_a1_0 (16 : Int32))))
  let v513 : Int32 := (nar .byte (i2b (ushrI s_a1_0 (8 : Int32))))
  let v514 : Int32 := (nar .byte (i2b s_a1_0))
  let v528 : Int32 := (nar .byte (i2b (ushrI s_a1_1 (24 : Int32))))
  let v529 : Int32 := (nar .byte (i2b (ushrI s_a1_1 (16 : Int32))))
  let v530 : Int32 := (nar .byte (i2b (ushrI s_a1_1 (8 : Int32))))
  let v531 : Int32 := (nar .byte (i2b s_a1_1))
  v513
def F_withNumbers_2_new0_5 (s_a0_0 : Int32) (s_a0_1 : Int32) (s_a1_0 : Int32) (s_a1_1 : Int32) : Int32 :=
  let v511 : Int32 := (nar .byte (i2b (ushrI s_a1_0 (24 : Int32))))
  let v512 : Int32 := (nar .byte (i2b (ushrI s_a1_0 (16 : Int32))))
  let v513 : Int32 := (nar .byte (i2b (ushrI s_a1_0 (8 : Int32))))
  let v514 : Int32 := (nar .byte (i2b s_a1_0))
  let v528 : Int32 := (nar .byte (i2b (ushrI s_a1_1 (24 : Int32))))
  let v529 : Int32 := (nar .byte (i2b (ushrI s_a1_1 (16 : Int32))))
  let v530 : Int32 := (nar .byte (i2b (ushrI s_a1_1 (8 : Int32))))
  let v531 : Int32 := (nar .byte (i2b s_a1_1))
  v514
def F_withNumbers_2_new0_6 (s_a0_0 : Int32) (s_a0_1 : Int32) (s_a1_0 : Int32) (s_a1_1 : Int32) : Int32 :=
  let v511 : Int32 := (nar .byte (i2b (ushrI s_a1_0 (24 : Int32))))
  let v512 : Int32 := (nar .byte (i2b (ushrI s_a1_0 (16 : Int32))))
  let v513 : Int32 := (nar .byte (i2b (ushrI s_a1_0 (8 : Int32))))
  let v514 : Int32 := (nar .byte (i2b s_a1_0))
  let v528 : Int32 := (nar .byte (i2b (ushrI s_a1_1 (24 : Int32))))
  let v529 : Int32 := (nar .byte (i2b (ushrI s_a1_1 (16 : Int32))))
  let v530 : Int32 := (nar .byte (i2b (ushrI s_a1_1 (8 : Int32))))
  let v531 : Int32 := (nar .byte (i2b s_a1_1))
  v528
def F_withNumbers_2_new0_7 (s_a0_0 : Int32) (s_a0_1 : Int32) (s_a1_0 : Int32) (s_a1_1 : Int32) : Int32 :=
  let v511 : Int32 := (nar .byte (i2b (ushrI s_a1_0 (24 : Int32))))
  let v512 : Int32 := (nar .byte (i2b (ushrI s_a1_0 (16 : Int32))))
  let v513 : Int32 := (nar .byte (i2b (ushrI s_a1_0 (8 : Int32))))
  let v514 : Int32 := (nar .byte (i2b s_a1_0))
  let v528 : Int32 := (nar .byte (i2b (ushrI s_a1_1 (24 : Int32))))
  let v529 : Int32 := (nar .byte (i2b (ushrI s_a1_1 (16 : Int32))))
  let v530 : Int32 := (nar .byte (i2b (ushrI s_a1_1 (8 : Int32))))
  let v531 : Int32 := (nar .byte (i2b s_a1_1))
  v529
def F_withNumbers_2_new0_8 (s_a0_0 : Int32) (s_a0_1 : Int32) (s_a1_0 : Int32) (s_a1_1 : Int32) : Int32 :=
  let v511 : Int32 := (nar .byte (i2b (ushrI s_a1_0 (24 : Int32))))
  let v512 : Int32 := (nar .byte (i2b (ushrI s_a1_0 (16 : Int32))))
  let v513 : Int32 := (nar .byte (i2b (ushrI s_a1_0 (8 : Int32))))
  let v514 : Int32 := (nar .byte (i2b s_a1_0))
  let v528 : Int32 := (nar .byte (i2b (ushrI s_a1_1 (24 : Int32))))
  let v529 : Int32 := (nar .byte (i2b (ushrI s_a1_1 (16 : Int32))))
  let v530 : Int32 := (nar .byte (i2b (ushrI s_a1_1 (8 : Int32))))
  let v531 : Int32 := (nar .byte (i2b s_a1_1))
  v530
def F_withNumbers_2_new0_9 (s_a0_0 : Int32) (s_a0_1 : Int32) (s_a1_0 : Int32) (s_a1_1 : Int32) : Int32 :=
  let v511 : Int32 := (nar .byte (i2b (ushrI s_a1_0 (24 : Int32))))
  let v512 : Int32 := (nar .byte (i2b (ushrI s_a1_0 (16 : Int32))))
  let v513 : Int32 := (nar .byte (i2b (ushrI s_a1_0 (8 : Int32))))
  let v514 : Int32 := (nar .byte (i2b s_a1_0))
  let v528 : Int32 := (nar .byte (i2b (ushrI s_a1_1 (24 : Int32))))
  let v529 : Int32 := (nar .byte (i2b (ushrI s_a1_1 (16 : Int32))))
  let v530 : Int32 := (nar .byte (i2b (ushrI s_a1_1 (8 : Int32))))
  let v531 : Int32 := (nar .byte (i2b s_a1_1))
  v531
set_option maxRecDepth 65536 in
set_option maxHeartbeats 40000000 in
theorem rm1_2 (l : Launch) (Z : State) (az : Array Value) (hw : ∀ d ∈ tables_1, d.before az Z = true) (ws : List Jvm.Cond) (a0 : Addr) (a1 : Addr) (s_a0_0 : Int32) (s_a0_1 : Int32) (s_a1_0 : Int32) (s_a1_1 : Int32) (h0 : Heap) (n0 : Nat) (Z0 : n0 ≤ h0.size) (A_a0 : Ary Z h0 a0 .byte 2 (fun i => Value.int (List.getD [s_a0_0, s_a0_1] i 0))) (A_a1 : Ary Z h0 a1 .int 2 (fun i => Value.int (List.getD [s_a1_0, s_a1_1] i 0))) :
    Met l (⟨"com/example/muster/muster/search/SortKeys", "withNumbers", "([B[I)[B"⟩ : MethodName) prog_84_method_7_code 4 (some (.array .byte)) ws ({ frames := 2, cells := 1, slots := 10, locals := 32 } : Room) Z #[(.ref a0), (.ref a1)] h0 (fun v h' L => ∃ b485 : Addr, n0 ≤ b485 ∧ h0.size ≤ b485 ∧ v = some (.ref b485) ∧ Fr n0 L ∧ Keep h0 h' [] ∧ Exa Z h' b485 "[B" ∧ Ary Z h' b485 .byte 10 (fun i => Value.int (List.getD [(F_withNumbers_2_new0_0 s_a0_0 s_a0_1 s_a1_0 s_a1_1), (F_withNumbers_2_new0_1 s_a0_0 s_a0_1 s_a1_0 s_a1_1), (F_withNumbers_2_new0_2 s_a0_0 s_a0_1 s_a1_0 s_a1_1), (F_withNumbers_2_new0_3 s_a0_0 s_a0_1 s_a1_0 s_a1_1), (F_withNumbers_2_new0_4 s_a0_0 s_a0_1 s_a1_0 s_a1_1), (F_withNumbers_2_new0_5 s_a0_0 s_a0_1 s_a1_0 s_a1_1), (F_withNumbers_2_new0_6 s_a0_0 s_a0_1 s_a1_0 s_a1_1), (F_withNumbers_2_new0_7 s_a0_0 s_a0_1 s_a1_0 s_a1_1), (F_withNumbers_2_new0_8 s_a0_0 s_a0_1 s_a1_0 s_a1_1), (F_withNumbers_2_new0_9 s_a0_0 s_a0_1 s_a1_0 s_a1_1)] i 0))) := by
  refine enter (plainFor_of_name pn_1) (ef_1_2 a0 a1) ?_
  intro p e s m below meth c T0 kc kn Q hkc hkn hQ K' X0 e0
  have K : Fx p s m meth c prog_84_method_7_code 4 "com/example/muster/muster/search/SortKeys" "withNumbers" (some (.array .byte)) Z := K'
  have N0 := Fr.nil n0
  have K0 : Keep h0 h0 [] := Keep.refl _ _
  refine k_aloadN K X0 d1_0 rfl rfl (q := 1) rfl ?_
  refine k_aloadN K X0 d1_1 rfl rfl (q := 2) rfl ?_
  refine k_arraylength K X0 e0 d1_2 A_a0 (v := (2 : Int32)) rfl (q := 3) rfl ?_
  refine k_iconst K X0 d1_3 (v := (4 : Int32)) rfl (q := 4) rfl ?_
  refine k_aloadN K X0 d1_4 rfl rfl (q := 5) rfl ?_
  refine k_arraylength K X0 e0 d1_5 A_a1 (v := (2 : Int32)) rfl (q := 6) rfl ?_
  refine k_imul K X0 d1_6 (q := 7) rfl ?_
  refine k_nameI (v := (8 : Int32)) (by decide) ?_
  refine k_iadd K X0 d1_7 (q := 8) rfl ?_
  refine k_nameI (v := (10 : Int32)) (by decide) ?_
  refine k_static K X0 e0 d1_8 (wd hw 6 rfl) (wd hw 7 rfl) (wd hw 8 rfl) (wd hw 9 rfl) (by decide) (rm2_2 l Z az hw [] a0 s_a0_0 s_a0_1 h0 n0 Z0 A_a0) (W := 0) (by decide) (by decide) (by decide) (by decide) rfl pd_1 (argsL := [(.ref a0), (.int (10 : Int32))]) (rest := []) rfl rfl rfl (Nat.le_of_eq rfl) (q := 11) rfl ?_
  rintro _ T479 L480 X481 ⟨b485, ge486, bn487, rfl, N482, K483, f488, f489⟩
  have ne490 : a0 ≠ b485 := Nat.ne_of_lt (Nat.lt_of_lt_of_le (A_a0).lt bn487)
  have ne491 : a1 ≠ b485 := Nat.ne_of_lt (Nat.lt_of_lt_of_le (A_a1).lt bn487)
  have bn492 : h0.size ≤ b485 := Nat.le_trans K0.1 bn487
  have f493 := Ary.keep A_a0 K483 nin0
  have f494 := Ary.keep A_a1 K483 nin0
  have N495 := Fr.app N0 N482
  have K496 := Keep.trans K0 K483 all0
  have Z497 := Nat.le_trans Z0 K483.1
  refine k_astoreN K X481 d1_11 rfl (Ls' := #[.val (.ref a0), .val (.ref a1), .val (.ref b485), .unset]) rfl (q := 12) rfl ?_
  refine k_iconst K X481 d1_12 (v := (0 : Int32)) rfl (q := 13) rfl ?_
  refine k_istoreN K X481 d1_13 rfl (Ls' := #[.val (.ref a0), .val (.ref a1), .val (.ref b485), .val (.int (0 : Int32))]) rfl (q := 14) rfl ?_
  refine k_iloadN K X481 d1_14 rfl (q := 15) rfl ?_
  refine k_aloadN K X481 d1_15 rfl rfl (q := 16) rfl ?_
  refine k_arraylength K X481 rfl d1_16 f494 (v := (2 : Int32)) rfl (q := 17) rfl ?_
  refine k_icmp_ge_n K X481 d1_17 (by decide) (q := 20) rfl ?_
  refine k_aloadN K X481 d1_20 rfl rfl (q := 21) rfl ?_
  refine k_aloadN K X481 d1_21 rfl rfl (q := 22) rfl ?_
  refine k_arraylength K X481 rfl d1_22 f493 (v := (2 : Int32)) rfl (q := 23) rfl ?_
  refine k_iconst K X481 d1_23 (v := (4 : Int32)) rfl (q := 24) rfl ?_
  refine k_iloadN K X481 d1_24 rfl (q := 25) rfl ?_
  refine k_imul K X481 d1_25 (q := 26) rfl ?_
  refine k_nameI (v := (0 : Int32)) (by decide) ?_
  refine k_iadd K X481 d1_26 (q := 27) rfl ?_
  refine k_nameI (v := (2 : Int32)) (by decide) ?_
  refine k_aloadN K X481 d1_27 rfl rfl (q := 28) rfl ?_
  refine k_iloadN K X481 d1_28 rfl (q := 29) rfl ?_
  refine k_iaload K X481 rfl d1_29 f494 (i := 0) (v := (.int s_a1_0)) (by decide) (by decide) rfl (q := 30) rfl ?_
  refine k_static K X481 rfl d1_30 (wd hw 18 rfl) (wd hw 19 rfl) (wd hw 4 rfl) (wd hw 20 rfl) (by decide) (rm4_10_2 l Z az hw [] b485 s_a1_0 s_a0_0 s_a0_1 (0 : Int32) (0 : Int32) (0 : Int32) (0 : Int32) (0 : Int32) (0 : Int32) (0 : Int32) (0 : Int32) T479.heap n0 Z497 f489 ge486) (W := 0) (by decide) (by decide) (by decide) (by decide) rfl pd_2 (argsL := [(.ref b485), (.int (2 : Int32)), (.int s_a1_0)]) (rest := []) rfl rfl rfl (Nat.le_of_eq rfl) (q := 33) rfl ?_
  rintro _ T498 L499 X500 ⟨rfl, N501, K502, f504⟩
  have f505 := Ary.keep f493 K502 (ninS ne490 nin0)
  have f506 := Ary.keep f494 K502 (ninS ne491 nin0)
  have f507 := Exa.keep f488 K502
  have N508 := Fr.app N495 N501
  have K509 := Keep.trans K496 K502 (allS (Or.inr bn492) all0)
  have Z510 := Nat.le_trans Z497 K502.1
  obtain ⟨v511, hv_v511⟩ : ∃ z : Int32, (nar .byte (i2b (ushrI s_a1_0 (24 : Int32)))) = z := ⟨_, rfl⟩
  rw [hv_v511] at f504
  obtain ⟨v512, hv_v512⟩ : ∃ z : Int32, (nar .byte (i2b (ushrI s_a1_0 (16 : Int32)))) = z := ⟨_, rfl⟩
  rw [hv_v512] at f504
  obtain ⟨v513, hv_v513⟩ : ∃ z : Int32, (nar .byte (i2b (ushrI s_a1_0 (8 : Int32)))) = z := ⟨_, rfl⟩
  rw [hv_v513] at f504
  obtain ⟨v514, hv_v514⟩ : ∃ z : Int32, (nar .byte (i2b s_a1_0)) = z := ⟨_, rfl⟩
  rw [hv_v514] at f504
  refine k_iinc K X500 d1_33 rfl (by decide) (Ls' := #[.val (.ref a0), .val (.ref a1), .val (.ref b485), .val (.int (1 : Int32))]) rfl (q := 36) rfl ?_
  refine k_goto K X500 d1_36 (by decide) (q := 14) rfl ?_
  refine k_iloadN K X500 d1_14 rfl (q := 15) rfl ?_
  refine k_aloadN K X500 d1_15 rfl rfl (q := 16) rfl ?_
  refine k_arraylength K X500 rfl d1_16 f506 (v := (2 : Int32)) rfl (q := 17) rfl ?_
  refine k_icmp_ge_n K X500 d1_17 (by decide) (q := 20) rfl ?_
  refine k_aloadN K X500 d1_20 rfl rfl (q := 21) rfl ?_
  refine k_aloadN K X500 d1_21 rfl rfl (q := 22) rfl ?_
  refine k_arraylength K X500 rfl d1_22 f505 (v := (2 : Int32)) rfl (q := 23) rfl ?_
  refine k_iconst K X500 d1_23 (v := (4 : Int32)) rfl (q := 24) rfl ?_
  refine k_iloadN K X500 d1_24 rfl (q := 25) rfl ?_
  refine k_imul K X500 d1_25 (q := 26) rfl ?_
  refine k_nameI (v := (4 : Int32)) (by decide) ?_
  refine k_iadd K X500 d1_26 (q := 27) rfl ?_
  refine k_nameI (v := (6 : Int32)) (by decide) ?_
  refine k_aloadN K X500 d1_27 rfl rfl (q := 28) rfl ?_
  refine k_iloadN K X500 d1_28 rfl (q := 29) rfl ?_
  refine k_iaload K X500 rfl d1_29 f506 (i := 1) (v := (.int s_a1_1)) (by decide) (by decide) rfl (q := 30) rfl ?_
  refine k_static K X500 rfl d1_30 (wd hw 18 rfl) (wd hw 19 rfl) (wd hw 4 rfl) (wd hw 20 rfl) (by decide) (rm4_10_6 l Z az hw [] b485 s_a1_1 s_a0_0 s_a0_1 v511 v512 v513 v514 (0 : Int32) (0 : Int32) (0 : Int32) (0 : Int32) T498.heap n0 Z510 f504 ge486) (W := 0) (by decide) (by decide) (by decide) (by decide) rfl pd_2 (argsL := [(.ref b485), (.int (6 : Int32)), (.int s_a1_1)]) (rest := []) rfl rfl rfl (Nat.le_of_eq rfl) (q := 33) rfl ?_
  rintro _ T515 L516 X517 ⟨rfl, N518, K519, f521⟩
  have f522 := Ary.keep f505 K519 (ninS ne490 nin0)
  have f523 := Ary.keep f506 K519 (ninS ne491 nin0)
  have f524 := Exa.keep f507 K519
  have N525 := Fr.app N508 N518
  have K526 := Keep.trans K509 K519 (allS (Or.inr bn492) all0)
  have Z527 := Nat.le_trans Z510 K519.1
  obtain ⟨v528, hv_v528⟩ : ∃ z : Int32, (nar .byte (i2b (ushrI s_a1_1 (24 : Int32)))) = z := ⟨_, rfl⟩
  rw [hv_v528] at f521
  obtain ⟨v529, hv_v529⟩ : ∃ z : Int32, (nar .byte (i2b (ushrI s_a1_1 (16 : Int32)))) = z := ⟨_, rfl⟩
  rw [hv_v529] at f521
  obtain ⟨v530, hv_v530⟩ : ∃ z : Int32, (nar .byte (i2b (ushrI s_a1_1 (8 : Int32)))) = z := ⟨_, rfl⟩
  rw [hv_v530] at f521
  obtain ⟨v531, hv_v531⟩ : ∃ z : Int32, (nar .byte (i2b s_a1_1)) = z := ⟨_, rfl⟩
  rw [hv_v531] at f521
  refine k_iinc K X517 d1_33 rfl (by decide) (Ls' := #[.val (.ref a0), .val (.ref a1), .val (.ref b485), .val (.int (2 : Int32))]) rfl (q := 36) rfl ?_
  refine k_goto K X517 d1_36 (by decide) (q := 14) rfl ?_
  refine k_iloadN K X517 d1_14 rfl (q := 15) rfl ?_
  refine k_aloadN K X517 d1_15 rfl rfl (q := 16) rfl ?_
  refine k_arraylength K X517 rfl d1_16 f523 (v := (2 : Int32)) rfl (q := 17) rfl ?_
  refine k_icmp_ge_y K X517 d1_17 (by decide) (by decide) (q := 39) rfl ?_
  refine k_aloadN K X517 d1_39 rfl rfl (q := 40) rfl ?_
  exact k_reta K X517 rfl d1_40 rfl rfl (Nat.le_trans (by decide) hkc) (Nat.le_trans (by decide) hkn) (hQ _ _ _ ⟨b485, ge486, bn492, rfl, N525, K526, f524, (by rw [(show F_withNumbers_2_new0_0 s_a0_0 s_a0_1 s_a1_0 s_a1_1 = s_a0_0 from by first | (simp only [F_withNumbers_2_new0_0, hv_v511, hv_v512, hv_v513, hv_v514, hv_v528, hv_v529, hv_v530, hv_v531]; done) | (subst hv_v511; subst hv_v512; subst hv_v513; subst hv_v514; subst hv_v528; subst hv_v529; subst hv_v530; subst hv_v531; simp only [F_withNumbers_2_new0_0])), (show F_withNumbers_2_new0_1 s_a0_0 s_a0_1 s_a1_0 s_a1_1 = s_a0_1 from by first | (simp only [F_withNumbers_2_new0_1, hv_v511, hv_v512, hv_v513, hv_v514, hv_v528, hv_v529, hv_v530, hv_v531]; done) | (subst hv_v511; subst hv_v512; subst hv_v513; subst hv_v514; subst hv_v528; subst hv_v529; subst hv_v530; subst hv_v531; simp only [F_withNumbers_2_new0_1])), (show F_withNumbers_2_new0_2 s_a0_0 s_a0_1 s_a1_0 s_a1_1 = v511 from by first | (simp only [F_withNumbers_2_new0_2, hv_v511, hv_v512, hv_v513, hv_v514, hv_v528, hv_v529, hv_v530, hv_v531]; done) | (subst hv_v511; subst hv_v512; subst hv_v513; subst hv_v514; subst hv_v528; subst hv_v529; subst hv_v530; subst hv_v531; simp only [F_withNumbers_2_new0_2])), (show F_withNumbers_2_new0_3 s_a0_0 s_a0_1 s_a1_0 s_a1_1 = v512 from by first | (simp only [F_withNumbers_2_new0_3, hv_v511, hv_v512, hv_v513, hv_v514, hv_v528, hv_v529, hv_v530, hv_v531]; done) | (subst hv_v511; subst hv_v512; subst hv_v513; subst hv_v514; subst hv_v528; subst hv_v529; subst hv_v530; subst hv_v531; simp only [F_withNumbers_2_new0_3])), (show F_withNumbers_2_new0_4 s_a0_0 s_a0_1 s_a1_0 s_a1_1 = v513 from by first | (simp only [F_withNumbers_2_new0_4, hv_v511, hv_v512, hv_v513, hv_v514, hv_v528, hv_v529, hv_v530, hv_v531]; done) | (subst hv_v511; subst hv_v512; subst hv_v513; subst hv_v514; subst hv_v528; subst hv_v529; subst hv_v530; subst hv_v531; simp only [F_withNumbers_2_new0_4])), (show F_withNumbers_2_new0_5 s_a0_0 s_a0_1 s_a1_0 s_a1_1 = v514 from by first | (simp only [F_withNumbers_2_new0_5, hv_v511, hv_v512, hv_v513, hv_v514, hv_v528, hv_v529, hv_v530, hv_v531]; done) | (subst hv_v511; subst hv_v512; subst hv_v513; subst hv_v514; subst hv_v528; subst hv_v529; subst hv_v530; subst hv_v531; simp only [F_withNumbers_2_new0_5])), (show F_withNumbers_2_new0_6 s_a0_0 s_a0_1 s_a1_0 s_a1_1 = v528 from by first | (simp only [F_withNumbers_2_new0_6, hv_v511, hv_v512, hv_v513, hv_v514, hv_v528, hv_v529, hv_v530, hv_v531]; done) | (subst hv_v511; subst hv_v512; subst hv_v513; subst hv_v514; subst hv_v528; subst hv_v529; subst hv_v530; subst hv_v531; simp only [F_withNumbers_2_new0_6])), (show F_withNumbers_2_new0_7 s_a0_0 s_a0_1 s_a1_0 s_a1_1 = v529 from by first | (simp only [F_withNumbers_2_new0_7, hv_v511, hv_v512, hv_v513, hv_v514, hv_v528, hv_v529, hv_v530, hv_v531]; done) | (subst hv_v511; subst hv_v512; subst hv_v513; subst hv_v514; subst hv_v528; subst hv_v529; subst hv_v530; subst hv_v531; simp only [F_withNumbers_2_new0_7])), (show F_withNumbers_2_new0_8 s_a0_0 s_a0_1 s_a1_0 s_a1_1 = v530 from by first | (simp only [F_withNumbers_2_new0_8, hv_v511, hv_v512, hv_v513, hv_v514, hv_v528, hv_v529, hv_v530, hv_v531]; done) | (subst hv_v511; subst hv_v512; subst hv_v513; subst hv_v514; subst hv_v528; subst hv_v529; subst hv_v530; subst hv_v531; simp only [F_withNumbers_2_new0_8])), (show F_withNumbers_2_new0_9 s_a0_0 s_a0_1 s_a1_0 s_a1_1 = v531 from by first | (simp only [F_withNumbers_2_new0_9, hv_v511, hv_v512, hv_v513, hv_v514, hv_v528, hv_v529, hv_v530, hv_v531]; done) | (subst hv_v511; subst hv_v512; subst hv_v513; subst hv_v514; subst hv_v528; subst hv_v529; subst hv_v530; subst hv_v531; simp only [F_withNumbers_2_new0_9]))]; exact f521)⟩)
theorem ef_5_10_2 (a0 : Addr) : ∀ m : MethodId, entryFrame m #[(.ref a0), (.int (2 : Int32))] 2 = mkF m 0 #[.val (.ref a0), .val (.int (2 : Int32))] [] := by intro m; first | (simp [entryFrame, mkF, argsToLocals, Value.category]; done) | rfl
def F_readNumber_10_2 (s_a0_0 : Int32) (s_a0_1 : Int32) (s_a0_2 : Int32) (s_a0_3 : Int32) (s_a0_4 : Int32) (s_a0_5 : Int32) (s_a0_6 : Int32) (s_a0_7 : Int32) (s_a0_8 : Int32) (s_a0_9 : Int32) : Int32 :=
  ((((shlI (s_a0_2 &&& (255 : Int32)) (24 : Int32)) ||| (shlI (s_a0_3 &&& (255 : Int32)) (16 : Int32))) ||| (shlI (s_a0_4 &&& (255 : Int32)) (8 : Int32))) ||| (s_a0_5 &&& (255 : Int32)))
set_option maxRecDepth 65536 in
set_option maxHeartbeats 40000000 in
theorem rm5_10_2 (l : Launch) (Z : State) (az : Array Value) (hw : ∀ d ∈ tables_1, d.before az Z = true) (ws : List Jvm.Cond) (a0 : Addr) (s_a0_0 : Int32) (s_a0_1 : Int32) (s_a0_2 : Int32) (s_a0_3 : Int32) (s_a0_4 : Int32) (s_a0_5 : Int32) (s_a0_6 : Int32) (s_a0_7 : Int32) (s_a0_8 : Int32) (s_a0_9 : Int32) (h0 : Heap) (A_a0 : Ary Z h0 a0 .byte 10 (fun i => Value.int (List.getD [s_a0_0, s_a0_1, s_a0_2, s_a0_3, s_a0_4, s_a0_5, s_a0_6, s_a0_7, s_a0_8, s_a0_9] i 0))) :
    Met l (⟨"com/example/muster/muster/search/SortKeys", "readNumber", "([BI)I"⟩ : MethodName) prog_84_method_8_code 2 (some .int) ws ({ frames := 0, cells := 0, slots := 0, locals := 0 } : Room) Z #[(.ref a0), (.int (2 : Int32))] h0 (fun v h' L => v = some (Value.int (F_readNumber_10_2 s_a0_0 s_a0_1 s_a0_2 s_a0_3 s_a0_4 s_a0_5 s_a0_6 s_a0_7 s_a0_8 s_a0_9)) ∧ h' = h0 ∧ L = []) := by
  refine enter (plainFor_of_name pn_1) (ef_5_10_2 a0) ?_
  intro p e s m below meth c T0 kc kn Q hkc hkn hQ K' X0 e0
  have K : Fx p s m meth c prog_84_method_8_code 2 "com/example/muster/muster/search/SortKeys" "readNumber" (some .int) Z := K'
  refine k_aloadN K X0 d5_0 rfl rfl (q := 1) rfl ?_
  refine k_iloadN K X0 d5_1 rfl (q := 2) rfl ?_
  refine k_baload K X0 e0 d5_2 A_a0 (i := 2) (v := (.int s_a0_2)) (by decide) (by decide) rfl (q := 3) rfl ?_
  refine k_sipush K X0 d5_3 (v := (255 : Int32)) rfl (q := 6) rfl ?_
  refine k_iand K X0 d5_6 (q := 7) rfl ?_
  refine k_bipush K X0 d5_7 (v := (24 : Int32)) rfl (q := 9) rfl ?_
  refine k_ishl K X0 d5_9 (q := 10) rfl ?_
  refine k_aloadN K X0 d5_10 rfl rfl (q := 11) rfl ?_
  refine k_iloadN K X0 d5_11 rfl (q := 12) rfl ?_
  refine k_iconst K X0 d5_12 (v := (1 : Int32)) rfl (q := 13) rfl ?_
  refine k_iadd K X0 d5_13 (q := 14) rfl ?_
  refine k_nameI (v := (3 : Int32)) (by decide) ?_
  refine k_baload K X0 e0 d5_14 A_a0 (i := 3) (v := (.int s_a0_3)) (by decide) (by decide) rfl (q := 15) rfl ?_
  refine k_sipush K X0 d5_15 (v := (255 : Int32)) rfl (q := 18) rfl ?_
  refine k_iand K X0 d5_18 (q := 19) rfl ?_
  refine k_bipush K X0 d5_19 (v := (16 : Int32)) rfl (q := 21) rfl ?_
  refine k_ishl K X0 d5_21 (q := 22) rfl ?_
  refine k_ior K X0 d5_22 (q := 23) rfl ?_
  refine k_aloadN K X0 d5_23 rfl rfl (q := 24) rfl ?_
  refine k_iloadN K X0 d5_24 rfl (q := 25) rfl ?_
  refine k_iconst K X0 d5_25 (v := (2 : Int32)) rfl (q := 26) rfl ?_
  refine k_iadd K X0 d5_26 (q := 27) rfl ?_
  refine k_nameI (v := (4 : Int32)) (by decide) ?_
  refine k_baload K X0 e0 d5_27 A_a0 (i := 4) (v := (.int s_a0_4)) (by decide) (by decide) rfl (q := 28) rfl ?_
  refine k_sipush K X0 d5_28 (v := (255 : Int32)) rfl (q := 31) rfl ?_
  refine k_iand K X0 d5_31 (q := 32) rfl ?_
  refine k_bipush K X0 d5_32 (v := (8 : Int32)) rfl (q := 34) rfl ?_
  refine k_ishl K X0 d5_34 (q := 35) rfl ?_
  refine k_ior K X0 d5_35 (q := 36) rfl ?_
  refine k_aloadN K X0 d5_36 rfl rfl (q := 37) rfl ?_
  refine k_iloadN K X0 d5_37 rfl (q := 38) rfl ?_
  refine k_iconst K X0 d5_38 (v := (3 : Int32)) rfl (q := 39) rfl ?_
  refine k_iadd K X0 d5_39 (q := 40) rfl ?_
  refine k_nameI (v := (5 : Int32)) (by decide) ?_
  refine k_baload K X0 e0 d5_40 A_a0 (i := 5) (v := (.int s_a0_5)) (by decide) (by decide) rfl (q := 41) rfl ?_
  refine k_sipush K X0 d5_41 (v := (255 : Int32)) rfl (q := 44) rfl ?_
  refine k_iand K X0 d5_44 (q := 45) rfl ?_
  refine k_ior K X0 d5_45 (q := 46) rfl ?_
  exact k_reti K X0 e0 d5_46 (Nat.le_trans (by decide) hkc) (Nat.le_trans (by decide) hkn) (hQ _ _ _ ⟨(by show some (Value.int ((((shlI (s_a0_2 &&& (255 : Int32)) (24 : Int32)) ||| (shlI (s_a0_3 &&& (255 : Int32)) (16 : Int32))) ||| (shlI (s_a0_4 &&& (255 : Int32)) (8 : Int32))) ||| (s_a0_5 &&& (255 : Int32)))) = some (Value.int (F_readNumber_10_2 s_a0_0 s_a0_1 s_a0_2 s_a0_3 s_a0_4 s_a0_5 s_a0_6 s_a0_7 s_a0_8 s_a0_9)); first | (simp only [F_readNumber_10_2]; done) | (simp only [F_readNumber_10_2])), rfl, rfl⟩)
theorem ef_5_10_6 (a0 : Addr) : ∀ m : MethodId, entryFrame m #[(.ref a0), (.int (6 : Int32))] 2 = mkF m 0 #[.val (.ref a0), .val (.int (6 : Int32))] [] := by intro m; first | (simp [entryFrame, mkF, argsToLocals, Value.category]; done) | rfl
def F_readNumber_10_6 (s_a0_0 : Int32) (s_a0_1 : Int32) (s_a0_2 : Int32) (s_a0_3 : Int32) (s_a0_4 : Int32) (s_a0_5 : Int32) (s_a0_6 : Int32) (s_a0_7 : Int32) (s_a0_8 : Int32) (s_a0_9 : Int32) : Int32 :=
  ((((shlI (s_a0_6 &&& (255 : Int32)) (24 : Int32)) ||| (shlI (s_a0_7 &&& (255 : Int32)) (16 : Int32))) ||| (shlI (s_a0_8 &&& (255 : Int32)) (8 : Int32))) ||| (s_a0_9 &&& (255 : Int32)))
set_option maxRecDepth 65536 in
set_option maxHeartbeats 40000000 in
theorem rm5_10_6 (l : Launch) (Z : State) (az : Array Value) (hw : ∀ d ∈ tables_1, d.before az Z = true) (ws : List Jvm.Cond) (a0 : Addr) (s_a0_0 : Int32) (s_a0_1 : Int32) (s_a0_2 : Int32) (s_a0_3 : Int32) (s_a0_4 : Int32) (s_a0_5 : Int32) (s_a0_6 : Int32) (s_a0_7 : Int32) (s_a0_8 : Int32) (s_a0_9 : Int32) (h0 : Heap) (A_a0 : Ary Z h0 a0 .byte 10 (fun i => Value.int (List.getD [s_a0_0, s_a0_1, s_a0_2, s_a0_3, s_a0_4, s_a0_5, s_a0_6, s_a0_7, s_a0_8, s_a0_9] i 0))) :
    Met l (⟨"com/example/muster/muster/search/SortKeys", "readNumber", "([BI)I"⟩ : MethodName) prog_84_method_8_code 2 (some .int) ws ({ frames := 0, cells := 0, slots := 0, locals := 0 } : Room) Z #[(.ref a0), (.int (6 : Int32))] h0 (fun v h' L => v = some (Value.int (F_readNumber_10_6 s_a0_0 s_a0_1 s_a0_2 s_a0_3 s_a0_4 s_a0_5 s_a0_6 s_a0_7 s_a0_8 s_a0_9)) ∧ h' = h0 ∧ L = []) := by
  refine enter (plainFor_of_name pn_1) (ef_5_10_6 a0) ?_
  intro p e s m below meth c T0 kc kn Q hkc hkn hQ K' X0 e0
  have K : Fx p s m meth c prog_84_method_8_code 2 "com/example/muster/muster/search/SortKeys" "readNumber" (some .int) Z := K'
  refine k_aloadN K X0 d5_0 rfl rfl (q := 1) rfl ?_
  refine k_iloadN K X0 d5_1 rfl (q := 2) rfl ?_
  refine k_baload K X0 e0 d5_2 A_a0 (i := 6) (v := (.int s_a0_6)) (by decide) (by decide) rfl (q := 3) rfl ?_
  refine k_sipush K X0 d5_3 (v := (255 : Int32)) rfl (q := 6) rfl ?_
  refine k_iand K X0 d5_6 (q := 7) rfl ?_
  refine k_bipush K X0 d5_7 (v := (24 : Int32)) rfl (q := 9) rfl ?_
  refine k_ishl K X0 d5_9 (q := 10) rfl ?_
  refine k_aloadN K X0 d5_10 rfl rfl (q := 11) rfl ?_
  refine k_iloadN K X0 d5_11 rfl (q := 12) rfl ?_
  refine k_iconst K X0 d5_12 (v := (1 : Int32)) rfl (q := 13) rfl ?_
  refine k_iadd K X0 d5_13 (q := 14) rfl ?_
  refine k_nameI (v := (7 : Int32)) (by decide) ?_
  refine k_baload K X0 e0 d5_14 A_a0 (i := 7) (v := (.int s_a0_7)) (by decide) (by decide) rfl (q := 15) rfl ?_
  refine k_sipush K X0 d5_15 (v := (255 : Int32)) rfl (q := 18) rfl ?_
  refine k_iand K X0 d5_18 (q := 19) rfl ?_
  refine k_bipush K X0 d5_19 (v := (16 : Int32)) rfl (q := 21) rfl ?_
  refine k_ishl K X0 d5_21 (q := 22) rfl ?_
  refine k_ior K X0 d5_22 (q := 23) rfl ?_
  refine k_aloadN K X0 d5_23 rfl rfl (q := 24) rfl ?_
  refine k_iloadN K X0 d5_24 rfl (q := 25) rfl ?_
  refine k_iconst K X0 d5_25 (v := (2 : Int32)) rfl (q := 26) rfl ?_
  refine k_iadd K X0 d5_26 (q := 27) rfl ?_
  refine k_nameI (v := (8 : Int32)) (by decide) ?_
  refine k_baload K X0 e0 d5_27 A_a0 (i := 8) (v := (.int s_a0_8)) (by decide) (by decide) rfl (q := 28) rfl ?_
  refine k_sipush K X0 d5_28 (v := (255 : Int32)) rfl (q := 31) rfl ?_
  refine k_iand K X0 d5_31 (q := 32) rfl ?_
  refine k_bipush K X0 d5_32 (v := (8 : Int32)) rfl (q := 34) rfl ?_
  refine k_ishl K X0 d5_34 (q := 35) rfl ?_
  refine k_ior K X0 d5_35 (q := 36) rfl ?_
  refine k_aloadN K X0 d5_36 rfl rfl (q := 37) rfl ?_
  refine k_iloadN K X0 d5_37 rfl (q := 38) rfl ?_
  refine k_iconst K X0 d5_38 (v := (3 : Int32)) rfl (q := 39) rfl ?_
  refine k_iadd K X0 d5_39 (q := 40) rfl ?_
  refine k_nameI (v := (9 : Int32)) (by decide) ?_
  refine k_baload K X0 e0 d5_40 A_a0 (i := 9) (v := (.int s_a0_9)) (by decide) (by decide) rfl (q := 41) rfl ?_
  refine k_sipush K X0 d5_41 (v := (255 : Int32)) rfl (q := 44) rfl ?_
  refine k_iand K X0 d5_44 (q := 45) rfl ?_
  refine k_ior K X0 d5_45 (q := 46) rfl ?_
  exact k_reti K X0 e0 d5_46 (Nat.le_trans (by decide) hkc) (Nat.le_trans (by decide) hkn) (hQ _ _ _ ⟨(by show some (Value.int ((((shlI (s_a0_6 &&& (255 : Int32)) (24 : Int32)) ||| (shlI (s_a0_7 &&& (255 : Int32)) (16 : Int32))) ||| (shlI (s_a0_8 &&& (255 : Int32)) (8 : Int32))) ||| (s_a0_9 &&& (255 : Int32)))) = some (Value.int (F_readNumber_10_6 s_a0_0 s_a0_1 s_a0_2 s_a0_3 s_a0_4 s_a0_5 s_a0_6 s_a0_7 s_a0_8 s_a0_9)); first | (simp only [F_readNumber_10_6]; done) | (simp only [F_readNumber_10_6])), rfl, rfl⟩)
theorem ef_4_11_3 (a0 : Addr) (p2 : Int32) : ∀ m : MethodId, entryFrame m #[(.ref a0), (.int (3 : Int32)), (.int p2)] 3 = mkF m 0 #[.val (.ref a0), .val (.int (3 : Int32)), .val (.int p2)] [] := by intro m; first | (simp [entryFrame, mkF, argsToLocals, Value.category]; done) | rfl
set_option maxRecDepth 65536 in
set_option maxHeartbeats 40000000 in
theorem rm4_11_3 (l : Launch) (Z : State) (az : Array Value) (hw : ∀ d ∈ tables_1, d.before az Z = true) (ws : List Jvm.Cond) (a0 : Addr) (p2 : Int32) (s_a0_0 : Int32) (s_a0_1 : Int32) (s_a0_2 : Int32) (s_a0_3 : Int32) (s_a0_4 : Int32) (s_a0_5 : Int32) (s_a0_6 : Int32) (s_a0_7 : Int32) (s_a0_8 : Int32) (s_a0_9 : Int32) (s_a0_10 : Int32) (h0 : Heap) (n0 : Nat) (Z0 : n0 ≤ h0.size) (A_a0 : Ary Z h0 a0 .byte 11 (fun i => Value.int (List.getD [s_a0_0, s_a0_1, s_a0_2, s_a0_3, s_a0_4, s_a0_5, s_a0_6, s_a0_7, s_a0_8, s_a0_9, s_a0_10] i 0))) (ge_a0 : n0 ≤ a0) :
    Met l (⟨"com/example/muster/muster/search/SortKeys", "writeNumber", "([BII)V"⟩ : MethodName) prog_84_method_9_code 3 none ws ({ frames := 0, cells := 0, slots := 0, locals := 0 } : Room) Z #[(.ref a0), (.int (3 : Int32)), (.int p2)] h0 (fun v h' L => v = none ∧ Fr n0 L ∧ Keep h0 h' [a0] ∧ Ary Z h' a0 .byte 11 (fun i => Value.int (List.getD [s_a0_0, s_a0_1, s_a0_2, (nar .byte (i2b (ushrI p2 (24 : Int32)))), (nar .byte (i2b (ushrI p2 (16 : Int32)))), (nar .byte (i2b (ushrI p2 (8 : Int32)))), (nar .byte (i2b p2)), s_a0_7, s_a0_8, s_a0_9, s_a0_10] i 0))) := by
  refine enter (plainFor_of_name pn_1) (ef_4_11_3 a0 p2) ?_
  intro p e s m below meth c T0 kc kn Q hkc hkn hQ K' X0 e0
  have K : Fx p s m meth c prog_84_method_9_code 3 "com/example/muster/muster/search/SortKeys" "writeNumber" none Z := K'
  have N0 := Fr.nil n0
  have K0 : Keep h0 h0 [a0] := Keep.refl _ _
  refine k_aloadN K X0 d4_0 rfl rfl (q := 1) rfl ?_
  refine k_iloadN K X0 d4_1 rfl (q := 2) rfl ?_
  refine k_iloadN K X0 d4_2 rfl (q := 3) rfl ?_
  refine k_bipush K X0 d4_3 (v := (24 : Int32)) rfl (q := 5) rfl ?_
  refine k_iushr K X0 d4_5 (q := 6) rfl ?_
  refine k_i2b K X0 d4_6 (q := 7) rfl ?_
  refine k_bastore K X0 e0 d4_7 A_a0 (i := 3) (by decide) (by decide) (q := 8) rfl ?_
  intro T532 h533 X534 e535 W536 A537
  have f538 : Ary Z h533 a0 .byte 11 (fun i => Value.int (List.getD [s_a0_0, s_a0_1, s_a0_2, (nar .byte (i2b (ushrI p2 (24 : Int32)))), s_a0_4, s_a0_5, s_a0_6, s_a0_7, s_a0_8, s_a0_9, s_a0_10] i 0)) := Ary.eqv A537 (fun i _ => setD Value.int [s_a0_0, s_a0_1, s_a0_2, s_a0_3, s_a0_4, s_a0_5, s_a0_6, s_a0_7, s_a0_8, s_a0_9, s_a0_10] 3 (nar .byte (i2b (ushrI p2 (24 : Int32)))) 0 (Nat.le_of_ble_eq_true rfl) i)
  have N539 := Fr.snoc X534 N0 ge_a0
  have K540 := Keep.wr K0 W536 (Or.inl (List.mem_of_getElem? (i := 0) rfl))
  have Z541 := Nat.le_trans Z0 (Nat.le_of_eq (Wr.size W536).symm)
  refine k_aloadN K X534 d4_8 rfl rfl (q := 9) rfl ?_
  refine k_iloadN K X534 d4_9 rfl (q := 10) rfl ?_
  refine k_iconst K X534 d4_10 (v := (1 : Int32)) rfl (q := 11) rfl ?_
  refine k_iadd K X534 d4_11 (q := 12) rfl ?_
  refine k_nameI (v := (4 : Int32)) (by decide) ?_
  refine k_iloadN K X534 d4_12 rfl (q := 13) rfl ?_
  refine k_bipush K X534 d4_13 (v := (16 : Int32)) rfl (q := 15) rfl ?_
  refine k_iushr K X534 d4_15 (q := 16) rfl ?_
  refine k_i2b K X534 d4_16 (q := 17) rfl ?_
  refine k_bastore K X534 e535 d4_17 f538 (i := 4) (by decide) (by decide) (q := 18) rfl ?_
  intro T542 h543 X544 e545 W546 A547
  have f548 : Ary Z h543 a0 .byte 11 (fun i => Value.int (List.getD [s_a0_0, s_a0_1, s_a0_2, (nar .byte (i2b (ushrI p2 (24 : Int32)))), (nar .byte (i2b (ushrI p2 (16 : Int32)))), s_a0_5, s_a0_6, s_a0_7, s_a0_8, s_a0_9, s_a0_10] i 0)) := Ary.eqv A547 (fun i _ => setD Value.int [s_a0_0, s_a0_1, s_a0_2, (nar .byte (i2b (ushrI p2 (24 : Int32)))), s_a0_4, s_a0_5, s_a0_6, s_a0_7, s_a0_8, s_a0_9, s_a0_10] 4 (nar .byte (i2b (ushrI p2 (16 : Int32)))) 0 (Nat.le_of_ble_eq_true rfl) i)
  have N549 := Fr.snoc X544 N539 ge_a0
  have K550 := Keep.wr K540 W546 (Or.inl (List.mem_of_getElem? (i := 0) rfl))
  have Z551 := Nat.le_trans Z541 (Nat.le_of_eq (Wr.size W546).symm)
  refine k_aloadN K X544 d4_18 rfl rfl (q := 19) rfl ?_
  refine k_iloadN K X544 d4_19 rfl (q := 20) rfl ?_
  refine k_iconst K X544 d4_20 (v := (2 : Int32)) rfl (q := 21) rfl ?_
  refine k_iadd K X544 d4_21 (q := 22) rfl ?_
  refine k_nameI (v := (5 : Int32)) (by decide) ?_
  refine k_iloadN K X544 d4_22 rfl (q := 23) rfl ?_
  refine k_bipush K X544 d4_23 (v := (8 : Int32)) rfl (q := 25) rfl ?_
  refine k_iushr K X544 d4_25 (q := 26) rfl ?_
  refine k_i2b K X544 d4_26 (q := 27) rfl ?_
  refine k_bastore K X544 e545 d4_27 f548 (i := 5) (by decide) (by decide) (q := 28) rfl ?_
  intro T552 h553 X554 e555 W556 A557
  have f558 : Ary Z h553 a0 .byte 11 (fun i => Value.int (List.getD [s_a0_0, s_a0_1, s_a0_2, (nar .byte (i2b (ushrI p2 (24 : Int32)))), (nar .byte (i2b (ushrI p2 (16 : Int32)))), (nar .byte (i2b (ushrI p2 (8 : Int32)))), s_a0_6, s_a0_7, s_a0_8, s_a0_9, s_a0_10] i 0)) := Ary.eqv A557 (fun i _ => setD Value.int [s_a0_0, s_a0_1, s_a0_2, (nar .byte (i2b (ushrI p2 (24 : Int32)))), (nar .byte (i2b (ushrI p2 (16 : Int32)))), s_a0_5, s_a0_6, s_a0_7, s_a0_8, s_a0_9, s_a0_10] 5 (nar .byte (i2b (ushrI p2 (8 : Int32)))) 0 (Nat.le_of_ble_eq_true rfl) i)
  have N559 := Fr.snoc X554 N549 ge_a0
  have K560 := Keep.wr K550 W556 (Or.inl (List.mem_of_getElem? (i := 0) rfl))
  have Z561 := Nat.le_trans Z551 (Nat.le_of_eq (Wr.size W556).symm)
  refine k_aloadN K X554 d4_28 rfl rfl (q := 29) rfl ?_
  refine k_iloadN K X554 d4_29 rfl (q := 30) rfl ?_
  refine k_iconst K X554 d4_30 (v := (3 : Int32)) rfl (q := 31) rfl ?_
  refine k_iadd K X554 d4_31 (q := 32) rfl ?_
  refine k_nameI (v := (6 : Int32)) (by decide) ?_
  refine k_iloadN K X554 d4_32 rfl (q := 33) rfl ?_
  refine k_i2b K X554 d4_33 (q := 34) rfl ?_
  refine k_bastore K X554 e555 d4_34 f558 (i := 6) (by decide) (by decide) (q := 35) rfl ?_
  intro T562 h563 X564 e565 W566 A567
  have f568 : Ary Z h563 a0 .byte 11 (fun i => Value.int (List.getD [s_a0_0, s_a0_1, s_a0_2, (nar .byte (i2b (ushrI p2 (24 : Int32)))), (nar .byte (i2b (ushrI p2 (16 : Int32)))), (nar .byte (i2b (ushrI p2 (8 : Int32)))), (nar .byte (i2b p2)), s_a0_7, s_a0_8, s_a0_9, s_a0_10] i 0)) := Ary.eqv A567 (fun i _ => setD Value.int [s_a0_0, s_a0_1, s_a0_2, (nar .byte (i2b (ushrI p2 (24 : Int32)))), (nar .byte (i2b (ushrI p2 (16 : Int32)))), (nar .byte (i2b (ushrI p2 (8 : Int32)))), s_a0_6, s_a0_7, s_a0_8, s_a0_9, s_a0_10] 6 (nar .byte (i2b p2)) 0 (Nat.le_of_ble_eq_true rfl) i)
  have N569 := Fr.snoc X564 N559 ge_a0
  have K570 := Keep.wr K560 W566 (Or.inl (List.mem_of_getElem? (i := 0) rfl))
  have Z571 := Nat.le_trans Z561 (Nat.le_of_eq (Wr.size W566).symm)
  exact k_retv K X564 e565 d4_35 (Nat.le_trans (by decide) hkc) (Nat.le_trans (by decide) hkn) (hQ _ _ _ ⟨rfl, N569, K570, f568⟩)
theorem ef_4_11_7 (a0 : Addr) (p2 : Int32) : ∀ m : MethodId, entryFrame m #[(.ref a0), (.int (7 : Int32)), (.int p2)] 3 = mkF m 0 #[.val (.ref a0), .val (.int (7 : Int32)), .val (.int p2)] [] := by intro m; first | (simp [entryFrame, mkF, argsToLocals, Value.category]; done) | rfl
set_option maxRecDepth 65536 in
set_option maxHeartbeats 40000000 in
theorem rm4_11_7 (l : Launch) (Z : State) (az : Array Value) (hw : ∀ d ∈ tables_1, d.before az Z = true) (ws : List Jvm.Cond) (a0 : Addr) (p2 : Int32) (s_a0_0 : Int32) (s_a0_1 : Int32) (s_a0_2 : Int32) (s_a0_3 : Int32) (s_a0_4 : Int32) (s_a0_5 : Int32) (s_a0_6 : Int32) (s_a0_7 : Int32) (s_a0_8 : Int32) (s_a0_9 : Int32) (s_a0_10 : Int32) (h0 : Heap) (n0 : Nat) (Z0 : n0 ≤ h0.size) (A_a0 : Ary Z h0 a0 .byte 11 (fun i => Value.int (List.getD [s_a0_0, s_a0_1, s_a0_2, s_a0_3, s_a0_4, s_a0_5, s_a0_6, s_a0_7, s_a0_8, s_a0_9, s_a0_10] i 0))) (ge_a0 : n0 ≤ a0) :
    Met l (⟨"com/example/muster/muster/search/SortKeys", "writeNumber", "([BII)V"⟩ : MethodName) prog_84_method_9_code 3 none ws ({ frames := 0, cells := 0, slots := 0, locals := 0 } : Room) Z #[(.ref a0), (.int (7 : Int32)), (.int p2)] h0 (fun v h' L => v = none ∧ Fr n0 L ∧ Keep h0 h' [a0] ∧ Ary Z h' a0 .byte 11 (fun i => Value.int (List.getD [s_a0_0, s_a0_1, s_a0_2, s_a0_3, s_a0_4, s_a0_5, s_a0_6, (nar .byte (i2b (ushrI p2 (24 : Int32)))), (nar .byte (i2b (ushrI p2 (16 : Int32)))), (nar .byte (i2b (ushrI p2 (8 : Int32)))), (nar .byte (i2b p2))] i 0))) := by
  refine enter (plainFor_of_name pn_1) (ef_4_11_7 a0 p2) ?_
  intro p e s m below meth c T0 kc kn Q hkc hkn hQ K' X0 e0
  have K : Fx p s m meth c prog_84_method_9_code 3 "com/example/muster/muster/search/SortKeys" "writeNumber" none Z := K'
  have N0 := Fr.nil n0
  have K0 : Keep h0 h0 [a0] := Keep.refl _ _
  refine k_aloadN K X0 d4_0 rfl rfl (q := 1) rfl ?_
  refine k_iloadN K X0 d4_1 rfl (q := 2) rfl ?_
  refine k_iloadN K X0 d4_2 rfl (q := 3) rfl ?_
  refine k_bipush K X0 d4_3 (v := (24 : Int32)) rfl (q := 5) rfl ?_
  refine k_iushr K X0 d4_5 (q := 6) rfl ?_
  refine k_i2b K X0 d4_6 (q := 7) rfl ?_
  refine k_bastore K X0 e0 d4_7 A_a0 (i := 7) (by decide) (by decide) (q := 8) rfl ?_
  intro T572 h573 X574 e575 W576 A577
  have f578 : Ary Z h573 a0 .byte 11 (fun i => Value.int (List.getD [s_a0_0, s_a0_1, s_a0_2, s_a0_3, s_a0_4, s_a0_5, s_a0_6, (nar .byte (i2b (ushrI p2 (24 : Int32)))), s_a0_8, s_a0_9, s_a0_10] i 0)) := Ary.eqv A577 (fun i _ => setD Value.int [s_a0_0, s_a0_1, s_a0_2, s_a0_3, s_a0_4, s_a0_5, s_a0_6, s_a0_7, s_a0_8, s_a0_9, s_a0_10] 7 (nar .byte (i2b (ushrI p2 (24 : Int32)))) 0 (Nat.le_of_ble_eq_true rfl) i)
  have N579 := Fr.snoc X574 N0 ge_a0
  have K580 := Keep.wr K0 W576 (Or.inl (List.mem_of_getElem? (i := 0) rfl))
  have Z581 := Nat.le_trans Z0 (Nat.le_of_eq (Wr.size W576).symm)
  refine k_aloadN K X574 d4_8 rfl rfl (q := 9) rfl ?_
  refine k_iloadN K X574 d4_9 rfl (q := 10) rfl ?_
  refine k_iconst K X574 d4_10 (v := (1 : Int32)) rfl (q := 11) rfl ?_
  refine k_iadd K X574 d4_11 (q := 12) rfl ?_
  refine k_nameI (v := (8 : Int32)) (by decide) ?_
  refine k_iloadN K X574 d4_12 rfl (q := 13) rfl ?_
  refine k_bipush K X574 d4_13 (v := (16 : Int32)) rfl (q := 15) rfl ?_
  refine k_iushr K X574 d4_15 (q := 16) rfl ?_
  refine k_i2b K X574 d4_16 (q := 17) rfl ?_
  refine k_bastore K X574 e575 d4_17 f578 (i := 8) (by decide) (by decide) (q := 18) rfl ?_
  intro T582 h583 X584 e585 W586 A587
  have f588 : Ary Z h583 a0 .byte 11 (fun i => Value.int (List.getD [s_a0_0, s_a0_1, s_a0_2, s_a0_3, s_a0_4, s_a0_5, s_a0_6, (nar .byte (i2b (ushrI p2 (24 : Int32)))), (nar .byte (i2b (ushrI p2 (16 : Int32)))), s_a0_9, s_a0_10] i 0)) := Ary.eqv A587 (fun i _ => setD Value.int [s_a0_0, s_a0_1, s_a0_2, s_a0_3, s_a0_4, s_a0_5, s_a0_6, (nar .byte (i2b (ushrI p2 (24 : Int32)))), s_a0_8, s_a0_9, s_a0_10] 8 (nar .byte (i2b (ushrI p2 (16 : Int32)))) 0 (Nat.le_of_ble_eq_true rfl) i)
  have N589 := Fr.snoc X584 N579 ge_a0
  have K590 := Keep.wr K580 W586 (Or.inl (List.mem_of_getElem? (i := 0) rfl))
  have Z591 := Nat.le_trans Z581 (Nat.le_of_eq (Wr.size W586).symm)
  refine k_aloadN K X584 d4_18 rfl rfl (q := 19) rfl ?_
  refine k_iloadN K X584 d4_19 rfl (q := 20) rfl ?_
  refine k_iconst K X584 d4_20 (v := (2 : Int32)) rfl (q := 21) rfl ?_
  refine k_iadd K X584 d4_21 (q := 22) rfl ?_
  refine k_nameI (v := (9 : Int32)) (by decide) ?_
  refine k_iloadN K X584 d4_22 rfl (q := 23) rfl ?_
  refine k_bipush K X584 d4_23 (v := (8 : Int32)) rfl (q := 25) rfl ?_
  refine k_iushr K X584 d4_25 (q := 26) rfl ?_
  refine k_i2b K X584 d4_26 (q := 27) rfl ?_
  refine k_bastore K X584 e585 d4_27 f588 (i := 9) (by decide) (by decide) (q := 28) rfl ?_
  intro T592 h593 X594 e595 W596 A597
  have f598 : Ary Z h593 a0 .byte 11 (fun i => Value.int (List.getD [s_a0_0, s_a0_1, s_a0_2, s_a0_3, s_a0_4, s_a0_5, s_a0_6, (nar .byte (i2b (ushrI p2 (24 : Int32)))), (nar .byte (i2b (ushrI p2 (16 : Int32)))), (nar .byte (i2b (ushrI p2 (8 : Int32)))), s_a0_10] i 0)) := Ary.eqv A597 (fun i _ => setD Value.int [s_a0_0, s_a0_1, s_a0_2, s_a0_3, s_a0_4, s_a0_5, s_a0_6, (nar .byte (i2b (ushrI p2 (24 : Int32)))), (nar .byte (i2b (ushrI p2 (16 : Int32)))), s_a0_9, s_a0_10] 9 (nar .byte (i2b (ushrI p2 (8 : Int32)))) 0 (Nat.le_of_ble_eq_true rfl) i)
  have N599 := Fr.snoc X594 N589 ge_a0
  have K600 := Keep.wr K590 W596 (Or.inl (List.mem_of_getElem? (i := 0) rfl))
  have Z601 := Nat.le_trans Z591 (Nat.le_of_eq (Wr.size W596).symm)
  refine k_aloadN K X594 d4_28 rfl rfl (q := 29) rfl ?_
  refine k_iloadN K X594 d4_29 rfl (q := 30) rfl ?_
  refine k_iconst K X594 d4_30 (v := (3 : Int32)) rfl (q := 31) rfl ?_
  refine k_iadd K X594 d4_31 (q := 32) rfl ?_
  refine k_nameI (v := (10 : Int32)) (by decide) ?_
  refine k_iloadN K X594 d4_32 rfl (q := 33) rfl ?_
  refine k_i2b K X594 d4_33 (q := 34) rfl ?_
  refine k_bastore K X594 e595 d4_34 f598 (i := 10) (by decide) (by decide) (q := 35) rfl ?_
  intro T602 h603 X604 e605 W606 A607
  have f608 : Ary Z h603 a0 .byte 11 (fun i => Value.int (List.getD [s_a0_0, s_a0_1, s_a0_2, s_a0_3, s_a0_4, s_a0_5, s_a0_6, (nar .byte (i2b (ushrI p2 (24 : Int32)))), (nar .byte (i2b (ushrI p2 (16 : Int32)))), (nar .byte (i2b (ushrI p2 (8 : Int32)))), (nar .byte (i2b p2))] i 0)) := Ary.eqv A607 (fun i _ => setD Value.int [s_a0_0, s_a0_1, s_a0_2, s_a0_3, s_a0_4, s_a0_5, s_a0_6, (nar .byte (i2b (ushrI p2 (24 : Int32)))), (nar .byte (i2b (ushrI p2 (16 : Int32)))), (nar .byte (i2b (ushrI p2 (8 : Int32)))), s_a0_10] 10 (nar .byte (i2b p2)) 0 (Nat.le_of_ble_eq_true rfl) i)
  have N609 := Fr.snoc X604 N599 ge_a0
  have K610 := Keep.wr K600 W606 (Or.inl (List.mem_of_getElem? (i := 0) rfl))
  have Z611 := Nat.le_trans Z601 (Nat.le_of_eq (Wr.size W606).symm)
  exact k_retv K X604 e605 d4_35 (Nat.le_trans (by decide) hkc) (Nat.le_trans (by decide) hkn) (hQ _ _ _ ⟨rfl, N609, K610, f608⟩)
theorem ef_1_3 (a0 : Addr) (a1 : Addr) : ∀ m : MethodId, entryFrame m #[(.ref a0), (.ref a1)] 4 = mkF m 0 #[.val (.ref a0), .val (.ref a1), .unset, .unset] [] := by intro m; first | (simp [entryFrame, mkF, argsToLocals, Value.category]; done) | rfl
def F_withNumbers_3_new0_0 (s_a0_0 : Int32) (s_a0_1 : Int32) (s_a0_2 : Int32) (s_a1_0 : Int32) (s_a1_1 : Int32) : Int32 :=
  let v644 : Int32 := (nar .byte (i2b (ushrI s_a1_0 (24 : Int32))))
  let v645 : Int32 := (nar .byte (i2b (ushrI s_a1_0 (16 : Int32))))
  let v646 : Int32 := (nar .byte (i2b (ushrI s_a1_0 (8 : Int32))))
  let v647 : Int32 := (nar .byte (i2b s_a1_0))
  let v661 : Int32 := (nar .byte (i2b (ushrI s_a1_1 (24 : Int32))))
  let v662 : Int32 := (nar .byte (i2b (ushrI s_a1_1 (16 : Int32))))
  let v663 : Int32 := (nar .byte (i2b (ushrI s_a1_1 (8 : Int32))))
  let v664 : Int32 := (nar .byte (i2b s_a1_1))
  s_a0_0
def F_withNumbers_3_new0_1 (s_a0_0 : Int32) (s_a0_1 : Int32) (s_a0_2 : Int32) (s_a1_0 : Int32) (s_a1_1 : Int32) : Int32 :=
  let v644 : Int32 := (nar .byte (i2b (ushrI s_a1_0 (24 : Int32))))
  let v645 : Int32 := (nar .byte (i2b (ushrI s_a1_0 (16 : Int32))))
  let v646 : Int32 := (nar .byte (i2b (ushrI s_a1_0 (8 : Int32))))
  let v647 : Int32 := (nar .byte (i2b s_a1_0))
  let v661 : Int32 := (nar .byte (i2b (ushrI s_a1_1 (24 : Int32))))
  let v662 : Int32 := (nar .byte (i2b (ushrI s_a1_1 (16 : Int32))))
  let v663 : Int32 := (nar .byte (i2b (ushrI s_a1_1 (8 : Int32))))
  let v664 : Int32 := (nar .byte (i2b s_a1_1))
  s_a0_1
def F_withNumbers_3_new0_2 (s_a0_0 : Int32) (s_a0_1 : Int32) (s_a0_2 : Int32) (s_a1_0 : Int32) (s_a1_1 : Int32) : Int32 :=
  let v644 : Int32 := (nar .byte (i2b (ushrI s_a1_0 (24 : Int32))))
  let v645 : Int32 := (nar .byte (i2b (ushrI s_a1_0 (16 : Int32))))
  let v646 : Int32 := (nar .byte (i2b (ushrI s_a1_0 (8 : Int32))))
  let v647 : Int32 := (nar .byte (i2b s_a1_0))
  let v661 : Int32 := (nar .byte (i2b (ushrI s_a1_1 (24 : Int32))))
  let v662 : Int32 := (nar .byte (i2b (ushrI s_a1_1 (16 : Int32))))
  let v663 : Int32 := (nar .byte (i2b (ushrI s_a1_1 (8 : Int32))))
  let v664 : Int32 := (nar .byte (i2b s_a1_1))
  s_a0_2
def F_withNumbers_3_new0_3 (s_a0_0 : Int32) (s_a0_1 : Int32) (s_a0_2 : Int32) (s_a1_0 : Int32) (s_a1_1 : Int32) : Int32 :=
  let v644 : Int32 := (nar .byte (i2b (ushrI s_a1_0 (24 : Int32))))
  let v645 : Int32 := (nar .byte (i2b (ushrI s_a1_0 (16 : Int32))))
  let v646 : Int32 := (nar .byte (i2b (ushrI s_a1_0 (8 : Int32))))
  let v647 : Int32 := (nar .byte (i2b s_a1_0))
  let v661 : Int32 := (nar .byte (i2b (ushrI s_a1_1 (24 : Int32))))
  let v662 : Int32 := (nar .byte (i2b (ushrI s_a1_1 (16 : Int32))))
  let v663 : Int32 := (nar .byte (i2b (ushrI s_a1_1 (8 : Int32))))
  let v664 : Int32 := (nar .byte (i2b s_a1_1))
  v644
def F_withNumbers_3_new0_4 (s_a0_0 : Int32) (s_a0_1 : Int32) (s_a0_2 : Int32) (s_a1_0 : Int32) (s_a1_1 : Int32) : Int32 :=
  let v644 : Int32 := (nar .byte (i2b (ushrI s_a1_0 (24 : Int32))))
  let v645 : Int32 := (nar .byte (i2b (ushrI s_a1_0 (16 : Int32))))
  let v646 : Int32 := (nar .byte (i2b (ushrI s_a1_0 (8 : Int32))))
  let v647 : Int32 := (nar .byte (i2b s_a1_0))
  let v661 : Int32 := (nar .byte (i2b (ushrI s_a1_1 (24 : Int32))))
  let v662 : Int32 := (nar .byte (i2b (ushrI s_a1_1 (16 : Int32))))
  let v663 : Int32 := (nar .byte (i2b (ushrI s_a1_1 (8 : Int32))))
  let v664 : Int32 := (nar .byte (i2b s_a1_1))
  v645
def F_withNumbers_3_new0_5 (s_a0_0 : Int32) (s_a0_1 : Int32) (s_a0_2 : Int32) (s_a1_0 : Int32) (s_a1_1 : Int32) : Int32 :=
  let v644 : Int32 := (nar .byte (i2b (ushrI s_a1_0 (24 : Int32))))
  let v645 : Int32 := (nar .byte (i2b (ushrI s_a1_0 (16 : Int32))))
  let v646 : Int32 := (nar .byte (i2b (ushrI s_a1_0 (8 : Int32))))
  let v647 : Int32 := (nar .byte (i2b s_a1_0))
  let v661 : Int32 := (nar .byte (i2b (ushrI s_a1_1 (24 : Int32))))
  let v662 : Int32 := (nar .byte (i2b (ushrI s_a1_1 (16 : Int32))))
  let v663 : Int32 := (nar .byte (i2b (ushrI s_a1_1 (8 : Int32))))
  let v664 : Int32 := (nar .byte (i2b s_a1_1))
  v646
def F_withNumbers_3_new0_6 (s_a0_0 : Int32) (s_a0_1 : Int32) (s_a0_2 : Int32) (s_a1_0 : Int32) (s_a1_1 : Int32) : Int32 :=
  let v644 : Int32 := (nar .byte (i2b (ushrI s_a1_0 (24 : Int32))))
  let v645 : Int32 := (nar .byte (i2b (ushrI s_a1_0 (16 : Int32))))
  let v646 : Int32 := (nar .byte (i2b (ushrI s_a1_0 (8 : Int32))))
  let v647 : Int32 := (nar .byte (i2b s_a1_0))
  let v661 : Int32 := (nar .byte (i2b (ushrI s_a1_1 (24 : Int32))))
  let v662 : Int32 := (nar .byte (i2b (ushrI s_a1_1 (16 : Int32))))
  let v663 : Int32 := (nar .byte (i2b (ushrI s_a1_1 (8 : Int32))))
  let v664 : Int32 := (nar .byte (i2b s_a1_1))
  v647
def F_withNumbers_3_new0_7 (s_a0_0 : Int32) (s_a0_1 : Int32) (s_a0_2 : Int32) (s_a1_0 : Int32) (s_a1_1 : Int32) : Int32 :=
  let v644 : Int32 := (nar .byte (i2b (ushrI s_a1_0 (24 : Int32))))
  let v645 : Int32 := (nar .byte (i2b (ushrI s_a1_0 (16 : Int32))))
  let v646 : Int32 := (nar .byte (i2b (ushrI s_a1_0 (8 : Int32))))
  let v647 : Int32 := (nar .byte (i2b s_a1_0))
  let v661 : Int32 := (nar .byte (i2b (ushrI s_a1_1 (24 : Int32))))
  let v662 : Int32 := (nar .byte (i2b (ushrI s_a1_1 (16 : Int32))))
  let v663 : Int32 := (nar .byte (i2b (ushrI s_a1_1 (8 : Int32))))
  let v664 : Int32 := (nar .byte (i2b s_a1_1))
  v661
def F_withNumbers_3_new0_8 (s_a0_0 : Int32) (s_a0_1 : Int32) (s_a0_2 : Int32) (s_a1_0 : Int32) (s_a1_1 : Int32) : Int32 :=
  let v644 : Int32 := (nar .byte (i2b (ushrI s_a1_0 (24 : Int32))))
  let v645 : Int32 := (nar .byte (i2b (ushrI s_a1_0 (16 : Int32))))
  let v646 : Int32 := (nar .byte (i2b (ushrI s_a1_0 (8 : Int32))))
  let v647 : Int32 := (nar .byte (i2b s_a1_0))
  let v661 : Int32 := (nar .byte (i2b (ushrI s_a1_1 (24 : Int32))))
  let v662 : Int32 := (nar .byte (i2b (ushrI s_a1_1 (16 : Int32))))
  let v663 : Int32 := (nar .byte (i2b (ushrI s_a1_1 (8 : Int32))))
  let v664 : Int32 := (nar .byte (i2b s_a1_1))
  v662
def F_withNumbers_3_new0_9 (s_a0_0 : Int32) (s_a0_1 : Int32) (s_a0_2 : Int32) (s_a1_0 : Int32) (s_a1_1 : Int32) : Int32 :=
  let v644 : Int32 := (nar .byte (i2b (ushrI s_a1_0 (24 : Int32))))
  let v645 : Int32 := (nar .byte (i2b (ushrI s_a1_0 (16 : Int32))))
  let v646 : Int32 := (nar .byte (i2b (ushrI s_a1_0 (8 : Int32))))
  let v647 : Int32 := (nar .byte (i2b s_a1_0))
  let v661 : Int32 := (nar .byte (i2b (ushrI s_a1_1 (24 : Int32))))
  let v662 : Int32 := (nar .byte (i2b (ushrI s_a1_1 (16 : Int32))))
  let v663 : Int32 := (nar .byte (i2b (ushrI s_a1_1 (8 : Int32))))
  let v664 : Int32 := (nar .byte (i2b s_a1_1))
  v663
def F_withNumbers_3_new0_10 (s_a0_0 : Int32) (s_a0_1 : Int32) (s_a0_2 : Int32) (s_a1_0 : Int32) (s_a1_1 : Int32) : Int32 :=
  let v644 : Int32 := (nar .byte (i2b (ushrI s_a1_0 (24 : Int32))))
  let v645 : Int32 := (nar .byte (i2b (ushrI s_a1_0 (16 : Int32))))
  let v646 : Int32 := (nar .byte (i2b (ushrI s_a1_0 (8 : Int32))))
  let v647 : Int32 := (nar .byte (i2b s_a1_0))
  let v661 : Int32 := (nar .byte (i2b (ushrI s_a1_1 (24 : Int32))))
  let v662 : Int32 := (nar .byte (i2b (ushrI s_a1_1 (16 : Int32))))
  let v663 : Int32 := (nar .byte (i2b (ushrI s_a1_1 (8 : Int32))))
  let v664 : Int32 := (nar .byte (i2b s_a1_1))
  v664
set_option maxRecDepth 65536 in
set_option maxHeartbeats 40000000 in
theorem rm1_3 (l : Launch) (Z : State) (az : Array Value) (hw : ∀ d ∈ tables_1, d.before az Z = true) (ws : List Jvm.Cond) (a0 : Addr) (a1 : Addr) (s_a0_0 : Int32) (s_a0_1 : Int32) (s_a0_2 : Int32) (s_a1_0 : Int32) (s_a1_1 : Int32) (h0 : Heap) (n0 : Nat) (Z0 : n0 ≤ h0.size) (A_a0 : Ary Z h0 a0 .byte 3 (fun i => Value.int (List.getD [s_a0_0, s_a0_1, s_a0_2] i 0))) (A_a1 : Ary Z h0 a1 .int 2 (fun i => Value.int (List.getD [s_a1_0, s_a1_1] i 0))) :
    Met l (⟨"com/example/muster/muster/search/SortKeys", "withNumbers", "([B[I)[B"⟩ : MethodName) prog_84_method_7_code 4 (some (.array .byte)) ws ({ frames := 2, cells := 1, slots := 11, locals := 32 } : Room) Z #[(.ref a0), (.ref a1)] h0 (fun v h' L => ∃ b618 : Addr, n0 ≤ b618 ∧ h0.size ≤ b618 ∧ v = some (.ref b618) ∧ Fr n0 L ∧ Keep h0 h' [] ∧ Exa Z h' b618 "[B" ∧ Ary Z h' b618 .byte 11 (fun i => Value.int (List.getD [(F_withNumbers_3_new0_0 s_a0_0 s_a0_1 s_a0_2 s_a1_0 s_a1_1), (F_withNumbers_3_new0_1 s_a0_0 s_a0_1 s_a0_2 s_a1_0 s_a1_1), (F_withNumbers_3_new0_2 s_a0_0 s_a0_1 s_a0_2 s_a1_0 s_a1_1), (F_withNumbers_3_new0_3 s_a0_0 s_a0_1 s_a0_2 s_a1_0 s_a1_1), (F_withNumbers_3_new0_4 s_a0_0 s_a0_1 s_a0_2 s_a1_0 s_a1_1), (F_withNumbers_3_new0_5 s_a0_0 s_a0_1 s_a0_2 s_a1_0 s_a1_1), (F_withNumbers_3_new0_6 s_a0_0 s_a0_1 s_a0_2 s_a1_0 s_a1_1), (F_withNumbers_3_new0_7 s_a0_0 s_a0_1 s_a0_2 s_a1_0 s_a1_1), (F_withNumbers_3_new0_8 s_a0_0 s_a0_1 s_a0_2 s_a1_0 s_a1_1), (F_withNumbers_3_new0_9 s_a0_0 s_a0_1 s_a0_2 s_a1_0 s_a1_1), (F_withNumbers_3_new0_10 s_a0_0 s_a0_1 s_a0_2 s_a1_0 s_a1_1)] i 0))) := by
  refine enter (plainFor_of_name pn_1) (ef_1_3 a0 a1) ?_
  intro p e s m below meth c T0 kc kn Q hkc hkn hQ K' X0 e0
  have K : Fx p s m meth c prog_84_method_7_code 4 "com/example/muster/muster/search/SortKeys" "withNumbers" (some (.array .byte)) Z := K'
  have N0 := Fr.nil n0
  have K0 : Keep h0 h0 [] := Keep.refl _ _
  refine k_aloadN K X0 d1_0 rfl rfl (q := 1) rfl ?_
  refine k_aloadN K X0 d1_1 rfl rfl (q := 2) rfl ?_
  refine k_arraylength K X0 e0 d1_2 A_a0 (v := (3 : Int32)) rfl (q := 3) rfl ?_
  refine k_iconst K X0 d1_3 (v := (4 : Int32)) rfl (q := 4) rfl ?_
  refine k_aloadN K X0 d1_4 rfl rfl (q := 5) rfl ?_
  refine k_arraylength K X0 e0 d1_5 A_a1 (v := (2 : Int32)) rfl (q := 6) rfl ?_
  refine k_imul K X0 d1_6 (q := 7) rfl ?_
  refine k_nameI (v := (8 : Int32)) (by decide) ?_
  refine k_iadd K X0 d1_7 (q := 8) rfl ?_
  refine k_nameI (v := (11 : Int32)) (by decide) ?_
  refine k_static K X0 e0 d1_8 (wd hw 6 rfl) (wd hw 7 rfl) (wd hw 8 rfl) (wd hw 9 rfl) (by decide) (rm2_3 l Z az hw [] a0 s_a0_0 s_a0_1 s_a0_2 h0 n0 Z0 A_a0) (W := 0) (by decide) (by decide) (by decide) (by decide) rfl pd_1 (argsL := [(.ref a0), (.int (11 : Int32))]) (rest := []) rfl rfl rfl (Nat.le_of_eq rfl) (q := 11) rfl ?_
  rintro _ T612 L613 X614 ⟨b618, ge619, bn620, rfl, N615, K616, f621, f622⟩
  have ne623 : a0 ≠ b618 := Nat.ne_of_lt (Nat.lt_of_lt_of_le (A_a0).lt bn620)
  have ne624 : a1 ≠ b618 := Nat.ne_of_lt (Nat.lt_of_lt_of_le (A_a1).lt bn620)
  have bn625 : h0.size ≤ b618 := Nat.le_trans K0.1 bn620
  have f626 := Ary.keep A_a0 K616 nin0
  have f627 := Ary.keep A_a1 K616 nin0
  have N628 := Fr.app N0 N615
  have K629 := Keep.trans K0 K616 all0
  have Z630 := Nat.le_trans Z0 K616.1
  refine k_astoreN K X614 d1_11 rfl (Ls' := #[.val (.ref a0), .val (.ref a1), .val (.ref b618), .unset]) rfl (q := 12) rfl ?_
  refine k_iconst K X614 d1_12 (v := (0 : Int32)) rfl (q := 13) rfl ?_
  refine k_istoreN K X614 d1_13 rfl (Ls' := #[.val (.ref a0), .val (.ref a1), .val (.ref b618), .val (.int (0 : Int32))]) rfl (q := 14) rfl ?_
  refine k_iloadN K X614 d1_14 rfl (q := 15) rfl ?_
  refine k_aloadN K X614 d1_15 rfl rfl (q := 16) rfl ?_
  refine k_arraylength K X614 rfl d1_16 f627 (v := (2 : Int32)) rfl (q := 17) rfl ?_
  refine k_icmp_ge_n K X614 d1_17 (by decide) (q := 20) rfl ?_
  refine k_aloadN K X614 d1_20 rfl rfl (q := 21) rfl ?_
  refine k_aloadN K X614 d1_21 rfl rfl (q := 22) rfl ?_
  refine k_arraylength K X614 rfl d1_22 f626 (v := (3 : Int32)) rfl (q := 23) rfl ?_
  refine k_iconst K X614 d1_23 (v := (4 : Int32)) rfl (q := 24) rfl ?_
  refine k_iloadN K X614 d1_24 rfl (q := 25) rfl ?_
  refine k_imul K X614 d1_25 (q := 26) rfl ?_
  refine k_nameI (v := (0 : Int32)) (by decide) ?_
  refine k_iadd K X614 d1_26 (q := 27) rfl ?_
  refine k_nameI (v := (3 : Int32)) (by decide) ?_
  refine k_aloadN K X614 d1_27 rfl rfl (q := 28) rfl ?_
  refine k_iloadN K X614 d1_28 rfl (q := 29) rfl ?_
  refine k_iaload K X614 rfl d1_29 f627 (i := 0) (v := (.int s_a1_0)) (by decide) (by decide) rfl (q := 30) rfl ?_
  refine k_static K X614 rfl d1_30 (wd hw 18 rfl) (wd hw 19 rfl) (wd hw 4 rfl) (wd hw 20 rfl) (by decide) (rm4_11_3 l Z az hw [] b618 s_a1_0 s_a0_0 s_a0_1 s_a0_2 (0 : Int32) (0 : Int32) (0 : Int32) (0 : Int32) (0 : Int32) (0 : Int32) (0 : Int32) (0 : Int32) T612.heap n0 Z630 f622 ge619) (W := 0) (by decide) (by decide) (by decide) (by decide) rfl pd_2 (argsL := [(.ref b618), (.int (3 : Int32)), (.int s_a1_0)]) (rest := []) rfl rfl rfl (Nat.le_of_eq rfl) (q := 33) rfl ?_
  rintro _ T631 L632 X633 ⟨rfl, N634, K635, f637⟩
  have f638 := Ary.keep f626 K635 (ninS ne623 nin0)
  have f639 := Ary.keep f627 K635 (ninS ne624 nin0)
  have f640 := Exa.keep f621 K635
  have N641 := Fr.app N628 N634
  have K642 := Keep.trans K629 K635 (allS (Or.inr bn625) all0)
  have Z643 := Nat.le_trans Z630 K635.1
  obtain ⟨v644, hv_v644⟩ : ∃ z : Int32, (nar .byte (i2b (ushrI s_a1_0 (24 : Int32)))) = z := ⟨_, rfl⟩
  rw [hv_v644] at f637
  obtain ⟨v645, hv_v645⟩ : ∃ z : Int32, (nar .byte (i2b (ushrI s_a1_0 (16 : Int32)))) = z := ⟨_, rfl⟩
  rw [hv_v645] at f637
  obtain ⟨v646, hv_v646⟩ : ∃ z : Int32, (nar .byte (i2b (ushrI s_a1_0 (8 : Int32)))) = z := ⟨_, rfl⟩
  rw [hv_v646] at f637
  obtain ⟨v647, hv_v647⟩ : ∃ z : Int32, (nar .byte (i2b s_a1_0)) = z := ⟨_, rfl⟩
  rw [hv_v647] at f637
  refine k_iinc K X633 d1_33 rfl (by decide) (Ls' := #[.val (.ref a0), .val (.ref a1), .val (.ref b618), .val (.int (1 : Int32))]) rfl (q := 36) rfl ?_
  refine k_goto K X633 d1_36 (by decide) (q := 14) rfl ?_
  refine k_iloadN K X633 d1_14 rfl (q := 15) rfl ?_
  refine k_aloadN K X633 d1_15 rfl rfl (q := 16) rfl ?_
  refine k_arraylength K X633 rfl d1_16 f639 (v := (2 : Int32)) rfl (q := 17) rfl ?_
  refine k_icmp_ge_n K X633 d1_17 (by decide) (q := 20) rfl ?_
  refine k_aloadN K X633 d1_20 rfl rfl (q := 21) rfl ?_
  refine k_aloadN K X633 d1_21 rfl rfl (q := 22) rfl ?_
  refine k_arraylength K X633 rfl d1_22 f638 (v := (3 : Int32)) rfl (q := 23) rfl ?_
  refine k_iconst K X633 d1_23 (v := (4 : Int32)) rfl (q := 24) rfl ?_
  refine k_iloadN K X633 d1_24 rfl (q := 25) rfl ?_
  refine k_imul K X633 d1_25 (q := 26) rfl ?_
  refine k_nameI (v := (4 : Int32)) (by decide) ?_
  refine k_iadd K X633 d1_26 (q := 27) rfl ?_
  refine k_nameI (v := (7 : Int32)) (by decide) ?_
  refine k_aloadN K X633 d1_27 rfl rfl (q := 28) rfl ?_
  refine k_iloadN K X633 d1_28 rfl (q := 29) rfl ?_
  refine k_iaload K X633 rfl d1_29 f639 (i := 1) (v := (.int s_a1_1)) (by decide) (by decide) rfl (q := 30) rfl ?_
  refine k_static K X633 rfl d1_30 (wd hw 18 rfl) (wd hw 19 rfl) (wd hw 4 rfl) (wd hw 20 rfl) (by decide) (rm4_11_7 l Z az hw [] b618 s_a1_1 s_a0_0 s_a0_1 s_a0_2 v644 v645 v646 v647 (0 : Int32) (0 : Int32) (0 : Int32) (0 : Int32) T631.heap n0 Z643 f637 ge619) (W := 0) (by decide) (by decide) (by decide) (by decide) rfl pd_2 (argsL := [(.ref b618), (.int (7 : Int32)), (.int s_a1_1)]) (rest := []) rfl rfl rfl (Nat.le_of_eq rfl) (q := 33) rfl ?_
  rintro _ T648 L649 X650 ⟨rfl, N651, K652, f654⟩
  have f655 := Ary.keep f638 K652 (ninS ne623 nin0)
  have f656 := Ary.keep f639 K652 (ninS ne624 nin0)
  have f657 := Exa.keep f640 K652
  have N658 := Fr.app N641 N651
  have K659 := Keep.trans K642 K652 (allS (Or.inr bn625) all0)
  have Z660 := Nat.le_trans Z643 K652.1
  obtain ⟨v661, hv_v661⟩ : ∃ z : Int32, (nar .byte (i2b (ushrI s_a1_1 (24 : Int32)))) = z := ⟨_, rfl⟩
  rw [hv_v661] at f654
  obtain ⟨v662, hv_v662⟩ : ∃ z : Int32, (nar .byte (i2b (ushrI s_a1_1 (16 : Int32)))) = z := ⟨_, rfl⟩
  rw [hv_v662] at f654
  obtain ⟨v663, hv_v663⟩ : ∃ z : Int32, (nar .byte (i2b (ushrI s_a1_1 (8 : Int32)))) = z := ⟨_, rfl⟩
  rw [hv_v663] at f654
  obtain ⟨v664, hv_v664⟩ : ∃ z : Int32, (nar .byte (i2b s_a1_1)) = z := ⟨_, rfl⟩
  rw [hv_v664] at f654
  refine k_iinc K X650 d1_33 rfl (by decide) (Ls' := #[.val (.ref a0), .val (.ref a1), .val (.ref b618), .val (.int (2 : Int32))]) rfl (q := 36) rfl ?_
  refine k_goto K X650 d1_36 (by decide) (q := 14) rfl ?_
  refine k_iloadN K X650 d1_14 rfl (q := 15) rfl ?_
  refine k_aloadN K X650 d1_15 rfl rfl (q := 16) rfl ?_
  refine k_arraylength K X650 rfl d1_16 f656 (v := (2 : Int32)) rfl (q := 17) rfl ?_
  refine k_icmp_ge_y K X650 d1_17 (by decide) (by decide) (q := 39) rfl ?_
  refine k_aloadN K X650 d1_39 rfl rfl (q := 40) rfl ?_
  exact k_reta K X650 rfl d1_40 rfl rfl (Nat.le_trans (by decide) hkc) (Nat.le_trans (by decide) hkn) (hQ _ _ _ ⟨b618, ge619, bn625, rfl, N658, K659, f657, (by rw [(show F_withNumbers_3_new0_0 s_a0_0 s_a0_1 s_a0_2 s_a1_0 s_a1_1 = s_a0_0 from by first | (simp only [F_withNumbers_3_new0_0, hv_v644, hv_v645, hv_v646, hv_v647, hv_v661, hv_v662, hv_v663, hv_v664]; done) | (subst hv_v644; subst hv_v645; subst hv_v646; subst hv_v647; subst hv_v661; subst hv_v662; subst hv_v663; subst hv_v664; simp only [F_withNumbers_3_new0_0])), (show F_withNumbers_3_new0_1 s_a0_0 s_a0_1 s_a0_2 s_a1_0 s_a1_1 = s_a0_1 from by first | (simp only [F_withNumbers_3_new0_1, hv_v644, hv_v645, hv_v646, hv_v647, hv_v661, hv_v662, hv_v663, hv_v664]; done) | (subst hv_v644; subst hv_v645; subst hv_v646; subst hv_v647; subst hv_v661; subst hv_v662; subst hv_v663; subst hv_v664; simp only [F_withNumbers_3_new0_1])), (show F_withNumbers_3_new0_2 s_a0_0 s_a0_1 s_a0_2 s_a1_0 s_a1_1 = s_a0_2 from by first | (simp only [F_withNumbers_3_new0_2, hv_v644, hv_v645, hv_v646, hv_v647, hv_v661, hv_v662, hv_v663, hv_v664]; done) | (subst hv_v644; subst hv_v645; subst hv_v646; subst hv_v647; subst hv_v661; subst hv_v662; subst hv_v663; subst hv_v664; simp only [F_withNumbers_3_new0_2])), (show F_withNumbers_3_new0_3 s_a0_0 s_a0_1 s_a0_2 s_a1_0 s_a1_1 = v644 from by first | (simp only [F_withNumbers_3_new0_3, hv_v644, hv_v645, hv_v646, hv_v647, hv_v661, hv_v662, hv_v663, hv_v664]; done) | (subst hv_v644; subst hv_v645; subst hv_v646; subst hv_v647; subst hv_v661; subst hv_v662; subst hv_v663; subst hv_v664; simp only [F_withNumbers_3_new0_3])), (show F_withNumbers_3_new0_4 s_a0_0 s_a0_1 s_a0_2 s_a1_0 s_a1_1 = v645 from by first | (simp only [F_withNumbers_3_new0_4, hv_v644, hv_v645, hv_v646, hv_v647, hv_v661, hv_v662, hv_v663, hv_v664]; done) | (subst hv_v644; subst hv_v645; subst hv_v646; subst hv_v647; subst hv_v661; subst hv_v662; subst hv_v663; subst hv_v664; simp only [F_withNumbers_3_new0_4])), (show F_withNumbers_3_new0_5 s_a0_0 s_a0_1 s_a0_2 s_a1_0 s_a1_1 = v646 from by first | (simp only [F_withNumbers_3_new0_5, hv_v644, hv_v645, hv_v646, hv_v647, hv_v661, hv_v662, hv_v663, hv_v664]; done) | (subst hv_v644; subst hv_v645; subst hv_v646; subst hv_v647; subst hv_v661; subst hv_v662; subst hv_v663; subst hv_v664; simp only [F_withNumbers_3_new0_5])), (show F_withNumbers_3_new0_6 s_a0_0 s_a0_1 s_a0_2 s_a1_0 s_a1_1 = v647 from by first | (simp only [F_withNumbers_3_new0_6, hv_v644, hv_v645, hv_v646, hv_v647, hv_v661, hv_v662, hv_v663, hv_v664]; done) | (subst hv_v644; subst hv_v645; subst hv_v646; subst hv_v647; subst hv_v661; subst hv_v662; subst hv_v663; subst hv_v664; simp only [F_withNumbers_3_new0_6])), (show F_withNumbers_3_new0_7 s_a0_0 s_a0_1 s_a0_2 s_a1_0 s_a1_1 = v661 from by first | (simp only [F_withNumbers_3_new0_7, hv_v644, hv_v645, hv_v646, hv_v647, hv_v661, hv_v662, hv_v663, hv_v664]; done) | (subst hv_v644; subst hv_v645; subst hv_v646; subst hv_v647; subst hv_v661; subst hv_v662; subst hv_v663; subst hv_v664; simp only [F_withNumbers_3_new0_7])), (show F_withNumbers_3_new0_8 s_a0_0 s_a0_1 s_a0_2 s_a1_0 s_a1_1 = v662 from by first | (simp only [F_withNumbers_3_new0_8, hv_v644, hv_v645, hv_v646, hv_v647, hv_v661, hv_v662, hv_v663, hv_v664]; done) | (subst hv_v644; subst hv_v645; subst hv_v646; subst hv_v647; subst hv_v661; subst hv_v662; subst hv_v663; subst hv_v664; simp only [F_withNumbers_3_new0_8])), (show F_withNumbers_3_new0_9 s_a0_0 s_a0_1 s_a0_2 s_a1_0 s_a1_1 = v663 from by first | (simp only [F_withNumbers_3_new0_9, hv_v644, hv_v645, hv_v646, hv_v647, hv_v661, hv_v662, hv_v663, hv_v664]; done) | (subst hv_v644; subst hv_v645; subst hv_v646; subst hv_v647; subst hv_v661; subst hv_v662; subst hv_v663; subst hv_v664; simp only [F_withNumbers_3_new0_9])), (show F_withNumbers_3_new0_10 s_a0_0 s_a0_1 s_a0_2 s_a1_0 s_a1_1 = v664 from by first | (simp only [F_withNumbers_3_new0_10, hv_v644, hv_v645, hv_v646, hv_v647, hv_v661, hv_v662, hv_v663, hv_v664]; done) | (subst hv_v644; subst hv_v645; subst hv_v646; subst hv_v647; subst hv_v661; subst hv_v662; subst hv_v663; subst hv_v664; simp only [F_withNumbers_3_new0_10]))]; exact f654)⟩)
theorem ef_5_11_3 (a0 : Addr) : ∀ m : MethodId, entryFrame m #[(.ref a0), (.int (3 : Int32))] 2 = mkF m 0 #[.val (.ref a0), .val (.int (3 : Int32))] [] := by intro m; first | (simp [entryFrame, mkF, argsToLocals, Value.category]; done) | rfl
def F_readNumber_11_3 (s_a0_0 : Int32) (s_a0_1 : Int32) (s_a0_2 : Int32) (s_a0_3 : Int32) (s_a0_4 : Int32) (s_a0_5 : Int32) (s_a0_6 : Int32) (s_a0_7 : Int32) (s_a0_8 : Int32) (s_a0_9 : Int32) (s_a0_10 : Int32) : Int32 :=
  ((((shlI (s_a0_3 &&& (255 : Int32)) (24 : Int32)) ||| (shlI (s_a0_4 &&& (255 : Int32)) (16 : Int32))) ||| (shlI (s_a0_5 &&& (255 : Int32)) (8 : Int32))) ||| (s_a0_6 &&& (255 : Int32)))
set_option maxRecDepth 65536 in
set_option maxHeartbeats 40000000 in
theorem rm5_11_3 (l : Launch) (Z : State) (az : Array Value) (hw : ∀ d ∈ tables_1, d.before az Z = true) (ws : List Jvm.Cond) (a0 : Addr) (s_a0_0 : Int32) (s_a0_1 : Int32) (s_a0_2 : Int32) (s_a0_3 : Int32) (s_a0_4 : Int32) (s_a0_5 : Int32) (s_a0_6 : Int32) (s_a0_7 : Int32) (s_a0_8 : Int32) (s_a0_9 : Int32) (s_a0_10 : Int32) (h0 : Heap) (A_a0 : Ary Z h0 a0 .byte 11 (fun i => Value.int (List.getD [s_a0_0, s_a0_1, s_a0_2, s_a0_3, s_a0_4, s_a0_5, s_a0_6, s_a0_7, s_a0_8, s_a0_9, s_a0_10] i 0))) :
    Met l (⟨"com/example/muster/muster/search/SortKeys", "readNumber", "([BI)I"⟩ : MethodName) prog_84_method_8_code 2 (some .int) ws ({ frames := 0, cells := 0, slots := 0, locals := 0 } : Room) Z #[(.ref a0), (.int (3 : Int32))] h0 (fun v h' L => v = some (Value.int (F_readNumber_11_3 s_a0_0 s_a0_1 s_a0_2 s_a0_3 s_a0_4 s_a0_5 s_a0_6 s_a0_7 s_a0_8 s_a0_9 s_a0_10)) ∧ h' = h0 ∧ L = []) := by
  refine enter (plainFor_of_name pn_1) (ef_5_11_3 a0) ?_
  intro p e s m below meth c T0 kc kn Q hkc hkn hQ K' X0 e0
  have K : Fx p s m meth c prog_84_method_8_code 2 "com/example/muster/muster/search/SortKeys" "readNumber" (some .int) Z := K'
  refine k_aloadN K X0 d5_0 rfl rfl (q := 1) rfl ?_
  refine k_iloadN K X0 d5_1 rfl (q := 2) rfl ?_
  refine k_baload K X0 e0 d5_2 A_a0 (i := 3) (v := (.int s_a0_3)) (by decide) (by decide) rfl (q := 3) rfl ?_
  refine k_sipush K X0 d5_3 (v := (255 : Int32)) rfl (q := 6) rfl ?_
  refine k_iand K X0 d5_6 (q := 7) rfl ?_
  refine k_bipush K X0 d5_7 (v := (24 : Int32)) rfl (q := 9) rfl ?_
  refine k_ishl K X0 d5_9 (q := 10) rfl ?_
  refine k_aloadN K X0 d5_10 rfl rfl (q := 11) rfl ?_
  refine k_iloadN K X0 d5_11 rfl (q := 12) rfl ?_
  refine k_iconst K X0 d5_12 (v := (1 : Int32)) rfl (q := 13) rfl ?_
  refine k_iadd K X0 d5_13 (q := 14) rfl ?_
  refine k_nameI (v := (4 : Int32)) (by decide) ?_
  refine k_baload K X0 e0 d5_14 A_a0 (i := 4) (v := (.int s_a0_4)) (by decide) (by decide) rfl (q := 15) rfl ?_
  refine k_sipush K X0 d5_15 (v := (255 : Int32)) rfl (q := 18) rfl ?_
  refine k_iand K X0 d5_18 (q := 19) rfl ?_
  refine k_bipush K X0 d5_19 (v := (16 : Int32)) rfl (q := 21) rfl ?_
  refine k_ishl K X0 d5_21 (q := 22) rfl ?_
  refine k_ior K X0 d5_22 (q := 23) rfl ?_
  refine k_aloadN K X0 d5_23 rfl rfl (q := 24) rfl ?_
  refine k_iloadN K X0 d5_24 rfl (q := 25) rfl ?_
  refine k_iconst K X0 d5_25 (v := (2 : Int32)) rfl (q := 26) rfl ?_
  refine k_iadd K X0 d5_26 (q := 27) rfl ?_
  refine k_nameI (v := (5 : Int32)) (by decide) ?_
  refine k_baload K X0 e0 d5_27 A_a0 (i := 5) (v := (.int s_a0_5)) (by decide) (by decide) rfl (q := 28) rfl ?_
  refine k_sipush K X0 d5_28 (v := (255 : Int32)) rfl (q := 31) rfl ?_
  refine k_iand K X0 d5_31 (q := 32) rfl ?_
  refine k_bipush K X0 d5_32 (v := (8 : Int32)) rfl (q := 34) rfl ?_
  refine k_ishl K X0 d5_34 (q := 35) rfl ?_
  refine k_ior K X0 d5_35 (q := 36) rfl ?_
  refine k_aloadN K X0 d5_36 rfl rfl (q := 37) rfl ?_
  refine k_iloadN K X0 d5_37 rfl (q := 38) rfl ?_
  refine k_iconst K X0 d5_38 (v := (3 : Int32)) rfl (q := 39) rfl ?_
  refine k_iadd K X0 d5_39 (q := 40) rfl ?_
  refine k_nameI (v := (6 : Int32)) (by decide) ?_
  refine k_baload K X0 e0 d5_40 A_a0 (i := 6) (v := (.int s_a0_6)) (by decide) (by decide) rfl (q := 41) rfl ?_
  refine k_sipush K X0 d5_41 (v := (255 : Int32)) rfl (q := 44) rfl ?_
  refine k_iand K X0 d5_44 (q := 45) rfl ?_
  refine k_ior K X0 d5_45 (q := 46) rfl ?_
  exact k_reti K X0 e0 d5_46 (Nat.le_trans (by decide) hkc) (Nat.le_trans (by decide) hkn) (hQ _ _ _ ⟨(by show some (Value.int ((((shlI (s_a0_3 &&& (255 : Int32)) (24 : Int32)) ||| (shlI (s_a0_4 &&& (255 : Int32)) (16 : Int32))) ||| (shlI (s_a0_5 &&& (255 : Int32)) (8 : Int32))) ||| (s_a0_6 &&& (255 : Int32)))) = some (Value.int (F_readNumber_11_3 s_a0_0 s_a0_1 s_a0_2 s_a0_3 s_a0_4 s_a0_5 s_a0_6 s_a0_7 s_a0_8 s_a0_9 s_a0_10)); first | (simp only [F_readNumber_11_3]; done) | (simp only [F_readNumber_11_3])), rfl, rfl⟩)
theorem ef_5_11_7 (a0 : Addr) : ∀ m : MethodId, entryFrame m #[(.ref a0), (.int (7 : Int32))] 2 = mkF m 0 #[.val (.ref a0), .val (.int (7 : Int32))] [] := by intro m; first | (simp [entryFrame, mkF, argsToLocals, Value.category]; done) | rfl
def F_readNumber_11_7 (s_a0_0 : Int32) (s_a0_1 : Int32) (s_a0_2 : Int32) (s_a0_3 : Int32) (s_a0_4 : Int32) (s_a0_5 : Int32) (s_a0_6 : Int32) (s_a0_7 : Int32) (s_a0_8 : Int32) (s_a0_9 : Int32) (s_a0_10 : Int32) : Int32 :=
  ((((shlI (s_a0_7 &&& (255 : Int32)) (24 : Int32)) ||| (shlI (s_a0_8 &&& (255 : Int32)) (16 : Int32))) ||| (shlI (s_a0_9 &&& (255 : Int32)) (8 : Int32))) ||| (s_a0_10 &&& (255 : Int32)))
set_option maxRecDepth 65536 in
set_option maxHeartbeats 40000000 in
theorem rm5_11_7 (l : Launch) (Z : State) (az : Array Value) (hw : ∀ d ∈ tables_1, d.before az Z = true) (ws : List Jvm.Cond) (a0 : Addr) (s_a0_0 : Int32) (s_a0_1 : Int32) (s_a0_2 : Int32) (s_a0_3 : Int32) (s_a0_4 : Int32) (s_a0_5 : Int32) (s_a0_6 : Int32) (s_a0_7 : Int32) (s_a0_8 : Int32) (s_a0_9 : Int32) (s_a0_10 : Int32) (h0 : Heap) (A_a0 : Ary Z h0 a0 .byte 11 (fun i => Value.int (List.getD [s_a0_0, s_a0_1, s_a0_2, s_a0_3, s_a0_4, s_a0_5, s_a0_6, s_a0_7, s_a0_8, s_a0_9, s_a0_10] i 0))) :
    Met l (⟨"com/example/muster/muster/search/SortKeys", "readNumber", "([BI)I"⟩ : MethodName) prog_84_method_8_code 2 (some .int) ws ({ frames := 0, cells := 0, slots := 0, locals := 0 } : Room) Z #[(.ref a0), (.int (7 : Int32))] h0 (fun v h' L => v = some (Value.int (F_readNumber_11_7 s_a0_0 s_a0_1 s_a0_2 s_a0_3 s_a0_4 s_a0_5 s_a0_6 s_a0_7 s_a0_8 s_a0_9 s_a0_10)) ∧ h' = h0 ∧ L = []) := by
  refine enter (plainFor_of_name pn_1) (ef_5_11_7 a0) ?_
  intro p e s m below meth c T0 kc kn Q hkc hkn hQ K' X0 e0
  have K : Fx p s m meth c prog_84_method_8_code 2 "com/example/muster/muster/search/SortKeys" "readNumber" (some .int) Z := K'
  refine k_aloadN K X0 d5_0 rfl rfl (q := 1) rfl ?_
  refine k_iloadN K X0 d5_1 rfl (q := 2) rfl ?_
  refine k_baload K X0 e0 d5_2 A_a0 (i := 7) (v := (.int s_a0_7)) (by decide) (by decide) rfl (q := 3) rfl ?_
  refine k_sipush K X0 d5_3 (v := (255 : Int32)) rfl (q := 6) rfl ?_
  refine k_iand K X0 d5_6 (q := 7) rfl ?_
  refine k_bipush K X0 d5_7 (v := (24 : Int32)) rfl (q := 9) rfl ?_
  refine k_ishl K X0 d5_9 (q := 10) rfl ?_
  refine k_aloadN K X0 d5_10 rfl rfl (q := 11) rfl ?_
  refine k_iloadN K X0 d5_11 rfl (q := 12) rfl ?_
  refine k_iconst K X0 d5_12 (v := (1 : Int32)) rfl (q := 13) rfl ?_
  refine k_iadd K X0 d5_13 (q := 14) rfl ?_
  refine k_nameI (v := (8 : Int32)) (by decide) ?_
  refine k_baload K X0 e0 d5_14 A_a0 (i := 8) (v := (.int s_a0_8)) (by decide) (by decide) rfl (q := 15) rfl ?_
  refine k_sipush K X0 d5_15 (v := (255 : Int32)) rfl (q := 18) rfl ?_
  refine k_iand K X0 d5_18 (q := 19) rfl ?_
  refine k_bipush K X0 d5_19 (v := (16 : Int32)) rfl (q := 21) rfl ?_
  refine k_ishl K X0 d5_21 (q := 22) rfl ?_
  refine k_ior K X0 d5_22 (q := 23) rfl ?_
  refine k_aloadN K X0 d5_23 rfl rfl (q := 24) rfl ?_
  refine k_iloadN K X0 d5_24 rfl (q := 25) rfl ?_
  refine k_iconst K X0 d5_25 (v := (2 : Int32)) rfl (q := 26) rfl ?_
  refine k_iadd K X0 d5_26 (q := 27) rfl ?_
  refine k_nameI (v := (9 : Int32)) (by decide) ?_
  refine k_baload K X0 e0 d5_27 A_a0 (i := 9) (v := (.int s_a0_9)) (by decide) (by decide) rfl (q := 28) rfl ?_
  refine k_sipush K X0 d5_28 (v := (255 : Int32)) rfl (q := 31) rfl ?_
  refine k_iand K X0 d5_31 (q := 32) rfl ?_
  refine k_bipush K X0 d5_32 (v := (8 : Int32)) rfl (q := 34) rfl ?_
  refine k_ishl K X0 d5_34 (q := 35) rfl ?_
  refine k_ior K X0 d5_35 (q := 36) rfl ?_
  refine k_aloadN K X0 d5_36 rfl rfl (q := 37) rfl ?_
  refine k_iloadN K X0 d5_37 rfl (q := 38) rfl ?_
  refine k_iconst K X0 d5_38 (v := (3 : Int32)) rfl (q := 39) rfl ?_
  refine k_iadd K X0 d5_39 (q := 40) rfl ?_
  refine k_nameI (v := (10 : Int32)) (by decide) ?_
  refine k_baload K X0 e0 d5_40 A_a0 (i := 10) (v := (.int s_a0_10)) (by decide) (by decide) rfl (q := 41) rfl ?_
  refine k_sipush K X0 d5_41 (v := (255 : Int32)) rfl (q := 44) rfl ?_
  refine k_iand K X0 d5_44 (q := 45) rfl ?_
  refine k_ior K X0 d5_45 (q := 46) rfl ?_
  exact k_reti K X0 e0 d5_46 (Nat.le_trans (by decide) hkc) (Nat.le_trans (by decide) hkn) (hQ _ _ _ ⟨(by show some (Value.int ((((shlI (s_a0_7 &&& (255 : Int32)) (24 : Int32)) ||| (shlI (s_a0_8 &&& (255 : Int32)) (16 : Int32))) ||| (shlI (s_a0_9 &&& (255 : Int32)) (8 : Int32))) ||| (s_a0_10 &&& (255 : Int32)))) = some (Value.int (F_readNumber_11_7 s_a0_0 s_a0_1 s_a0_2 s_a0_3 s_a0_4 s_a0_5 s_a0_6 s_a0_7 s_a0_8 s_a0_9 s_a0_10)); first | (simp only [F_readNumber_11_7]; done) | (simp only [F_readNumber_11_7])), rfl, rfl⟩)
theorem ef_5_6_0 (a0 : Addr) : ∀ m : MethodId, entryFrame m #[(.ref a0), (.int (0 : Int32))] 2 = mkF m 0 #[.val (.ref a0), .val (.int (0 : Int32))] [] := by intro m; first | (simp [entryFrame, mkF, argsToLocals, Value.category]; done) | rfl
def F_readNumber_6_0 (s_a0_0 : Int32) (s_a0_1 : Int32) (s_a0_2 : Int32) (s_a0_3 : Int32) (s_a0_4 : Int32) (s_a0_5 : Int32) : Int32 :=
  ((((shlI (s_a0_0 &&& (255 : Int32)) (24 : Int32)) ||| (shlI (s_a0_1 &&& (255 : Int32)) (16 : Int32))) ||| (shlI (s_a0_2 &&& (255 : Int32)) (8 : Int32))) ||| (s_a0_3 &&& (255 : Int32)))
set_option maxRecDepth 65536 in
set_option maxHeartbeats 40000000 in
theorem rm5_6_0 (l : Launch) (Z : State) (az : Array Value) (hw : ∀ d ∈ tables_1, d.before az Z = true) (ws : List Jvm.Cond) (a0 : Addr) (s_a0_0 : Int32) (s_a0_1 : Int32) (s_a0_2 : Int32) (s_a0_3 : Int32) (s_a0_4 : Int32) (s_a0_5 : Int32) (h0 : Heap) (A_a0 : Ary Z h0 a0 .byte 6 (fun i => Value.int (List.getD [s_a0_0, s_a0_1, s_a0_2, s_a0_3, s_a0_4, s_a0_5] i 0))) :
    Met l (⟨"com/example/muster/muster/search/SortKeys", "readNumber", "([BI)I"⟩ : MethodName) prog_84_method_8_code 2 (some .int) ws ({ frames := 0, cells := 0, slots := 0, locals := 0 } : Room) Z #[(.ref a0), (.int (0 : Int32))] h0 (fun v h' L => v = some (Value.int (F_readNumber_6_0 s_a0_0 s_a0_1 s_a0_2 s_a0_3 s_a0_4 s_a0_5)) ∧ h' = h0 ∧ L = []) := by
  refine enter (plainFor_of_name pn_1) (ef_5_6_0 a0) ?_
  intro p e s m below meth c T0 kc kn Q hkc hkn hQ K' X0 e0
  have K : Fx p s m meth c prog_84_method_8_code 2 "com/example/muster/muster/search/SortKeys" "readNumber" (some .int) Z := K'
  refine k_aloadN K X0 d5_0 rfl rfl (q := 1) rfl ?_
  refine k_iloadN K X0 d5_1 rfl (q := 2) rfl ?_
  refine k_baload K X0 e0 d5_2 A_a0 (i := 0) (v := (.int s_a0_0)) (by decide) (by decide) rfl (q := 3) rfl ?_
  refine k_sipush K X0 d5_3 (v := (255 : Int32)) rfl (q := 6) rfl ?_
  refine k_iand K X0 d5_6 (q := 7) rfl ?_
  refine k_bipush K X0 d5_7 (v := (24 : Int32)) rfl (q := 9) rfl ?_
  refine k_ishl K X0 d5_9 (q := 10) rfl ?_
  refine k_aloadN K X0 d5_10 rfl rfl (q := 11) rfl ?_
  refine k_iloadN K X0 d5_11 rfl (q := 12) rfl ?_
  refine k_iconst K X0 d5_12 (v := (1 : Int32)) rfl (q := 13) rfl ?_
  refine k_iadd K X0 d5_13 (q := 14) rfl ?_
  refine k_nameI (v := (1 : Int32)) (by decide) ?_
  refine k_baload K X0 e0 d5_14 A_a0 (i := 1) (v := (.int s_a0_1)) (by decide) (by decide) rfl (q := 15) rfl ?_
  refine k_sipush K X0 d5_15 (v := (255 : Int32)) rfl (q := 18) rfl ?_
  refine k_iand K X0 d5_18 (q := 19) rfl ?_
  refine k_bipush K X0 d5_19 (v := (16 : Int32)) rfl (q := 21) rfl ?_
  refine k_ishl K X0 d5_21 (q := 22) rfl ?_
  refine k_ior K X0 d5_22 (q := 23) rfl ?_
  refine k_aloadN K X0 d5_23 rfl rfl (q := 24) rfl ?_
  refine k_iloadN K X0 d5_24 rfl (q := 25) rfl ?_
  refine k_iconst K X0 d5_25 (v := (2 : Int32)) rfl (q := 26) rfl ?_
  refine k_iadd K X0 d5_26 (q := 27) rfl ?_
  refine k_nameI (v := (2 : Int32)) (by decide) ?_
  refine k_baload K X0 e0 d5_27 A_a0 (i := 2) (v := (.int s_a0_2)) (by decide) (by decide) rfl (q := 28) rfl ?_
  refine k_sipush K X0 d5_28 (v := (255 : Int32)) rfl (q := 31) rfl ?_
  refine k_iand K X0 d5_31 (q := 32) rfl ?_
  refine k_bipush K X0 d5_32 (v := (8 : Int32)) rfl (q := 34) rfl ?_
  refine k_ishl K X0 d5_34 (q := 35) rfl ?_
  refine k_ior K X0 d5_35 (q := 36) rfl ?_
  refine k_aloadN K X0 d5_36 rfl rfl (q := 37) rfl ?_
  refine k_iloadN K X0 d5_37 rfl (q := 38) rfl ?_
  refine k_iconst K X0 d5_38 (v := (3 : Int32)) rfl (q := 39) rfl ?_
  refine k_iadd K X0 d5_39 (q := 40) rfl ?_
  refine k_nameI (v := (3 : Int32)) (by decide) ?_
  refine k_baload K X0 e0 d5_40 A_a0 (i := 3) (v := (.int s_a0_3)) (by decide) (by decide) rfl (q := 41) rfl ?_
  refine k_sipush K X0 d5_41 (v := (255 : Int32)) rfl (q := 44) rfl ?_
  refine k_iand K X0 d5_44 (q := 45) rfl ?_
  refine k_ior K X0 d5_45 (q := 46) rfl ?_
  exact k_reti K X0 e0 d5_46 (Nat.le_trans (by decide) hkc) (Nat.le_trans (by decide) hkn) (hQ _ _ _ ⟨(by show some (Value.int ((((shlI (s_a0_0 &&& (255 : Int32)) (24 : Int32)) ||| (shlI (s_a0_1 &&& (255 : Int32)) (16 : Int32))) ||| (shlI (s_a0_2 &&& (255 : Int32)) (8 : Int32))) ||| (s_a0_3 &&& (255 : Int32)))) = some (Value.int (F_readNumber_6_0 s_a0_0 s_a0_1 s_a0_2 s_a0_3 s_a0_4 s_a0_5)); first | (simp only [F_readNumber_6_0]; done) | (simp only [F_readNumber_6_0])), rfl, rfl⟩)
theorem ef_5_6_1 (a0 : Addr) : ∀ m : MethodId, entryFrame m #[(.ref a0), (.int (1 : Int32))] 2 = mkF m 0 #[.val (.ref a0), .val (.int (1 : Int32))] [] := by intro m; first | (simp [entryFrame, mkF, argsToLocals, Value.category]; done) | rfl
def F_readNumber_6_1 (s_a0_0 : Int32) (s_a0_1 : Int32) (s_a0_2 : Int32) (s_a0_3 : Int32) (s_a0_4 : Int32) (s_a0_5 : Int32) : Int32 :=
  ((((shlI (s_a0_1 &&& (255 : Int32)) (24 : Int32)) ||| (shlI (s_a0_2 &&& (255 : Int32)) (16 : Int32))) ||| (shlI (s_a0_3 &&& (255 : Int32)) (8 : Int32))) ||| (s_a0_4 &&& (255 : Int32)))
set_option maxRecDepth 65536 in
set_option maxHeartbeats 40000000 in
theorem rm5_6_1 (l : Launch) (Z : State) (az : Array Value) (hw : ∀ d ∈ tables_1, d.before az Z = true) (ws : List Jvm.Cond) (a0 : Addr) (s_a0_0 : Int32) (s_a0_1 : Int32) (s_a0_2 : Int32) (s_a0_3 : Int32) (s_a0_4 : Int32) (s_a0_5 : Int32) (h0 : Heap) (A_a0 : Ary Z h0 a0 .byte 6 (fun i => Value.int (List.getD [s_a0_0, s_a0_1, s_a0_2, s_a0_3, s_a0_4, s_a0_5] i 0))) :
    Met l (⟨"com/example/muster/muster/search/SortKeys", "readNumber", "([BI)I"⟩ : MethodName) prog_84_method_8_code 2 (some .int) ws ({ frames := 0, cells := 0, slots := 0, locals := 0 } : Room) Z #[(.ref a0), (.int (1 : Int32))] h0 (fun v h' L => v = some (Value.int (F_readNumber_6_1 s_a0_0 s_a0_1 s_a0_2 s_a0_3 s_a0_4 s_a0_5)) ∧ h' = h0 ∧ L = []) := by
  refine enter (plainFor_of_name pn_1) (ef_5_6_1 a0) ?_
  intro p e s m below meth c T0 kc kn Q hkc hkn hQ K' X0 e0
  have K : Fx p s m meth c prog_84_method_8_code 2 "com/example/muster/muster/search/SortKeys" "readNumber" (some .int) Z := K'
  refine k_aloadN K X0 d5_0 rfl rfl (q := 1) rfl ?_
  refine k_iloadN K X0 d5_1 rfl (q := 2) rfl ?_
  refine k_baload K X0 e0 d5_2 A_a0 (i := 1) (v := (.int s_a0_1)) (by decide) (by decide) rfl (q := 3) rfl ?_
  refine k_sipush K X0 d5_3 (v := (255 : Int32)) rfl (q := 6) rfl ?_
  refine k_iand K X0 d5_6 (q := 7) rfl ?_
  refine k_bipush K X0 d5_7 (v := (24 : Int32)) rfl (q := 9) rfl ?_
  refine k_ishl K X0 d5_9 (q := 10) rfl ?_
  refine k_aloadN K X0 d5_10 rfl rfl (q := 11) rfl ?_
  refine k_iloadN K X0 d5_11 rfl (q := 12) rfl ?_
  refine k_iconst K X0 d5_12 (v := (1 : Int32)) rfl (q := 13) rfl ?_
  refine k_iadd K X0 d5_13 (q := 14) rfl ?_
  refine k_nameI (v := (2 : Int32)) (by decide) ?_
  refine k_baload K X0 e0 d5_14 A_a0 (i := 2) (v := (.int s_a0_2)) (by decide) (by decide) rfl (q := 15) rfl ?_
  refine k_sipush K X0 d5_15 (v := (255 : Int32)) rfl (q := 18) rfl ?_
  refine k_iand K X0 d5_18 (q := 19) rfl ?_
  refine k_bipush K X0 d5_19 (v := (16 : Int32)) rfl (q := 21) rfl ?_
  refine k_ishl K X0 d5_21 (q := 22) rfl ?_
  refine k_ior K X0 d5_22 (q := 23) rfl ?_
  refine k_aloadN K X0 d5_23 rfl rfl (q := 24) rfl ?_
  refine k_iloadN K X0 d5_24 rfl (q := 25) rfl ?_
  refine k_iconst K X0 d5_25 (v := (2 : Int32)) rfl (q := 26) rfl ?_
  refine k_iadd K X0 d5_26 (q := 27) rfl ?_
  refine k_nameI (v := (3 : Int32)) (by decide) ?_
  refine k_baload K X0 e0 d5_27 A_a0 (i := 3) (v := (.int s_a0_3)) (by decide) (by decide) rfl (q := 28) rfl ?_
  refine k_sipush K X0 d5_28 (v := (255 : Int32)) rfl (q := 31) rfl ?_
  refine k_iand K X0 d5_31 (q := 32) rfl ?_
  refine k_bipush K X0 d5_32 (v := (8 : Int32)) rfl (q := 34) rfl ?_
  refine k_ishl K X0 d5_34 (q := 35) rfl ?_
  refine k_ior K X0 d5_35 (q := 36) rfl ?_
  refine k_aloadN K X0 d5_36 rfl rfl (q := 37) rfl ?_
  refine k_iloadN K X0 d5_37 rfl (q := 38) rfl ?_
  refine k_iconst K X0 d5_38 (v := (3 : Int32)) rfl (q := 39) rfl ?_
  refine k_iadd K X0 d5_39 (q := 40) rfl ?_
  refine k_nameI (v := (4 : Int32)) (by decide) ?_
  refine k_baload K X0 e0 d5_40 A_a0 (i := 4) (v := (.int s_a0_4)) (by decide) (by decide) rfl (q := 41) rfl ?_
  refine k_sipush K X0 d5_41 (v := (255 : Int32)) rfl (q := 44) rfl ?_
  refine k_iand K X0 d5_44 (q := 45) rfl ?_
  refine k_ior K X0 d5_45 (q := 46) rfl ?_
  exact k_reti K X0 e0 d5_46 (Nat.le_trans (by decide) hkc) (Nat.le_trans (by decide) hkn) (hQ _ _ _ ⟨(by show some (Value.int ((((shlI (s_a0_1 &&& (255 : Int32)) (24 : Int32)) ||| (shlI (s_a0_2 &&& (255 : Int32)) (16 : Int32))) ||| (shlI (s_a0_3 &&& (255 : Int32)) (8 : Int32))) ||| (s_a0_4 &&& (255 : Int32)))) = some (Value.int (F_readNumber_6_1 s_a0_0 s_a0_1 s_a0_2 s_a0_3 s_a0_4 s_a0_5)); first | (simp only [F_readNumber_6_1]; done) | (simp only [F_readNumber_6_1])), rfl, rfl⟩)
theorem ef_5_6_2 (a0 : Addr) : ∀ m : MethodId, entryFrame m #[(.ref a0), (.int (2 : Int32))] 2 = mkF m 0 #[.val (.ref a0), .val (.int (2 : Int32))] [] := by intro m; first | (simp [entryFrame, mkF, argsToLocals, Value.category]; done) | rfl
def F_readNumber_6_2 (s_a0_0 : Int32) (s_a0_1 : Int32) (s_a0_2 : Int32) (s_a0_3 : Int32) (s_a0_4 : Int32) (s_a0_5 : Int32) : Int32 :=
  ((((shlI (s_a0_2 &&& (255 : Int32)) (24 : Int32)) ||| (shlI (s_a0_3 &&& (255 : Int32)) (16 : Int32))) ||| (shlI (s_a0_4 &&& (255 : Int32)) (8 : Int32))) ||| (s_a0_5 &&& (255 : Int32)))
set_option maxRecDepth 65536 in
set_option maxHeartbeats 40000000 in
theorem rm5_6_2 (l : Launch) (Z : State) (az : Array Value) (hw : ∀ d ∈ tables_1, d.before az Z = true) (ws : List Jvm.Cond) (a0 : Addr) (s_a0_0 : Int32) (s_a0_1 : Int32) (s_a0_2 : Int32) (s_a0_3 : Int32) (s_a0_4 : Int32) (s_a0_5 : Int32) (h0 : Heap) (A_a0 : Ary Z h0 a0 .byte 6 (fun i => Value.int (List.getD [s_a0_0, s_a0_1, s_a0_2, s_a0_3, s_a0_4, s_a0_5] i 0))) :
    Met l (⟨"com/example/muster/muster/search/SortKeys", "readNumber", "([BI)I"⟩ : MethodName) prog_84_method_8_code 2 (some .int) ws ({ frames := 0, cells := 0, slots := 0, locals := 0 } : Room) Z #[(.ref a0), (.int (2 : Int32))] h0 (fun v h' L => v = some (Value.int (F_readNumber_6_2 s_a0_0 s_a0_1 s_a0_2 s_a0_3 s_a0_4 s_a0_5)) ∧ h' = h0 ∧ L = []) := by
  refine enter (plainFor_of_name pn_1) (ef_5_6_2 a0) ?_
  intro p e s m below meth c T0 kc kn Q hkc hkn hQ K' X0 e0
  have K : Fx p s m meth c prog_84_method_8_code 2 "com/example/muster/muster/search/SortKeys" "readNumber" (some .int) Z := K'
  refine k_aloadN K X0 d5_0 rfl rfl (q := 1) rfl ?_
  refine k_iloadN K X0 d5_1 rfl (q := 2) rfl ?_
  refine k_baload K X0 e0 d5_2 A_a0 (i := 2) (v := (.int s_a0_2)) (by decide) (by decide) rfl (q := 3) rfl ?_
  refine k_sipush K X0 d5_3 (v := (255 : Int32)) rfl (q := 6) rfl ?_
  refine k_iand K X0 d5_6 (q := 7) rfl ?_
  refine k_bipush K X0 d5_7 (v := (24 : Int32)) rfl (q := 9) rfl ?_
  refine k_ishl K X0 d5_9 (q := 10) rfl ?_
  refine k_aloadN K X0 d5_10 rfl rfl (q := 11) rfl ?_
  refine k_iloadN K X0 d5_11 rfl (q := 12) rfl ?_
  refine k_iconst K X0 d5_12 (v := (1 : Int32)) rfl (q := 13) rfl ?_
  refine k_iadd K X0 d5_13 (q := 14) rfl ?_
  refine k_nameI (v := (3 : Int32)) (by decide) ?_
  refine k_baload K X0 e0 d5_14 A_a0 (i := 3) (v := (.int s_a0_3)) (by decide) (by decide) rfl (q := 15) rfl ?_
  refine k_sipush K X0 d5_15 (v := (255 : Int32)) rfl (q := 18) rfl ?_
  refine k_iand K X0 d5_18 (q := 19) rfl ?_
  refine k_bipush K X0 d5_19 (v := (16 : Int32)) rfl (q := 21) rfl ?_
  refine k_ishl K X0 d5_21 (q := 22) rfl ?_
  refine k_ior K X0 d5_22 (q := 23) rfl ?_
  refine k_aloadN K X0 d5_23 rfl rfl (q := 24) rfl ?_
  refine k_iloadN K X0 d5_24 rfl (q := 25) rfl ?_
  refine k_iconst K X0 d5_25 (v := (2 : Int32)) rfl (q := 26) rfl ?_
  refine k_iadd K X0 d5_26 (q := 27) rfl ?_
  refine k_nameI (v := (4 : Int32)) (by decide) ?_
  refine k_baload K X0 e0 d5_27 A_a0 (i := 4) (v := (.int s_a0_4)) (by decide) (by decide) rfl (q := 28) rfl ?_
  refine k_sipush K X0 d5_28 (v := (255 : Int32)) rfl (q := 31) rfl ?_
  refine k_iand K X0 d5_31 (q := 32) rfl ?_
  refine k_bipush K X0 d5_32 (v := (8 : Int32)) rfl (q := 34) rfl ?_
  refine k_ishl K X0 d5_34 (q := 35) rfl ?_
  refine k_ior K X0 d5_35 (q := 36) rfl ?_
  refine k_aloadN K X0 d5_36 rfl rfl (q := 37) rfl ?_
  refine k_iloadN K X0 d5_37 rfl (q := 38) rfl ?_
  refine k_iconst K X0 d5_38 (v := (3 : Int32)) rfl (q := 39) rfl ?_
  refine k_iadd K X0 d5_39 (q := 40) rfl ?_
  refine k_nameI (v := (5 : Int32)) (by decide) ?_
  refine k_baload K X0 e0 d5_40 A_a0 (i := 5) (v := (.int s_a0_5)) (by decide) (by decide) rfl (q := 41) rfl ?_
  refine k_sipush K X0 d5_41 (v := (255 : Int32)) rfl (q := 44) rfl ?_
  refine k_iand K X0 d5_44 (q := 45) rfl ?_
  refine k_ior K X0 d5_45 (q := 46) rfl ?_
  exact k_reti K X0 e0 d5_46 (Nat.le_trans (by decide) hkc) (Nat.le_trans (by decide) hkn) (hQ _ _ _ ⟨(by show some (Value.int ((((shlI (s_a0_2 &&& (255 : Int32)) (24 : Int32)) ||| (shlI (s_a0_3 &&& (255 : Int32)) (16 : Int32))) ||| (shlI (s_a0_4 &&& (255 : Int32)) (8 : Int32))) ||| (s_a0_5 &&& (255 : Int32)))) = some (Value.int (F_readNumber_6_2 s_a0_0 s_a0_1 s_a0_2 s_a0_3 s_a0_4 s_a0_5)); first | (simp only [F_readNumber_6_2]; done) | (simp only [F_readNumber_6_2])), rfl, rfl⟩)
theorem own_eqI {x y : Int32} : x = y ↔ x.toInt = y.toInt := Int32.toInt_inj.symm
theorem own_eqJ {x y : Int64} : x = y ↔ x.toInt = y.toInt := Int64.toInt_inj.symm
theorem own_ltI {x y : Int32} : x < y ↔ x.toInt < y.toInt := Int32.lt_iff_toInt_lt
theorem own_ltJ {x y : Int64} : x < y ↔ x.toInt < y.toInt := Int64.lt_iff_toInt_lt
theorem own_e3 (t : Int32) (h1 : 0 ≤ t.toInt) (h2 : t.toInt ≤ 3) : t = (0 : Int32) ∨ t = (1 : Int32) ∨ t = (2 : Int32) ∨ t = (3 : Int32) := by
  have h : t.toInt = 0 ∨ t.toInt = 1 ∨ t.toInt = 2 ∨ t.toInt = 3 := by omega
  rcases h with h | h | h | h
  · exact Or.inl (Int32.toInt_inj.mp (h.trans (by decide)))
  · exact Or.inr (Or.inl (Int32.toInt_inj.mp (h.trans (by decide))))
  · exact Or.inr (Or.inr (Or.inl (Int32.toInt_inj.mp (h.trans (by decide)))))
  · exact Or.inr (Or.inr (Or.inr (Int32.toInt_inj.mp (h.trans (by decide)))))
theorem own_e2 (t : Int32) (h1 : 0 ≤ t.toInt) (h2 : t.toInt ≤ 2) : t = (0 : Int32) ∨ t = (1 : Int32) ∨ t = (2 : Int32) := by
  have h : t.toInt = 0 ∨ t.toInt = 1 ∨ t.toInt = 2 := by omega
  rcases h with h | h | h
  · exact Or.inl (Int32.toInt_inj.mp (h.trans (by decide)))
  · exact Or.inr (Or.inl (Int32.toInt_inj.mp (h.trans (by decide))))
  · exact Or.inr (Or.inr (Int32.toInt_inj.mp (h.trans (by decide))))
theorem own_sel (p v : Int32) (h0 : ¬ v = 0) (h1 : ¬ v = 1) (h2 : ¬ v = 2) (h3 : ¬ v = 3) : ¬ (p &&& 3 = v) := fun z => by
  subst z
  have a1 := c_and p 3 (by decide)
  have e : (3 : Int32).toInt = 3 := rfl
  rcases own_e3 (p &&& 3) (by omega) (by omega) with h | h | h | h
  · exact h0 h
  · exact h1 h
  · exact h2 h
  · exact h3 h
theorem own_off (a p v : Int32) {x : Int32} (ha : x &&& 1 = a) (h0 : ¬ v = 0) (h1 : ¬ v = 1) (h2 : ¬ v = 2) : ¬ (a + (p &&& 1) = v) := fun z => by
  subst z
  subst ha
  have a1 := c_and p 1 (by decide)
  have a2 := c_and x 1 (by decide)
  have e : (1 : Int32).toInt = 1 := rfl
  have := c_iadd (x &&& 1) (p &&& 1); have := rng32 ((x &&& 1) + (p &&& 1))
  rcases own_e2 ((x &&& 1) + (p &&& 1)) (by omega) (by omega) with h | h | h
  · exact h0 h
  · exact h1 h
  · exact h2 h
theorem pd_3 : parseMethodDescriptor "([B[I)[B" = some ⟨[(.array .byte), (.array .int)], some (.array .byte)⟩ := by decide +kernel
theorem pd_4 : parseMethodDescriptor "([BI)I" = some ⟨[(.array .byte), .int], some .int⟩ := by decide +kernel
theorem ef_0 (p0 : Int32) (p1 : Int32) (p2 : Int32) (p3 : Int32) : ∀ m : MethodId, entryFrame m #[(.int p0), (.int p1), (.int p2), (.int p3)] maxLocals = mkF m 0 #[.val (.int p0), .val (.int p1), .val (.int p2), .val (.int p3), .unset, .unset, .unset, .unset, .unset, .unset, .unset, .unset] [] := by intro m; first | (simp [entryFrame, mkF, argsToLocals, Value.category, maxLocals]; done) | rfl
theorem pn_2 : plainName "com/example/muster/muster/search/SortKeysReadNumberPinLaw" = true := by first | (simp [plainName, overriddenIn]; done) | decide +kernel
def M0_1099 (v665 : Int32) (p0 : Int32) (p1 : Int32) (p3 : Int32) : Int32 :=
  (if v665 = (0 : Int32) then (if (F_readNumber_8_0 (F_withNumbers_0_new0_0 p0 p1) (F_withNumbers_0_new0_1 p0 p1) (F_withNumbers_0_new0_2 p0 p1) (F_withNumbers_0_new0_3 p0 p1) (F_withNumbers_0_new0_4 p0 p1) (F_withNumbers_0_new0_5 p0 p1) (F_withNumbers_0_new0_6 p0 p1) (F_withNumbers_0_new0_7 p0 p1)) = p0 then (if (F_readNumber_8_4 (F_withNumbers_0_new0_0 p0 p1) (F_withNumbers_0_new0_1 p0 p1) (F_withNumbers_0_new0_2 p0 p1) (F_withNumbers_0_new0_3 p0 p1) (F_withNumbers_0_new0_4 p0 p1) (F_withNumbers_0_new0_5 p0 p1) (F_withNumbers_0_new0_6 p0 p1) (F_withNumbers_0_new0_7 p0 p1)) = p1 then (1 : Int32) else (0 : Int32)) else (0 : Int32)) else (if v665 = (1 : Int32) then (if (F_readNumber_9_1 (F_withNumbers_1_new0_0 (nar .byte (i2b (ushrI p3 (8 : Int32)))) p0 p1) (F_withNumbers_1_new0_1 (nar .byte (i2b (ushrI p3 (8 : Int32)))) p0 p1) (F_withNumbers_1_new0_2 (nar .byte (i2b (ushrI p3 (8 : Int32)))) p0 p1) (F_withNumbers_1_new0_3 (nar .byte (i2b (ushrI p3 (8 : Int32)))) p0 p1) (F_withNumbers_1_new0_4 (nar .byte (i2b (ushrI p3 (8 : Int32)))) p0 p1) (F_withNumbers_1_new0_5 (nar .byte (i2b (ushrI p3 (8 : Int32)))) p0 p1) (F_withNumbers_1_new0_6 (nar .byte (i2b (ushrI p3 (8 : Int32)))) p0 p1) (F_withNumbers_1_new0_7 (nar .byte (i2b (ushrI p3 (8 : Int32)))) p0 p1) (F_withNumbers_1_new0_8 (nar .byte (i2b (ushrI p3 (8 : Int32)))) p0 p1)) = p0 then (if (F_readNumber_9_5 (F_withNumbers_1_new0_0 (nar .byte (i2b (ushrI p3 (8 : Int32)))) p0 p1) (F_withNumbers_1_new0_1 (nar .byte (i2b (ushrI p3 (8 : Int32)))) p0 p1) (F_withNumbers_1_new0_2 (nar .byte (i2b (ushrI p3 (8 : Int32)))) p0 p1) (F_withNumbers_1_new0_3 (nar .byte (i2b (ushrI p3 (8 : Int32)))) p0 p1) (F_withNumbers_1_new0_4 (nar .byte (i2b (ushrI p3 (8 : Int32)))) p0 p1) (F_withNumbers_1_new0_5 (nar .byte (i2b (ushrI p3 (8 : Int32)))) p0 p1) (F_withNumbers_1_new0_6 (nar .byte (i2b (ushrI p3 (8 : Int32)))) p0 p1) (F_withNumbers_1_new0_7 (nar .byte (i2b (ushrI p3 (8 : Int32)))) p0 p1) (F_withNumbers_1_new0_8 (nar .byte (i2b (ushrI p3 (8 : Int32)))) p0 p1)) = p1 then (1 : Int32) else (0 : Int32)) else (0 : Int32)) else (if v665 = (2 : Int32) then (if (F_readNumber_10_2 (F_withNumbers_2_new0_0 (nar .byte (i2b (ushrI p3 (8 : Int32)))) (nar .byte (i2b (ushrI p3 (16 : Int32)))) p0 p1) (F_withNumbers_2_new0_1 (nar .byte (i2b (ushrI p3 (8 : Int32)))) (nar .byte (i2b (ushrI p3 (16 : Int32)))) p0 p1) (F_withNumbers_2_new0_2 (nar .byte (i2b (ushrI p3 (8 : Int32)))) (nar .byte (i2b (ushrI p3 (16 : Int32)))) p0 p1) (F_withNumbers_2_new0_3 (nar .byte (i2b (ushrI p3 (8 : Int32)))) (nar .byte (i2b (ushrI p3 (16 : Int32)))) p0 p1) (F_withNumbers_2_new0_4 (nar .byte (i2b (ushrI p3 (8 : Int32)))) (nar .byte (i2b (ushrI p3 (16 : Int32)))) p0 p1) (F_withNumbers_2_new0_5 (nar .byte (i2b (ushrI p3 (8 : Int32)))) (nar .byte (i2b (ushrI p3 (16 : Int32)))) p0 p1) (F_withNumbers_2_new0_6 (nar .byte (i2b (ushrI p3 (8 : Int32)))) (nar .byte (i2b (ushrI p3 (16 : Int32)))) p0 p1) (F_withNumbers_2_new0_7 (nar .byte (i2b (ushrI p3 (8 : Int32)))) (nar .byte (i2b (ushrI p3 (16 : Int32)))) p0 p1) (F_withNumbers_2_new0_8 (nar .byte (i2b (ushrI p3 (8 : Int32)))) (nar .byte (i2b (ushrI p3 (16 : Int32)))) p0 p1) (F_withNumbers_2_new0_9 (nar .byte (i2b (ushrI p3 (8 : Int32)))) (nar .byte (i2b (ushrI p3 (16 : Int32)))) p0 p1)) = p0 then (if (F_readNumber_10_6 (F_withNumbers_2_new0_0 (nar .byte (i2b (ushrI p3 (8 : Int32)))) (nar .byte (i2b (ushrI p3 (16 : Int32)))) p0 p1) (F_withNumbers_2_new0_1 (nar .byte (i2b (ushrI p3 (8 : Int32)))) (nar .byte (i2b (ushrI p3 (16 : Int32)))) p0 p1) (F_withNumbers_2_new0_2 (nar .byte (i2b (ushrI p3 (8 : Int32)))) (nar .byte (i2b (ushrI p3 (16 : Int32)))) p0 p1) (F_withNumbers_2_new0_3 (nar .byte (i2b (ushrI p3 (8 : Int32)))) (nar .byte (i2b (ushrI p3 (16 : Int32)))) p0 p1) (F_withNumbers_2_new0_4 (nar .byte (i2b (ushrI p3 (8 : Int32)))) (nar .byte (i2b (ushrI p3 (16 : Int32)))) p0 p1) (F_withNumbers_2_new0_5 (nar .byte (i2b (ushrI p3 (8 : Int32)))) (nar .byte (i2b (ushrI p3 (16 : Int32)))) p0 p1) (F_withNumbers_2_new0_6 (nar .byte (i2b (ushrI p3 (8 : Int32)))) (nar .byte (i2b (ushrI p3 (16 : Int32)))) p0 p1) (F_withNumbers_2_new0_7 (nar .byte (i2b (ushrI p3 (8 : Int32)))) (nar .byte (i2b (ushrI p3 (16 : Int32)))) p0 p1) (F_withNumbers_2_new0_8 (nar .byte (i2b (ushrI p3 (8 : Int32)))) (nar .byte (i2b (ushrI p3 (16 : Int32)))) p0 p1) (F_withNumbers_2_new0_9 (nar .byte (i2b (ushrI p3 (8 : Int32)))) (nar .byte (i2b (ushrI p3 (16 : Int32)))) p0 p1)) = p1 then (1 : Int32) else (0 : Int32)) else (0 : Int32)) else (if (F_readNumber_11_3 (F_withNumbers_3_new0_0 (nar .byte (i2b (ushrI p3 (8 : Int32)))) (nar .byte (i2b (ushrI p3 (16 : Int32)))) (nar .byte (i2b (ushrI p3 (24 : Int32)))) p0 p1) (F_withNumbers_3_new0_1 (nar .byte (i2b (ushrI p3 (8 : Int32)))) (nar .byte (i2b (ushrI p3 (16 : Int32)))) (nar .byte (i2b (ushrI p3 (24 : Int32)))) p0 p1) (F_withNumbers_3_new0_2 (nar .byte (i2b (ushrI p3 (8 : Int32)))) (nar .byte (i2b (ushrI p3 (16 : Int32)))) (nar .byte (i2b (ushrI p3 (24 : Int32)))) p0 p1) (F_withNumbers_3_new0_3 (nar .byte (i2b (ushrI p3 (8 : Int32)))) (nar .byte (i2b (ushrI p3 (16 : Int32)))) (nar .byte (i2b (ushrI p3 (24 : Int32)))) p0 p1) (F_withNumbers_3_new0_4 (nar .byte (i2b (ushrI p3 (8 : Int32)))) (nar .byte (i2b (ushrI p3 (16 : Int32)))) (nar .byte (i2b (ushrI p3 (24 : Int32)))) p0 p1) (F_withNumbers_3_new0_5 (nar .byte (i2b (ushrI p3 (8 : Int32)))) (nar .byte (i2b (ushrI p3 (16 : Int32)))) (nar .byte (i2b (ushrI p3 (24 : Int32)))) p0 p1) (F_withNumbers_3_new0_6 (nar .byte (i2b (ushrI p3 (8 : Int32)))) (nar .byte (i2b (ushrI p3 (16 : Int32)))) (nar .byte (i2b (ushrI p3 (24 : Int32)))) p0 p1) (F_withNumbers_3_new0_7 (nar .byte (i2b (ushrI p3 (8 : Int32)))) (nar .byte (i2b (ushrI p3 (16 : Int32)))) (nar .byte (i2b (ushrI p3 (24 : Int32)))) p0 p1) (F_withNumbers_3_new0_8 (nar .byte (i2b (ushrI p3 (8 : Int32)))) (nar .byte (i2b (ushrI p3 (16 : Int32)))) (nar .byte (i2b (ushrI p3 (24 : Int32)))) p0 p1) (F_withNumbers_3_new0_9 (nar .byte (i2b (ushrI p3 (8 : Int32)))) (nar .byte (i2b (ushrI p3 (16 : Int32)))) (nar .byte (i2b (ushrI p3 (24 : Int32)))) p0 p1) (F_withNumbers_3_new0_10 (nar .byte (i2b (ushrI p3 (8 : Int32)))) (nar .byte (i2b (ushrI p3 (16 : Int32)))) (nar .byte (i2b (ushrI p3 (24 : Int32)))) p0 p1)) = p0 then (if (F_readNumber_11_7 (F_withNumbers_3_new0_0 (nar .byte (i2b (ushrI p3 (8 : Int32)))) (nar .byte (i2b (ushrI p3 (16 : Int32)))) (nar .byte (i2b (ushrI p3 (24 : Int32)))) p0 p1) (F_withNumbers_3_new0_1 (nar .byte (i2b (ushrI p3 (8 : Int32)))) (nar .byte (i2b (ushrI p3 (16 : Int32)))) (nar .byte (i2b (ushrI p3 (24 : Int32)))) p0 p1) (F_withNumbers_3_new0_2 (nar .byte (i2b (ushrI p3 (8 : Int32)))) (nar .byte (i2b (ushrI p3 (16 : Int32)))) (nar .byte (i2b (ushrI p3 (24 : Int32)))) p0 p1) (F_withNumbers_3_new0_3 (nar .byte (i2b (ushrI p3 (8 : Int32)))) (nar .byte (i2b (ushrI p3 (16 : Int32)))) (nar .byte (i2b (ushrI p3 (24 : Int32)))) p0 p1) (F_withNumbers_3_new0_4 (nar .byte (i2b (ushrI p3 (8 : Int32)))) (nar .byte (i2b (ushrI p3 (16 : Int32)))) (nar .byte (i2b (ushrI p3 (24 : Int32)))) p0 p1) (F_withNumbers_3_new0_5 (nar .byte (i2b (ushrI p3 (8 : Int32)))) (nar .byte (i2b (ushrI p3 (16 : Int32)))) (nar .byte (i2b (ushrI p3 (24 : Int32)))) p0 p1) (F_withNumbers_3_new0_6 (nar .byte (i2b (ushrI p3 (8 : Int32)))) (nar .byte (i2b (ushrI p3 (16 : Int32)))) (nar .byte (i2b (ushrI p3 (24 : Int32)))) p0 p1) (F_withNumbers_3_new0_7 (nar .byte (i2b (ushrI p3 (8 : Int32)))) (nar .byte (i2b (ushrI p3 (16 : Int32)))) (nar .byte (i2b (ushrI p3 (24 : Int32)))) p0 p1) (F_withNumbers_3_new0_8 (nar .byte (i2b (ushrI p3 (8 : Int32)))) (nar .byte (i2b (ushrI p3 (16 : Int32)))) (nar .byte (i2b (ushrI p3 (24 : Int32)))) p0 p1) (F_withNumbers_3_new0_9 (nar .byte (i2b (ushrI p3 (8 : Int32)))) (nar .byte (i2b (ushrI p3 (16 : Int32)))) (nar .byte (i2b (ushrI p3 (24 : Int32)))) p0 p1) (F_withNumbers_3_new0_10 (nar .byte (i2b (ushrI p3 (8 : Int32)))) (nar .byte (i2b (ushrI p3 (16 : Int32)))) (nar .byte (i2b (ushrI p3 (24 : Int32)))) p0 p1)) = p1 then (1 : Int32) else (0 : Int32)) else (0 : Int32)))))
def M0_1245 (p2 : Int32) (d1195 : Int32) (v1127 : Int32) : Int32 :=
  (if (F_readNumber_6_0 (nar .byte (i2b ((p2 / (16777216 : Int32)) - d1195))) (nar .byte (i2b (shrI p2 (16 : Int32)))) (nar .byte (i2b (shrI p2 (8 : Int32)))) (nar .byte (i2b p2)) (nar .byte v1127) (nar .byte v1127)) = p2 then (1 : Int32) else (0 : Int32))
def M0_1389 (v1271 : Int32) (p2 : Int32) (d1339 : Int32) : Int32 :=
  (if (F_readNumber_6_1 (nar .byte v1271) (nar .byte (i2b ((p2 / (16777216 : Int32)) - d1339))) (nar .byte (i2b (shrI p2 (16 : Int32)))) (nar .byte (i2b (shrI p2 (8 : Int32)))) (nar .byte (i2b p2)) (nar .byte v1271)) = p2 then (1 : Int32) else (0 : Int32))
def M0_1533 (v1415 : Int32) (p2 : Int32) (d1483 : Int32) : Int32 :=
  (if (F_readNumber_6_2 (nar .byte v1415) (nar .byte v1415) (nar .byte (i2b ((p2 / (16777216 : Int32)) - d1483))) (nar .byte (i2b (shrI p2 (16 : Int32)))) (nar .byte (i2b (shrI p2 (8 : Int32)))) (nar .byte (i2b p2))) = p2 then (1 : Int32) else (0 : Int32))
def M0_1631 (p0 : Int32) (p1 : Int32) : Int32 :=
  (if (F_readNumber_8_0 (F_withNumbers_0_new0_0 p0 p1) (F_withNumbers_0_new0_1 p0 p1) (F_withNumbers_0_new0_2 p0 p1) (F_withNumbers_0_new0_3 p0 p1) (F_withNumbers_0_new0_4 p0 p1) (F_withNumbers_0_new0_5 p0 p1) (F_withNumbers_0_new0_6 p0 p1) (F_withNumbers_0_new0_7 p0 p1)) = p0 then (if (F_readNumber_8_4 (F_withNumbers_0_new0_0 p0 p1) (F_withNumbers_0_new0_1 p0 p1) (F_withNumbers_0_new0_2 p0 p1) (F_withNumbers_0_new0_3 p0 p1) (F_withNumbers_0_new0_4 p0 p1) (F_withNumbers_0_new0_5 p0 p1) (F_withNumbers_0_new0_6 p0 p1) (F_withNumbers_0_new0_7 p0 p1)) = p1 then (1 : Int32) else (0 : Int32)) else (0 : Int32))
def M0_1742 (p3 : Int32) (p0 : Int32) (p1 : Int32) : Int32 :=
  (if (F_readNumber_9_1 (F_withNumbers_1_new0_0 (nar .byte (i2b (ushrI p3 (8 : Int32)))) p0 p1) (F_withNumbers_1_new0_1 (nar .byte (i2b (ushrI p3 (8 : Int32)))) p0 p1) (F_withNumbers_1_new0_2 (nar .byte (i2b (ushrI p3 (8 : Int32)))) p0 p1) (F_withNumbers_1_new0_3 (nar .byte (i2b (ushrI p3 (8 : Int32)))) p0 p1) (F_withNumbers_1_new0_4 (nar .byte (i2b (ushrI p3 (8 : Int32)))) p0 p1) (F_withNumbers_1_new0_5 (nar .byte (i2b (ushrI p3 (8 : Int32)))) p0 p1) (F_withNumbers_1_new0_6 (nar .byte (i2b (ushrI p3 (8 : Int32)))) p0 p1) (F_withNumbers_1_new0_7 (nar .byte (i2b (ushrI p3 (8 : Int32)))) p0 p1) (F_withNumbers_1_new0_8 (nar .byte (i2b (ushrI p3 (8 : Int32)))) p0 p1)) = p0 then (if (F_readNumber_9_5 (F_withNumbers_1_new0_0 (nar .byte (i2b (ushrI p3 (8 : Int32)))) p0 p1) (F_withNumbers_1_new0_1 (nar .byte (i2b (ushrI p3 (8 : Int32)))) p0 p1) (F_withNumbers_1_new0_2 (nar .byte (i2b (ushrI p3 (8 : Int32)))) p0 p1) (F_withNumbers_1_new0_3 (nar .byte (i2b (ushrI p3 (8 : Int32)))) p0 p1) (F_withNumbers_1_new0_4 (nar .byte (i2b (ushrI p3 (8 : Int32)))) p0 p1) (F_withNumbers_1_new0_5 (nar .byte (i2b (ushrI p3 (8 : Int32)))) p0 p1) (F_withNumbers_1_new0_6 (nar .byte (i2b (ushrI p3 (8 : Int32)))) p0 p1) (F_withNumbers_1_new0_7 (nar .byte (i2b (ushrI p3 (8 : Int32)))) p0 p1) (F_withNumbers_1_new0_8 (nar .byte (i2b (ushrI p3 (8 : Int32)))) p0 p1)) = p1 then (1 : Int32) else (0 : Int32)) else (0 : Int32))
def M0_1864 (p3 : Int32) (p0 : Int32) (p1 : Int32) : Int32 :=
  (if (F_readNumber_10_2 (F_withNumbers_2_new0_0 (nar .byte (i2b (ushrI p3 (8 : Int32)))) (nar .byte (i2b (ushrI p3 (16 : Int32)))) p0 p1) (F_withNumbers_2_new0_1 (nar .byte (i2b (ushrI p3 (8 : Int32)))) (nar .byte (i2b (ushrI p3 (16 : Int32)))) p0 p1) (F_withNumbers_2_new0_2 (nar .byte (i2b (ushrI p3 (8 : Int32)))) (nar .byte (i2b (ushrI p3 (16 : Int32)))) p0 p1) (F_withNumbers_2_new0_3 (nar .byte (i2b (ushrI p3 (8 : Int32)))) (nar .byte (i2b (ushrI p3 (16 : Int32)))) p0 p1) (F_withNumbers_2_new0_4 (nar .byte (i2b (ushrI p3 (8 : Int32)))) (nar .byte (i2b (ushrI p3 (16 : Int32)))) p0 p1) (F_withNumbers_2_new0_5 (nar .byte (i2b (ushrI p3 (8 : Int32)))) (nar .byte (i2b (ushrI p3 (16 : Int32)))) p0 p1) (F_withNumbers_2_new0_6 (nar .byte (i2b (ushrI p3 (8 : Int32)))) (nar .byte (i2b (ushrI p3 (16 : Int32)))) p0 p1) (F_withNumbers_2_new0_7 (nar .byte (i2b (ushrI p3 (8 : Int32)))) (nar .byte (i2b (ushrI p3 (16 : Int32)))) p0 p1) (F_withNumbers_2_new0_8 (nar .byte (i2b (ushrI p3 (8 : Int32)))) (nar .byte (i2b (ushrI p3 (16 : Int32)))) p0 p1) (F_withNumbers_2_new0_9 (nar .byte (i2b (ushrI p3 (8 : Int32)))) (nar .byte (i2b (ushrI p3 (16 : Int32)))) p0 p1)) = p0 then (if (F_readNumber_10_6 (F_withNumbers_2_new0_0 (nar .byte (i2b (ushrI p3 (8 : Int32)))) (nar .byte (i2b (ushrI p3 (16 : Int32)))) p0 p1) (F_withNumbers_2_new0_1 (nar .byte (i2b (ushrI p3 (8 : Int32)))) (nar .byte (i2b (ushrI p3 (16 : Int32)))) p0 p1) (F_withNumbers_2_new0_2 (nar .byte (i2b (ushrI p3 (8 : Int32)))) (nar .byte (i2b (ushrI p3 (16 : Int32)))) p0 p1) (F_withNumbers_2_new0_3 (nar .byte (i2b (ushrI p3 (8 : Int32)))) (nar .byte (i2b (ushrI p3 (16 : Int32)))) p0 p1) (F_withNumbers_2_new0_4 (nar .byte (i2b (ushrI p3 (8 : Int32)))) (nar .byte (i2b (ushrI p3 (16 : Int32)))) p0 p1) (F_withNumbers_2_new0_5 (nar .byte (i2b (ushrI p3 (8 : Int32)))) (nar .byte (i2b (ushrI p3 (16 : Int32)))) p0 p1) (F_withNumbers_2_new0_6 (nar .byte (i2b (ushrI p3 (8 : Int32)))) (nar .byte (i2b (ushrI p3 (16 : Int32)))) p0 p1) (F_withNumbers_2_new0_7 (nar .byte (i2b (ushrI p3 (8 : Int32)))) (nar .byte (i2b (ushrI p3 (16 : Int32)))) p0 p1) (F_withNumbers_2_new0_8 (nar .byte (i2b (ushrI p3 (8 : Int32)))) (nar .byte (i2b (ushrI p3 (16 : Int32)))) p0 p1) (F_withNumbers_2_new0_9 (nar .byte (i2b (ushrI p3 (8 : Int32)))) (nar .byte (i2b (ushrI p3 (16 : Int32)))) p0 p1)) = p1 then (1 : Int32) else (0 : Int32)) else (0 : Int32))
def M0_1997 (p3 : Int32) (p0 : Int32) (p1 : Int32) : Int32 :=
  (if (F_readNumber_11_3 (F_withNumbers_3_new0_0 (nar .byte (i2b (ushrI p3 (8 : Int32)))) (nar .byte (i2b (ushrI p3 (16 : Int32)))) (nar .byte (i2b (ushrI p3 (24 : Int32)))) p0 p1) (F_withNumbers_3_new0_1 (nar .byte (i2b (ushrI p3 (8 : Int32)))) (nar .byte (i2b (ushrI p3 (16 : Int32)))) (nar .byte (i2b (ushrI p3 (24 : Int32)))) p0 p1) (F_withNumbers_3_new0_2 (nar .byte (i2b (ushrI p3 (8 : Int32)))) (nar .byte (i2b (ushrI p3 (16 : Int32)))) (nar .byte (i2b (ushrI p3 (24 : Int32)))) p0 p1) (F_withNumbers_3_new0_3 (nar .byte (i2b (ushrI p3 (8 : Int32)))) (nar .byte (i2b (ushrI p3 (16 : Int32)))) (nar .byte (i2b (ushrI p3 (24 : Int32)))) p0 p1) (F_withNumbers_3_new0_4 (nar .byte (i2b (ushrI p3 (8 : Int32)))) (nar .byte (i2b (ushrI p3 (16 : Int32)))) (nar .byte (i2b (ushrI p3 (24 : Int32)))) p0 p1) (F_withNumbers_3_new0_5 (nar .byte (i2b (ushrI p3 (8 : Int32)))) (nar .byte (i2b (ushrI p3 (16 : Int32)))) (nar .byte (i2b (ushrI p3 (24 : Int32)))) p0 p1) (F_withNumbers_3_new0_6 (nar .byte (i2b (ushrI p3 (8 : Int32)))) (nar .byte (i2b (ushrI p3 (16 : Int32)))) (nar .byte (i2b (ushrI p3 (24 : Int32)))) p0 p1) (F_withNumbers_3_new0_7 (nar .byte (i2b (ushrI p3 (8 : Int32)))) (nar .byte (i2b (ushrI p3 (16 : Int32)))) (nar .byte (i2b (ushrI p3 (24 : Int32)))) p0 p1) (F_withNumbers_3_new0_8 (nar .byte (i2b (ushrI p3 (8 : Int32)))) (nar .byte (i2b (ushrI p3 (16 : Int32)))) (nar .byte (i2b (ushrI p3 (24 : Int32)))) p0 p1) (F_withNumbers_3_new0_9 (nar .byte (i2b (ushrI p3 (8 : Int32)))) (nar .byte (i2b (ushrI p3 (16 : Int32)))) (nar .byte (i2b (ushrI p3 (24 : Int32)))) p0 p1) (F_withNumbers_3_new0_10 (nar .byte (i2b (ushrI p3 (8 : Int32)))) (nar .byte (i2b (ushrI p3 (16 : Int32)))) (nar .byte (i2b (ushrI p3 (24 : Int32)))) p0 p1)) = p0 then (if (F_readNumber_11_7 (F_withNumbers_3_new0_0 (nar .byte (i2b (ushrI p3 (8 : Int32)))) (nar .byte (i2b (ushrI p3 (16 : Int32)))) (nar .byte (i2b (ushrI p3 (24 : Int32)))) p0 p1) (F_withNumbers_3_new0_1 (nar .byte (i2b (ushrI p3 (8 : Int32)))) (nar .byte (i2b (ushrI p3 (16 : Int32)))) (nar .byte (i2b (ushrI p3 (24 : Int32)))) p0 p1) (F_withNumbers_3_new0_2 (nar .byte (i2b (ushrI p3 (8 : Int32)))) (nar .byte (i2b (ushrI p3 (16 : Int32)))) (nar .byte (i2b (ushrI p3 (24 : Int32)))) p0 p1) (F_withNumbers_3_new0_3 (nar .byte (i2b (ushrI p3 (8 : Int32)))) (nar .byte (i2b (ushrI p3 (16 : Int32)))) (nar .byte (i2b (ushrI p3 (24 : Int32)))) p0 p1) (F_withNumbers_3_new0_4 (nar .byte (i2b (ushrI p3 (8 : Int32)))) (nar .byte (i2b (ushrI p3 (16 : Int32)))) (nar .byte (i2b (ushrI p3 (24 : Int32)))) p0 p1) (F_withNumbers_3_new0_5 (nar .byte (i2b (ushrI p3 (8 : Int32)))) (nar .byte (i2b (ushrI p3 (16 : Int32)))) (nar .byte (i2b (ushrI p3 (24 : Int32)))) p0 p1) (F_withNumbers_3_new0_6 (nar .byte (i2b (ushrI p3 (8 : Int32)))) (nar .byte (i2b (ushrI p3 (16 : Int32)))) (nar .byte (i2b (ushrI p3 (24 : Int32)))) p0 p1) (F_withNumbers_3_new0_7 (nar .byte (i2b (ushrI p3 (8 : Int32)))) (nar .byte (i2b (ushrI p3 (16 : Int32)))) (nar .byte (i2b (ushrI p3 (24 : Int32)))) p0 p1) (F_withNumbers_3_new0_8 (nar .byte (i2b (ushrI p3 (8 : Int32)))) (nar .byte (i2b (ushrI p3 (16 : Int32)))) (nar .byte (i2b (ushrI p3 (24 : Int32)))) p0 p1) (F_withNumbers_3_new0_9 (nar .byte (i2b (ushrI p3 (8 : Int32)))) (nar .byte (i2b (ushrI p3 (16 : Int32)))) (nar .byte (i2b (ushrI p3 (24 : Int32)))) p0 p1) (F_withNumbers_3_new0_10 (nar .byte (i2b (ushrI p3 (8 : Int32)))) (nar .byte (i2b (ushrI p3 (16 : Int32)))) (nar .byte (i2b (ushrI p3 (24 : Int32)))) p0 p1)) = p1 then (1 : Int32) else (0 : Int32)) else (0 : Int32))
def F_law (p0 : Int32) (p1 : Int32) (p2 : Int32) (p3 : Int32) : Int32 :=
  let v665 : Int32 := (p3 &&& (3 : Int32))
  let d1100 : Int32 := (M0_1099 v665 p0 p1 p3)
  let v1110 : Int32 := ((ushrI p3 (2 : Int32)) &&& (1 : Int32))
  let v1111 : Int32 := (v1110 + ((ushrI p3 (3 : Int32)) &&& (1 : Int32)))
  if v1111 = (0 : Int32) then
    let v1127 : Int32 := (i2b (ushrI p3 (4 : Int32)))
    let d1195 : Int32 := (if (p2 % (16777216 : Int32)) < (0 : Int32) then (1 : Int32) else (0 : Int32))
    let d1246 : Int32 := (M0_1245 p2 d1195 v1127)
    let d1250 : Int32 := (if d1100 = (0 : Int32) then (0 : Int32) else (if d1246 = (0 : Int32) then (0 : Int32) else (1 : Int32)))
    (nar .boolean d1250)
  else
    if v1111 = (1 : Int32) then
      let v1271 : Int32 := (i2b (ushrI p3 (4 : Int32)))
      let d1339 : Int32 := (if (p2 % (16777216 : Int32)) < (0 : Int32) then (1 : Int32) else (0 : Int32))
      let d1390 : Int32 := (M0_1389 v1271 p2 d1339)
      let d1394 : Int32 := (if d1100 = (0 : Int32) then (0 : Int32) else (if d1390 = (0 : Int32) then (0 : Int32) else (1 : Int32)))
      (nar .boolean d1394)
    else
      if v1111 = (2 : Int32) then
        let v1415 : Int32 := (i2b (ushrI p3 (4 : Int32)))
        let d1483 : Int32 := (if (p2 % (16777216 : Int32)) < (0 : Int32) then (1 : Int32) else (0 : Int32))
        let d1534 : Int32 := (M0_1533 v1415 p2 d1483)
        let d1538 : Int32 := (if d1100 = (0 : Int32) then (0 : Int32) else (if d1534 = (0 : Int32) then (0 : Int32) else (1 : Int32)))
        (nar .boolean d1538)
      else
        (1 : Int32)
set_option maxRecDepth 65536 in
set_option maxHeartbeats 40000000 in
theorem rm0 (l : Launch) (Z : State) (az : Array Value) (hw : ∀ d ∈ tables_1, d.before az Z = true) (ws : List Jvm.Cond) (p0 : Int32) (p1 : Int32) (p2 : Int32) (p3 : Int32) (h0 : Heap) (n0 : Nat) (Z0 : n0 ≤ h0.size) :
    Met l x code maxLocals ret ws room_1 Z #[(.int p0), (.int p1), (.int p2), (.int p3)] h0 (fun v h' L => v = some (Value.int (F_law p0 p1 p2 p3)) ∧ Fr n0 L) := by
  refine enter (plainFor_of_name pn_2) (ef_0 p0 p1 p2 p3) ?_
  intro p e s m below meth c T0 kc kn Q hkc hkn hQ K' X0 e0
  have K : Fx p s m meth c code 12 "com/example/muster/muster/search/SortKeysReadNumberPinLaw" "law" (some .boolean) Z := K'
  have N0 := Fr.nil n0
  have K0 : Keep h0 h0 [] := Keep.refl _ _
  refine k_iloadN K X0 at_0 rfl (q := 1) rfl ?_
  refine k_iconst K X0 at_1 (v := (3 : Int32)) rfl (q := 2) rfl ?_
  refine k_iand K X0 at_2 (q := 3) rfl ?_
  obtain ⟨v665, hv_v665⟩ : ∃ z : Int32, (p3 &&& (3 : Int32)) = z := ⟨_, rfl⟩
  refine k_istore K X0 at_3 hv_v665 (Ls' := #[.val (.int p0), .val (.int p1), .val (.int p2), .val (.int p3), .val (.int v665), .unset, .unset, .unset, .unset, .unset, .unset, .unset]) rfl (q := 5) rfl ?_
  have J1101 : ∀ (T1102 : State) (h1105 : Heap) (Lc1109 : List Loc) (d1100 : Int32) (s1096 : Slot) (s1097 : Slot) (s1098 : Slot), Stand p l e room_1 s m #[(.int p0), (.int p1), (.int p2), (.int p3)] below meth c T1102 Lc1109 3 16 → Fr n0 Lc1109 → T1102.heap = h1105 → Keep h0 h1105 [] → n0 ≤ h1105.size → (s1096 = .unset ∨ ∃ w : Value, s1096 = .val w ∧ w.category = 1) → (s1097 = .unset ∨ ∃ w : Value, s1097 = .val w ∧ w.category = 1) → (s1098 = .unset ∨ ∃ w : Value, s1098 = .val w ∧ w.category = 1) → (M0_1099 v665 p0 p1 p3) = d1100 → Run p e below s kc kn Q T1102 (mkF m 117 #[.val (.int p0), .val (.int p1), .val (.int p2), .val (.int p3), s1096, s1097, s1098, .val (.int d1100), .unset, .unset, .unset, .unset] []) := by
    intro T1102 h1105 Lc1109 d1100 s1096 s1097 s1098 X1103 N1106 e1104 K1107 Z1108 hsl_s1096 hsl_s1097 hsl_s1098 hv_d1100
    refine k_iloadN K X1103 at_117 rfl (q := 118) rfl ?_
    refine k_iconst K X1103 at_118 (v := (2 : Int32)) rfl (q := 119) rfl ?_
    refine k_iushr K X1103 at_119 (q := 120) rfl ?_
    refine k_iconst K X1103 at_120 (v := (1 : Int32)) rfl (q := 121) rfl ?_
    refine k_iand K X1103 at_121 (q := 122) rfl ?_
    obtain ⟨v1110, hv_v1110⟩ : ∃ z : Int32, ((ushrI p3 (2 : Int32)) &&& (1 : Int32)) = z := ⟨_, rfl⟩
    refine k_istore K X1103 at_122 hv_v1110 (Ls' := #[.val (.int p0), .val (.int p1), .val (.int p2), .val (.int p3), s1096, s1097, s1098, .val (.int d1100), .val (.int v1110), .unset, .unset, .unset]) rfl (q := 124) rfl ?_
    refine k_iload K X1103 at_124 rfl (q := 126) rfl ?_
    refine k_iloadN K X1103 at_126 rfl (q := 127) rfl ?_
    refine k_iconst K X1103 at_127 (v := (3 : Int32)) rfl (q := 128) rfl ?_
    refine k_iushr K X1103 at_128 (q := 129) rfl ?_
    refine k_iconst K X1103 at_129 (v := (1 : Int32)) rfl (q := 130) rfl ?_
    refine k_iand K X1103 at_130 (q := 131) rfl ?_
    refine k_iadd K X1103 at_131 (q := 132) rfl ?_
    obtain ⟨v1111, hv_v1111⟩ : ∃ z : Int32, (v1110 + ((ushrI p3 (3 : Int32)) &&& (1 : Int32))) = z := ⟨_, rfl⟩
    refine k_istore K X1103 at_132 hv_v1111 (Ls' := #[.val (.int p0), .val (.int p1), .val (.int p2), .val (.int p3), s1096, s1097, s1098, .val (.int d1100), .val (.int v1111), .unset, .unset, .unset]) rfl (q := 134) rfl ?_
    by_cases hs1112 : v1111 = (0 : Int32)
    · subst hs1112
      refine k_bipush K X1103 at_134 (v := (6 : Int32)) rfl (q := 136) rfl ?_
      refine k_newarrayE K X1103 e1104 at_136 (ty := .byte) rfl (ad := "[B") (by decide) (wd hw 0 rfl) (n := 6) (cap := 6) (by decide) (by decide) (by decide) (by decide) (by decide) (q := 138) rfl ?_
      intro T1113 h1114 b1115 X1116 e1117 g1118 E1119 A1120 E1121
      have ge1122 : n0 ≤ b1115 := Nat.le_trans Z1108 (Nat.le_of_eq g1118.symm)
      have bn1123 : h0.size ≤ b1115 := Nat.le_trans K1107.1 (Nat.le_of_eq g1118.symm)
      have K1124 := Keep.ext K1107 E1119
      have Z1125 := Nat.le_trans Z1108 E1119.1
      have f1126 : Ary Z h1114 b1115 .byte 6 (fun i => Value.int (List.getD [(0 : Int32), (0 : Int32), (0 : Int32), (0 : Int32), (0 : Int32), (0 : Int32)] i 0)) := Ary.eqv A1120 (by intro i hi; match i, hi with | 0, _ => rfl | 1, _ => rfl | 2, _ => rfl | 3, _ => rfl | 4, _ => rfl | 5, _ => rfl | (k + 6), hi => exact absurd hi (by omega))
      refine k_astore K X1116 at_138 rfl (Ls' := #[.val (.int p0), .val (.int p1), .val (.int p2), .val (.int p3), s1096, s1097, s1098, .val (.int d1100), .val (.int (0 : Int32)), .val (.ref b1115), .unset, .unset]) rfl (q := 140) rfl ?_
      refine k_iloadN K X1116 at_140 rfl (q := 141) rfl ?_
      refine k_iconst K X1116 at_141 (v := (4 : Int32)) rfl (q := 142) rfl ?_
      refine k_iushr K X1116 at_142 (q := 143) rfl ?_
      refine k_i2b K X1116 at_143 (q := 144) rfl ?_
      obtain ⟨v1127, hv_v1127⟩ : ∃ z : Int32, (i2b (ushrI p3 (4 : Int32))) = z := ⟨_, rfl⟩
      refine k_istore K X1116 at_144 hv_v1127 (Ls' := #[.val (.int p0), .val (.int p1), .val (.int p2), .val (.int p3), s1096, s1097, s1098, .val (.int d1100), .val (.int (0 : Int32)), .val (.ref b1115), .val (.int v1127), .unset]) rfl (q := 146) rfl ?_
      refine k_aload K X1116 at_146 rfl rfl (q := 148) rfl ?_
      refine k_iconst K X1116 at_148 (v := (0 : Int32)) rfl (q := 149) rfl ?_
      refine k_iload K X1116 at_149 rfl (q := 151) rfl ?_
      refine k_bastore K X1116 e1117 at_151 f1126 (i := 0) (by decide) (by decide) (q := 152) rfl ?_
      intro T1128 h1129 X1130 e1131 W1132 A1133
      have f1134 : Ary Z h1129 b1115 .byte 6 (fun i => Value.int (List.getD [(nar .byte v1127), (0 : Int32), (0 : Int32), (0 : Int32), (0 : Int32), (0 : Int32)] i 0)) := Ary.eqv A1133 (fun i _ => setD Value.int [(0 : Int32), (0 : Int32), (0 : Int32), (0 : Int32), (0 : Int32), (0 : Int32)] 0 (nar .byte v1127) 0 (Nat.le_of_ble_eq_true rfl) i)
      have f1135 := Exa.wr W1132 E1121
      have N1136 := Fr.snoc X1130 N1106 ge1122
      have K1137 := Keep.wr K1124 W1132 (Or.inr bn1123)
      have Z1138 := Nat.le_trans Z1125 (Nat.le_of_eq (Wr.size W1132).symm)
      refine k_aload K X1130 at_152 rfl rfl (q := 154) rfl ?_
      refine k_iconst K X1130 at_154 (v := (1 : Int32)) rfl (q := 155) rfl ?_
      refine k_iload K X1130 at_155 rfl (q := 157) rfl ?_
      refine k_bastore K X1130 e1131 at_157 f1134 (i := 1) (by decide) (by decide) (q := 158) rfl ?_
      intro T1139 h1140 X1141 e1142 W1143 A1144
      have f1145 : Ary Z h1140 b1115 .byte 6 (fun i => Value.int (List.getD [(nar .byte v1127), (nar .byte v1127), (0 : Int32), (0 : Int32), (0 : Int32), (0 : Int32)] i 0)) := Ary.eqv A1144 (fun i _ => setD Value.int [(nar .byte v1127), (0 : Int32), (0 : Int32), (0 : Int32), (0 : Int32), (0 : Int32)] 1 (nar .byte v1127) 0 (Nat.le_of_ble_eq_true rfl) i)
      have f1146 := Exa.wr W1143 f1135
      have N1147 := Fr.snoc X1141 N1136 ge1122
      have K1148 := Keep.wr K1137 W1143 (Or.inr bn1123)
      have Z1149 := Nat.le_trans Z1138 (Nat.le_of_eq (Wr.size W1143).symm)
      refine k_aload K X1141 at_158 rfl rfl (q := 160) rfl ?_
      refine k_iconst K X1141 at_160 (v := (2 : Int32)) rfl (q := 161) rfl ?_
      refine k_iload K X1141 at_161 rfl (q := 163) rfl ?_
      refine k_bastore K X1141 e1142 at_163 f1145 (i := 2) (by decide) (by decide) (q := 164) rfl ?_
      intro T1150 h1151 X1152 e1153 W1154 A1155
      have f1156 : Ary Z h1151 b1115 .byte 6 (fun i => Value.int (List.getD [(nar .byte v1127), (nar .byte v1127), (nar .byte v1127), (0 : Int32), (0 : Int32), (0 : Int32)] i 0)) := Ary.eqv A1155 (fun i _ => setD Value.int [(nar .byte v1127), (nar .byte v1127), (0 : Int32), (0 : Int32), (0 : Int32), (0 : Int32)] 2 (nar .byte v1127) 0 (Nat.le_of_ble_eq_true rfl) i)
      have f1157 := Exa.wr W1154 f1146
      have N1158 := Fr.snoc X1152 N1147 ge1122
      have K1159 := Keep.wr K1148 W1154 (Or.inr bn1123)
      have Z1160 := Nat.le_trans Z1149 (Nat.le_of_eq (Wr.size W1154).symm)
      refine k_aload K X1152 at_164 rfl rfl (q := 166) rfl ?_
      refine k_iconst K X1152 at_166 (v := (3 : Int32)) rfl (q := 167) rfl ?_
      refine k_iload K X1152 at_167 rfl (q := 169) rfl ?_
      refine k_bastore K X1152 e1153 at_169 f1156 (i := 3) (by decide) (by decide) (q := 170) rfl ?_
      intro T1161 h1162 X1163 e1164 W1165 A1166
      have f1167 : Ary Z h1162 b1115 .byte 6 (fun i => Value.int (List.getD [(nar .byte v1127), (nar .byte v1127), (nar .byte v1127), (nar .byte v1127), (0 : Int32), (0 : Int32)] i 0)) := Ary.eqv A1166 (fun i _ => setD Value.int [(nar .byte v1127), (nar .byte v1127), (nar .byte v1127), (0 : Int32), (0 : Int32), (0 : Int32)] 3 (nar .byte v1127) 0 (Nat.le_of_ble_eq_true rfl) i)
      have f1168 := Exa.wr W1165 f1157
      have N1169 := Fr.snoc X1163 N1158 ge1122
      have K1170 := Keep.wr K1159 W1165 (Or.inr bn1123)
      have Z1171 := Nat.le_trans Z1160 (Nat.le_of_eq (Wr.size W1165).symm)
      refine k_aload K X1163 at_170 rfl rfl (q := 172) rfl ?_
      refine k_iconst K X1163 at_172 (v := (4 : Int32)) rfl (q := 173) rfl ?_
      refine k_iload K X1163 at_173 rfl (q := 175) rfl ?_
      refine k_bastore K X1163 e1164 at_175 f1167 (i := 4) (by decide) (by decide) (q := 176) rfl ?_
      intro T1172 h1173 X1174 e1175 W1176 A1177
      have f1178 : Ary Z h1173 b1115 .byte 6 (fun i => Value.int (List.getD [(nar .byte v1127), (nar .byte v1127), (nar .byte v1127), (nar .byte v1127), (nar .byte v1127), (0 : Int32)] i 0)) := Ary.eqv A1177 (fun i _ => setD Value.int [(nar .byte v1127), (nar .byte v1127), (nar .byte v1127), (nar .byte v1127), (0 : Int32), (0 : Int32)] 4 (nar .byte v1127) 0 (Nat.le_of_ble_eq_true rfl) i)
      have f1179 := Exa.wr W1176 f1168
      have N1180 := Fr.snoc X1174 N1169 ge1122
      have K1181 := Keep.wr K1170 W1176 (Or.inr bn1123)
      have Z1182 := Nat.le_trans Z1171 (Nat.le_of_eq (Wr.size W1176).symm)
      refine k_aload K X1174 at_176 rfl rfl (q := 178) rfl ?_
      refine k_iconst K X1174 at_178 (v := (5 : Int32)) rfl (q := 179) rfl ?_
      refine k_iload K X1174 at_179 rfl (q := 181) rfl ?_
      refine k_bastore K X1174 e1175 at_181 f1178 (i := 5) (by decide) (by decide) (q := 182) rfl ?_
      intro T1183 h1184 X1185 e1186 W1187 A1188
      have f1189 : Ary Z h1184 b1115 .byte 6 (fun i => Value.int (List.getD [(nar .byte v1127), (nar .byte v1127), (nar .byte v1127), (nar .byte v1127), (nar .byte v1127), (nar .byte v1127)] i 0)) := Ary.eqv A1188 (fun i _ => setD Value.int [(nar .byte v1127), (nar .byte v1127), (nar .byte v1127), (nar .byte v1127), (nar .byte v1127), (0 : Int32)] 5 (nar .byte v1127) 0 (Nat.le_of_ble_eq_true rfl) i)
      have f1190 := Exa.wr W1187 f1179
      have N1191 := Fr.snoc X1185 N1180 ge1122
      have K1192 := Keep.wr K1181 W1187 (Or.inr bn1123)
      have Z1193 := Nat.le_trans Z1182 (Nat.le_of_eq (Wr.size W1187).symm)
      refine k_aload K X1185 at_182 rfl rfl (q := 184) rfl ?_
      refine k_iload K X1185 at_184 rfl (q := 186) rfl ?_
      refine k_iloadN K X1185 at_186 rfl (q := 187) rfl ?_
      refine k_ldc K X1185 at_187 (wd hw 24 rfl) (q := 189) rfl ?_
      refine k_idiv K X1185 at_189 (by decide) (q := 190) rfl ?_
      refine k_iloadN K X1185 at_190 rfl (q := 191) rfl ?_
      refine k_ldc K X1185 at_191 (wd hw 24 rfl) (q := 193) rfl ?_
      refine k_irem K X1185 at_193 (by decide) (q := 194) rfl ?_
      have J1196 : ∀ (d1195 : Int32), (if (p2 % (16777216 : Int32)) < (0 : Int32) then (1 : Int32) else (0 : Int32)) = d1195 → Run p e below s kc kn Q T1183 (mkF m 202 #[.val (.int p0), .val (.int p1), .val (.int p2), .val (.int p3), s1096, s1097, s1098, .val (.int d1100), .val (.int (0 : Int32)), .val (.ref b1115), .val (.int v1127), .unset] [(.int d1195), (.int (p2 / (16777216 : Int32))), (.int (0 : Int32)), (.ref b1115)]) := by
        intro d1195 hv_d1195
        refine k_isub K X1185 at_202 (q := 203) rfl ?_
        refine k_i2b K X1185 at_203 (q := 204) rfl ?_
        refine k_bastore K X1185 e1186 at_204 f1189 (i := 0) (by decide) (by decide) (q := 205) rfl ?_
        intro T1197 h1198 X1199 e1200 W1201 A1202
        have f1203 : Ary Z h1198 b1115 .byte 6 (fun i => Value.int (List.getD [(nar .byte (i2b ((p2 / (16777216 : Int32)) - d1195))), (nar .byte v1127), (nar .byte v1127), (nar .byte v1127), (nar .byte v1127), (nar .byte v1127)] i 0)) := Ary.eqv A1202 (fun i _ => setD Value.int [(nar .byte v1127), (nar .byte v1127), (nar .byte v1127), (nar .byte v1127), (nar .byte v1127), (nar .byte v1127)] 0 (nar .byte (i2b ((p2 / (16777216 : Int32)) - d1195))) 0 (Nat.le_of_ble_eq_true rfl) i)
        have f1204 := Exa.wr W1201 f1190
        have N1205 := Fr.snoc X1199 N1191 ge1122
        have K1206 := Keep.wr K1192 W1201 (Or.inr bn1123)
        have Z1207 := Nat.le_trans Z1193 (Nat.le_of_eq (Wr.size W1201).symm)
        refine k_aload K X1199 at_205 rfl rfl (q := 207) rfl ?_
        refine k_iload K X1199 at_207 rfl (q := 209) rfl ?_
        refine k_iconst K X1199 at_209 (v := (1 : Int32)) rfl (q := 210) rfl ?_
        refine k_iadd K X1199 at_210 (q := 211) rfl ?_
        refine k_nameI (v := (1 : Int32)) (by decide) ?_
        refine k_iloadN K X1199 at_211 rfl (q := 212) rfl ?_
        refine k_bipush K X1199 at_212 (v := (16 : Int32)) rfl (q := 214) rfl ?_
        refine k_ishr K X1199 at_214 (q := 215) rfl ?_
        refine k_i2b K X1199 at_215 (q := 216) rfl ?_
        refine k_bastore K X1199 e1200 at_216 f1203 (i := 1) (by decide) (by decide) (q := 217) rfl ?_
        intro T1208 h1209 X1210 e1211 W1212 A1213
        have f1214 : Ary Z h1209 b1115 .byte 6 (fun i => Value.int (List.getD [(nar .byte (i2b ((p2 / (16777216 : Int32)) - d1195))), (nar .byte (i2b (shrI p2 (16 : Int32)))), (nar .byte v1127), (nar .byte v1127), (nar .byte v1127), (nar .byte v1127)] i 0)) := Ary.eqv A1213 (fun i _ => setD Value.int [(nar .byte (i2b ((p2 / (16777216 : Int32)) - d1195))), (nar .byte v1127), (nar .byte v1127), (nar .byte v1127), (nar .byte v1127), (nar .byte v1127)] 1 (nar .byte (i2b (shrI p2 (16 : Int32)))) 0 (Nat.le_of_ble_eq_true rfl) i)
        have f1215 := Exa.wr W1212 f1204
        have N1216 := Fr.snoc X1210 N1205 ge1122
        have K1217 := Keep.wr K1206 W1212 (Or.inr bn1123)
        have Z1218 := Nat.le_trans Z1207 (Nat.le_of_eq (Wr.size W1212).symm)
        refine k_aload K X1210 at_217 rfl rfl (q := 219) rfl ?_
        refine k_iload K X1210 at_219 rfl (q := 221) rfl ?_
        refine k_iconst K X1210 at_221 (v := (2 : Int32)) rfl (q := 222) rfl ?_
        refine k_iadd K X1210 at_222 (q := 223) rfl ?_
        refine k_nameI (v := (2 : Int32)) (by decide) ?_
        refine k_iloadN K X1210 at_223 rfl (q := 224) rfl ?_
        refine k_bipush K X1210 at_224 (v := (8 : Int32)) rfl (q := 226) rfl ?_
        refine k_ishr K X1210 at_226 (q := 227) rfl ?_
        refine k_i2b K X1210 at_227 (q := 228) rfl ?_
        refine k_bastore K X1210 e1211 at_228 f1214 (i := 2) (by decide) (by decide) (q := 229) rfl ?_
        intro T1219 h1220 X1221 e1222 W1223 A1224
        have f1225 : Ary Z h1220 b1115 .byte 6 (fun i => Value.int (List.getD [(nar .byte (i2b ((p2 / (16777216 : Int32)) - d1195))), (nar .byte (i2b (shrI p2 (16 : Int32)))), (nar .byte (i2b (shrI p2 (8 : Int32)))), (nar .byte v1127), (nar .byte v1127), (nar .byte v1127)] i 0)) := Ary.eqv A1224 (fun i _ => setD Value.int [(nar .byte (i2b ((p2 / (16777216 : Int32)) - d1195))), (nar .byte (i2b (shrI p2 (16 : Int32)))), (nar .byte v1127), (nar .byte v1127), (nar .byte v1127), (nar .byte v1127)] 2 (nar .byte (i2b (shrI p2 (8 : Int32)))) 0 (Nat.le_of_ble_eq_true rfl) i)
        have f1226 := Exa.wr W1223 f1215
        have N1227 := Fr.snoc X1221 N1216 ge1122
        have K1228 := Keep.wr K1217 W1223 (Or.inr bn1123)
        have Z1229 := Nat.le_trans Z1218 (Nat.le_of_eq (Wr.size W1223).symm)
        refine k_aload K X1221 at_229 rfl rfl (q := 231) rfl ?_
        refine k_iload K X1221 at_231 rfl (q := 233) rfl ?_
        refine k_iconst K X1221 at_233 (v := (3 : Int32)) rfl (q := 234) rfl ?_
        refine k_iadd K X1221 at_234 (q := 235) rfl ?_
        refine k_nameI (v := (3 : Int32)) (by decide) ?_
        refine k_iloadN K X1221 at_235 rfl (q := 236) rfl ?_
        refine k_i2b K X1221 at_236 (q := 237) rfl ?_
        refine k_bastore K X1221 e1222 at_237 f1225 (i := 3) (by decide) (by decide) (q := 238) rfl ?_
        intro T1230 h1231 X1232 e1233 W1234 A1235
        have f1236 : Ary Z h1231 b1115 .byte 6 (fun i => Value.int (List.getD [(nar .byte (i2b ((p2 / (16777216 : Int32)) - d1195))), (nar .byte (i2b (shrI p2 (16 : Int32)))), (nar .byte (i2b (shrI p2 (8 : Int32)))), (nar .byte (i2b p2)), (nar .byte v1127), (nar .byte v1127)] i 0)) := Ary.eqv A1235 (fun i _ => setD Value.int [(nar .byte (i2b ((p2 / (16777216 : Int32)) - d1195))), (nar .byte (i2b (shrI p2 (16 : Int32)))), (nar .byte (i2b (shrI p2 (8 : Int32)))), (nar .byte v1127), (nar .byte v1127), (nar .byte v1127)] 3 (nar .byte (i2b p2)) 0 (Nat.le_of_ble_eq_true rfl) i)
        have f1237 := Exa.wr W1234 f1226
        have N1238 := Fr.snoc X1232 N1227 ge1122
        have K1239 := Keep.wr K1228 W1234 (Or.inr bn1123)
        have Z1240 := Nat.le_trans Z1229 (Nat.le_of_eq (Wr.size W1234).symm)
        refine k_aload K X1232 at_238 rfl rfl (q := 240) rfl ?_
        refine k_iload K X1232 at_240 rfl (q := 242) rfl ?_
        refine k_staticP K X1232 e1233 at_242 (wd hw 21 rfl) (wd hw 22 rfl) (wd hw 4 rfl) (wd hw 23 rfl) (by decide) (rm5_6_0 l Z az hw [] b1115 (nar .byte (i2b ((p2 / (16777216 : Int32)) - d1195))) (nar .byte (i2b (shrI p2 (16 : Int32)))) (nar .byte (i2b (shrI p2 (8 : Int32)))) (nar .byte (i2b p2)) (nar .byte v1127) (nar .byte v1127) h1231 f1236) (W := 0) (by decide) (by decide) (by decide) (by decide) rfl pd_4 (argsL := [(.ref b1115), (.int (0 : Int32))]) (rest := []) rfl rfl rfl (Nat.le_of_eq rfl) (q := 245) rfl ?_
        intro T1241 X1242 e1243
        refine k_iloadN K X1242 at_245 rfl (q := 246) rfl ?_
        have J1247 : ∀ (d1246 : Int32), (M0_1245 p2 d1195 v1127) = d1246 → Run p e below s kc kn Q T1241 (mkF m 254 #[.val (.int p0), .val (.int p1), .val (.int p2), .val (.int p3), s1096, s1097, s1098, .val (.int d1100), .val (.int (0 : Int32)), .val (.ref b1115), .val (.int v1127), .unset] [(.int d1246)]) := by
          intro d1246 hv_d1246
          refine k_istore K X1242 at_254 rfl (Ls' := #[.val (.int p0), .val (.int p1), .val (.int p2), .val (.int p3), s1096, s1097, s1098, .val (.int d1100), .val (.int (0 : Int32)), .val (.ref b1115), .val (.int v1127), .val (.int d1246)]) rfl (q := 256) rfl ?_
          refine k_iload K X1242 at_256 rfl (q := 258) rfl ?_
          have J1251 : ∀ (d1250 : Int32), (if d1100 = (0 : Int32) then (0 : Int32) else (if d1246 = (0 : Int32) then (0 : Int32) else (1 : Int32))) = d1250 → Run p e below s kc kn Q T1241 (mkF m 271 #[.val (.int p0), .val (.int p1), .val (.int p2), .val (.int p3), s1096, s1097, s1098, .val (.int d1100), .val (.int (0 : Int32)), .val (.ref b1115), .val (.int v1127), .val (.int d1246)] [(.int d1250)]) := by
            intro d1250 hv_d1250
            exact k_retz K X1242 e1243 at_271 (Nat.le_trans (by decide) hkc) (Nat.le_trans (by decide) hkn) (hQ _ _ _ ⟨(by show some (Value.int (nar .boolean d1250)) = some (Value.int (F_law p0 p1 p2 p3)); first | (simp only [F_law, hv_v665, hv_d1100, hv_v1110, hv_v1111, hv_v1127, hv_d1195, hv_d1246, hv_d1250, if_pos (rfl : (0 : Int32) = (0 : Int32)), if_true]; done) | (subst hv_v665; subst hv_d1100; subst hv_v1110; subst hv_v1127; subst hv_d1195; subst hv_d1246; subst hv_d1250; simp only [F_law, hv_v1111, if_pos (rfl : (0 : Int32) = (0 : Int32)), if_true])), N1238⟩)
          refine k_if_eq K X1242 at_258 (by decide) (q := 270) rfl (q' := 261) rfl ?_ ?_
          · intro hc1252
            refine k_iconst K X1242 at_270 (v := (0 : Int32)) rfl (q := 271) rfl ?_
            exact J1251 _ (by first | (simp only [M0_1099, M0_1245, if_pos hc1252]; done) | rfl)
          · intro hc1252
            refine k_iload K X1242 at_261 rfl (q := 263) rfl ?_
            refine k_if_eq K X1242 at_263 (by decide) (q := 270) rfl (q' := 266) rfl ?_ ?_
            · intro hc1253
              refine k_iconst K X1242 at_270 (v := (0 : Int32)) rfl (q := 271) rfl ?_
              exact J1251 _ (by first | (simp only [M0_1099, M0_1245, if_neg hc1252, if_pos hc1253]; done) | rfl)
            · intro hc1253
              refine k_iconst K X1242 at_266 (v := (1 : Int32)) rfl (q := 267) rfl ?_
              refine k_goto K X1242 at_267 (by decide) (q := 271) rfl ?_
              exact J1251 _ (by first | (simp only [M0_1099, M0_1245, if_neg hc1252, if_neg hc1253]; done) | rfl)
        refine k_icmp_ne K X1242 at_246 (by decide) (q := 253) rfl (q' := 249) rfl ?_ ?_
        · intro hc1254
          refine k_iconst K X1242 at_253 (v := (0 : Int32)) rfl (q := 254) rfl ?_
          exact J1247 _ (by first | (simp only [M0_1099, M0_1245, if_neg hc1254]; done) | rfl)
        · intro hc1254
          refine k_iconst K X1242 at_249 (v := (1 : Int32)) rfl (q := 250) rfl ?_
          refine k_goto K X1242 at_250 (by decide) (q := 254) rfl ?_
          exact J1247 _ (by first | (simp only [M0_1099, M0_1245, if_pos hc1254]; done) | rfl)
      refine k_if_ge K X1185 at_194 (by decide) (q := 201) rfl (q' := 197) rfl ?_ ?_
      · intro hc1255
        refine k_iconst K X1185 at_201 (v := (0 : Int32)) rfl (q := 202) rfl ?_
        exact J1196 _ (by first | (simp only [M0_1099, M0_1245, if_neg hc1255]; done) | rfl)
      · intro hc1255
        refine k_iconst K X1185 at_197 (v := (1 : Int32)) rfl (q := 198) rfl ?_
        refine k_goto K X1185 at_198 (by decide) (q := 202) rfl ?_
        exact J1196 _ (by first | (simp only [M0_1099, M0_1245, if_pos hc1255]; done) | rfl)
    by_cases hs1256 : v1111 = (1 : Int32)
    · subst hs1256
      refine k_bipush K X1103 at_134 (v := (6 : Int32)) rfl (q := 136) rfl ?_
      refine k_newarrayE K X1103 e1104 at_136 (ty := .byte) rfl (ad := "[B") (by decide) (wd hw 0 rfl) (n := 6) (cap := 6) (by decide) (by decide) (by decide) (by decide) (by decide) (q := 138) rfl ?_
      intro T1257 h1258 b1259 X1260 e1261 g1262 E1263 A1264 E1265
      have ge1266 : n0 ≤ b1259 := Nat.le_trans Z1108 (Nat.le_of_eq g1262.symm)
      have bn1267 : h0.size ≤ b1259 := Nat.le_trans K1107.1 (Nat.le_of_eq g1262.symm)
      have K1268 := Keep.ext K1107 E1263
      have Z1269 := Nat.le_trans Z1108 E1263.1
      have f1270 : Ary Z h1258 b1259 .byte 6 (fun i => Value.int (List.getD [(0 : Int32), (0 : Int32), (0 : Int32), (0 : Int32), (0 : Int32), (0 : Int32)] i 0)) := Ary.eqv A1264 (by intro i hi; match i, hi with | 0, _ => rfl | 1, _ => rfl | 2, _ => rfl | 3, _ => rfl | 4, _ => rfl | 5, _ => rfl | (k + 6), hi => exact absurd hi (by omega))
      refine k_astore K X1260 at_138 rfl (Ls' := #[.val (.int p0), .val (.int p1), .val (.int p2), .val (.int p3), s1096, s1097, s1098, .val (.int d1100), .val (.int (1 : Int32)), .val (.ref b1259), .unset, .unset]) rfl (q := 140) rfl ?_
      refine k_iloadN K X1260 at_140 rfl (q := 141) rfl ?_
      refine k_iconst K X1260 at_141 (v := (4 : Int32)) rfl (q := 142) rfl ?_
      refine k_iushr K X1260 at_142 (q := 143) rfl ?_
      refine k_i2b K X1260 at_143 (q := 144) rfl ?_
      obtain ⟨v1271, hv_v1271⟩ : ∃ z : Int32, (i2b (ushrI p3 (4 : Int32))) = z := ⟨_, rfl⟩
      refine k_istore K X1260 at_144 hv_v1271 (Ls' := #[.val (.int p0), .val (.int p1), .val (.int p2), .val (.int p3), s1096, s1097, s1098, .val (.int d1100), .val (.int (1 : Int32)), .val (.ref b1259), .val (.int v1271), .unset]) rfl (q := 146) rfl ?_
      refine k_aload K X1260 at_146 rfl rfl (q := 148) rfl ?_
      refine k_iconst K X1260 at_148 (v := (0 : Int32)) rfl (q := 149) rfl ?_
      refine k_iload K X1260 at_149 rfl (q := 151) rfl ?_
      refine k_bastore K X1260 e1261 at_151 f1270 (i := 0) (by decide) (by decide) (q := 152) rfl ?_
      intro T1272 h1273 X1274 e1275 W1276 A1277
      have f1278 : Ary Z h1273 b1259 .byte 6 (fun i => Value.int (List.getD [(nar .byte v1271), (0 : Int32), (0 : Int32), (0 : Int32), (0 : Int32), (0 : Int32)] i 0)) := Ary.eqv A1277 (fun i _ => setD Value.int [(0 : Int32), (0 : Int32), (0 : Int32), (0 : Int32), (0 : Int32), (0 : Int32)] 0 (nar .byte v1271) 0 (Nat.le_of_ble_eq_true rfl) i)
      have f1279 := Exa.wr W1276 E1265
      have N1280 := Fr.snoc X1274 N1106 ge1266
      have K1281 := Keep.wr K1268 W1276 (Or.inr bn1267)
      have Z1282 := Nat.le_trans Z1269 (Nat.le_of_eq (Wr.size W1276).symm)
      refine k_aload K X1274 at_152 rfl rfl (q := 154) rfl ?_
      refine k_iconst K X1274 at_154 (v := (1 : Int32)) rfl (q := 155) rfl ?_
      refine k_iload K X1274 at_155 rfl (q := 157) rfl ?_
      refine k_bastore K X1274 e1275 at_157 f1278 (i := 1) (by decide) (by decide) (q := 158) rfl ?_
      intro T1283 h1284 X1285 e1286 W1287 A1288
      have f1289 : Ary Z h1284 b1259 .byte 6 (fun i => Value.int (List.getD [(nar .byte v1271), (nar .byte v1271), (0 : Int32), (0 : Int32), (0 : Int32), (0 : Int32)] i 0)) := Ary.eqv A1288 (fun i _ => setD Value.int [(nar .byte v1271), (0 : Int32), (0 : Int32), (0 : Int32), (0 : Int32), (0 : Int32)] 1 (nar .byte v1271) 0 (Nat.le_of_ble_eq_true rfl) i)
      have f1290 := Exa.wr W1287 f1279
      have N1291 := Fr.snoc X1285 N1280 ge1266
      have K1292 := Keep.wr K1281 W1287 (Or.inr bn1267)
      have Z1293 := Nat.le_trans Z1282 (Nat.le_of_eq (Wr.size W1287).symm)
      refine k_aload K X1285 at_158 rfl rfl (q := 160) rfl ?_
      refine k_iconst K X1285 at_160 (v := (2 : Int32)) rfl (q := 161) rfl ?_
      refine k_iload K X1285 at_161 rfl (q := 163) rfl ?_
      refine k_bastore K X1285 e1286 at_163 f1289 (i := 2) (by decide) (by decide) (q := 164) rfl ?_
      intro T1294 h1295 X1296 e1297 W1298 A1299
      have f1300 : Ary Z h1295 b1259 .byte 6 (fun i => Value.int (List.getD [(nar .byte v1271), (nar .byte v1271), (nar .byte v1271), (0 : Int32), (0 : Int32), (0 : Int32)] i 0)) := Ary.eqv A1299 (fun i _ => setD Value.int [(nar .byte v1271), (nar .byte v1271), (0 : Int32), (0 : Int32), (0 : Int32), (0 : Int32)] 2 (nar .byte v1271) 0 (Nat.le_of_ble_eq_true rfl) i)
      have f1301 := Exa.wr W1298 f1290
      have N1302 := Fr.snoc X1296 N1291 ge1266
      have K1303 := Keep.wr K1292 W1298 (Or.inr bn1267)
      have Z1304 := Nat.le_trans Z1293 (Nat.le_of_eq (Wr.size W1298).symm)
      refine k_aload K X1296 at_164 rfl rfl (q := 166) rfl ?_
      refine k_iconst K X1296 at_166 (v := (3 : Int32)) rfl (q := 167) rfl ?_
      refine k_iload K X1296 at_167 rfl (q := 169) rfl ?_
      refine k_bastore K X1296 e1297 at_169 f1300 (i := 3) (by decide) (by decide) (q := 170) rfl ?_
      intro T1305 h1306 X1307 e1308 W1309 A1310
      have f1311 : Ary Z h1306 b1259 .byte 6 (fun i => Value.int (List.getD [(nar .byte v1271), (nar .byte v1271), (nar .byte v1271), (nar .byte v1271), (0 : Int32), (0 : Int32)] i 0)) := Ary.eqv A1310 (fun i _ => setD Value.int [(nar .byte v1271), (nar .byte v1271), (nar .byte v1271), (0 : Int32), (0 : Int32), (0 : Int32)] 3 (nar .byte v1271) 0 (Nat.le_of_ble_eq_true rfl) i)
      have f1312 := Exa.wr W1309 f1301
      have N1313 := Fr.snoc X1307 N1302 ge1266
      have K1314 := Keep.wr K1303 W1309 (Or.inr bn1267)
      have Z1315 := Nat.le_trans Z1304 (Nat.le_of_eq (Wr.size W1309).symm)
      refine k_aload K X1307 at_170 rfl rfl (q := 172) rfl ?_
      refine k_iconst K X1307 at_172 (v := (4 : Int32)) rfl (q := 173) rfl ?_
      refine k_iload K X1307 at_173 rfl (q := 175) rfl ?_
      refine k_bastore K X1307 e1308 at_175 f1311 (i := 4) (by decide) (by decide) (q := 176) rfl ?_
      intro T1316 h1317 X1318 e1319 W1320 A1321
      have f1322 : Ary Z h1317 b1259 .byte 6 (fun i => Value.int (List.getD [(nar .byte v1271), (nar .byte v1271), (nar .byte v1271), (nar .byte v1271), (nar .byte v1271), (0 : Int32)] i 0)) := Ary.eqv A1321 (fun i _ => setD Value.int [(nar .byte v1271), (nar .byte v1271), (nar .byte v1271), (nar .byte v1271), (0 : Int32), (0 : Int32)] 4 (nar .byte v1271) 0 (Nat.le_of_ble_eq_true rfl) i)
      have f1323 := Exa.wr W1320 f1312
      have N1324 := Fr.snoc X1318 N1313 ge1266
      have K1325 := Keep.wr K1314 W1320 (Or.inr bn1267)
      have Z1326 := Nat.le_trans Z1315 (Nat.le_of_eq (Wr.size W1320).symm)
      refine k_aload K X1318 at_176 rfl rfl (q := 178) rfl ?_
      refine k_iconst K X1318 at_178 (v := (5 : Int32)) rfl (q := 179) rfl ?_
      refine k_iload K X1318 at_179 rfl (q := 181) rfl ?_
      refine k_bastore K X1318 e1319 at_181 f1322 (i := 5) (by decide) (by decide) (q := 182) rfl ?_
      intro T1327 h1328 X1329 e1330 W1331 A1332
      have f1333 : Ary Z h1328 b1259 .byte 6 (fun i => Value.int (List.getD [(nar .byte v1271), (nar .byte v1271), (nar .byte v1271), (nar .byte v1271), (nar .byte v1271), (nar .byte v1271)] i 0)) := Ary.eqv A1332 (fun i _ => setD Value.int [(nar .byte v1271), (nar .byte v1271), (nar .byte v1271), (nar .byte v1271), (nar .byte v1271), (0 : Int32)] 5 (nar .byte v1271) 0 (Nat.le_of_ble_eq_true rfl) i)
      have f1334 := Exa.wr W1331 f1323
      have N1335 := Fr.snoc X1329 N1324 ge1266
      have K1336 := Keep.wr K1325 W1331 (Or.inr bn1267)
      have Z1337 := Nat.le_trans Z1326 (Nat.le_of_eq (Wr.size W1331).symm)
      refine k_aload K X1329 at_182 rfl rfl (q := 184) rfl ?_
      refine k_iload K X1329 at_184 rfl (q := 186) rfl ?_
      refine k_iloadN K X1329 at_186 rfl (q := 187) rfl ?_
      refine k_ldc K X1329 at_187 (wd hw 24 rfl) (q := 189) rfl ?_
      refine k_idiv K X1329 at_189 (by decide) (q := 190) rfl ?_
      refine k_iloadN K X1329 at_190 rfl (q := 191) rfl ?_
      refine k_ldc K X1329 at_191 (wd hw 24 rfl) (q := 193) rfl ?_
      refine k_irem K X1329 at_193 (by decide) (q := 194) rfl ?_
      have J1340 : ∀ (d1339 : Int32), (if (p2 % (16777216 : Int32)) < (0 : Int32) then (1 : Int32) else (0 : Int32)) = d1339 → Run p e below s kc kn Q T1327 (mkF m 202 #[.val (.int p0), .val (.int p1), .val (.int p2), .val (.int p3), s1096, s1097, s1098, .val (.int d1100), .val (.int (1 : Int32)), .val (.ref b1259), .val (.int v1271), .unset] [(.int d1339), (.int (p2 / (16777216 : Int32))), (.int (1 : Int32)), (.ref b1259)]) := by
        intro d1339 hv_d1339
        refine k_isub K X1329 at_202 (q := 203) rfl ?_
        refine k_i2b K X1329 at_203 (q := 204) rfl ?_
        refine k_bastore K X1329 e1330 at_204 f1333 (i := 1) (by decide) (by decide) (q := 205) rfl ?_
        intro T1341 h1342 X1343 e1344 W1345 A1346
        have f1347 : Ary Z h1342 b1259 .byte 6 (fun i => Value.int (List.getD [(nar .byte v1271), (nar .byte (i2b ((p2 / (16777216 : Int32)) - d1339))), (nar .byte v1271), (nar .byte v1271), (nar .byte v1271), (nar .byte v1271)] i 0)) := Ary.eqv A1346 (fun i _ => setD Value.int [(nar .byte v1271), (nar .byte v1271), (nar .byte v1271), (nar .byte v1271), (nar .byte v1271), (nar .byte v1271)] 1 (nar .byte (i2b ((p2 / (16777216 : Int32)) - d1339))) 0 (Nat.le_of_ble_eq_true rfl) i)
        have f1348 := Exa.wr W1345 f1334
        have N1349 := Fr.snoc X1343 N1335 ge1266
        have K1350 := Keep.wr K1336 W1345 (Or.inr bn1267)
        have Z1351 := Nat.le_trans Z1337 (Nat.le_of_eq (Wr.size W1345).symm)
        refine k_aload K X1343 at_205 rfl rfl (q := 207) rfl ?_
        refine k_iload K X1343 at_207 rfl (q := 209) rfl ?_
        refine k_iconst K X1343 at_209 (v := (1 : Int32)) rfl (q := 210) rfl ?_
        refine k_iadd K X1343 at_210 (q := 211) rfl ?_
        refine k_nameI (v := (2 : Int32)) (by decide) ?_
        refine k_iloadN K X1343 at_211 rfl (q := 212) rfl ?_
        refine k_bipush K X1343 at_212 (v := (16 : Int32)) rfl (q := 214) rfl ?_
        refine k_ishr K X1343 at_214 (q := 215) rfl ?_
        refine k_i2b K X1343 at_215 (q := 216) rfl ?_
        refine k_bastore K X1343 e1344 at_216 f1347 (i := 2) (by decide) (by decide) (q := 217) rfl ?_
        intro T1352 h1353 X1354 e1355 W1356 A1357
        have f1358 : Ary Z h1353 b1259 .byte 6 (fun i => Value.int (List.getD [(nar .byte v1271), (nar .byte (i2b ((p2 / (16777216 : Int32)) - d1339))), (nar .byte (i2b (shrI p2 (16 : Int32)))), (nar .byte v1271), (nar .byte v1271), (nar .byte v1271)] i 0)) := Ary.eqv A1357 (fun i _ => setD Value.int [(nar .byte v1271), (nar .byte (i2b ((p2 / (16777216 : Int32)) - d1339))), (nar .byte v1271), (nar .byte v1271), (nar .byte v1271), (nar .byte v1271)] 2 (nar .byte (i2b (shrI p2 (16 : Int32)))) 0 (Nat.le_of_ble_eq_true rfl) i)
        have f1359 := Exa.wr W1356 f1348
        have N1360 := Fr.snoc X1354 N1349 ge1266
        have K1361 := Keep.wr K1350 W1356 (Or.inr bn1267)
        have Z1362 := Nat.le_trans Z1351 (Nat.le_of_eq (Wr.size W1356).symm)
        refine k_aload K X1354 at_217 rfl rfl (q := 219) rfl ?_
        refine k_iload K X1354 at_219 rfl (q := 221) rfl ?_
        refine k_iconst K X1354 at_221 (v := (2 : Int32)) rfl (q := 222) rfl ?_
        refine k_iadd K X1354 at_222 (q := 223) rfl ?_
        refine k_nameI (v := (3 : Int32)) (by decide) ?_
        refine k_iloadN K X1354 at_223 rfl (q := 224) rfl ?_
        refine k_bipush K X1354 at_224 (v := (8 : Int32)) rfl (q := 226) rfl ?_
        refine k_ishr K X1354 at_226 (q := 227) rfl ?_
        refine k_i2b K X1354 at_227 (q := 228) rfl ?_
        refine k_bastore K X1354 e1355 at_228 f1358 (i := 3) (by decide) (by decide) (q := 229) rfl ?_
        intro T1363 h1364 X1365 e1366 W1367 A1368
        have f1369 : Ary Z h1364 b1259 .byte 6 (fun i => Value.int (List.getD [(nar .byte v1271), (nar .byte (i2b ((p2 / (16777216 : Int32)) - d1339))), (nar .byte (i2b (shrI p2 (16 : Int32)))), (nar .byte (i2b (shrI p2 (8 : Int32)))), (nar .byte v1271), (nar .byte v1271)] i 0)) := Ary.eqv A1368 (fun i _ => setD Value.int [(nar .byte v1271), (nar .byte (i2b ((p2 / (16777216 : Int32)) - d1339))), (nar .byte (i2b (shrI p2 (16 : Int32)))), (nar .byte v1271), (nar .byte v1271), (nar .byte v1271)] 3 (nar .byte (i2b (shrI p2 (8 : Int32)))) 0 (Nat.le_of_ble_eq_true rfl) i)
        have f1370 := Exa.wr W1367 f1359
        have N1371 := Fr.snoc X1365 N1360 ge1266
        have K1372 := Keep.wr K1361 W1367 (Or.inr bn1267)
        have Z1373 := Nat.le_trans Z1362 (Nat.le_of_eq (Wr.size W1367).symm)
        refine k_aload K X1365 at_229 rfl rfl (q := 231) rfl ?_
        refine k_iload K X1365 at_231 rfl (q := 233) rfl ?_
        refine k_iconst K X1365 at_233 (v := (3 : Int32)) rfl (q := 234) rfl ?_
        refine k_iadd K X1365 at_234 (q := 235) rfl ?_
        refine k_nameI (v := (4 : Int32)) (by decide) ?_
        refine k_iloadN K X1365 at_235 rfl (q := 236) rfl ?_
        refine k_i2b K X1365 at_236 (q := 237) rfl ?_
        refine k_bastore K X1365 e1366 at_237 f1369 (i := 4) (by decide) (by decide) (q := 238) rfl ?_
        intro T1374 h1375 X1376 e1377 W1378 A1379
        have f1380 : Ary Z h1375 b1259 .byte 6 (fun i => Value.int (List.getD [(nar .byte v1271), (nar .byte (i2b ((p2 / (16777216 : Int32)) - d1339))), (nar .byte (i2b (shrI p2 (16 : Int32)))), (nar .byte (i2b (shrI p2 (8 : Int32)))), (nar .byte (i2b p2)), (nar .byte v1271)] i 0)) := Ary.eqv A1379 (fun i _ => setD Value.int [(nar .byte v1271), (nar .byte (i2b ((p2 / (16777216 : Int32)) - d1339))), (nar .byte (i2b (shrI p2 (16 : Int32)))), (nar .byte (i2b (shrI p2 (8 : Int32)))), (nar .byte v1271), (nar .byte v1271)] 4 (nar .byte (i2b p2)) 0 (Nat.le_of_ble_eq_true rfl) i)
        have f1381 := Exa.wr W1378 f1370
        have N1382 := Fr.snoc X1376 N1371 ge1266
        have K1383 := Keep.wr K1372 W1378 (Or.inr bn1267)
        have Z1384 := Nat.le_trans Z1373 (Nat.le_of_eq (Wr.size W1378).symm)
        refine k_aload K X1376 at_238 rfl rfl (q := 240) rfl ?_
        refine k_iload K X1376 at_240 rfl (q := 242) rfl ?_
        refine k_staticP K X1376 e1377 at_242 (wd hw 21 rfl) (wd hw 22 rfl) (wd hw 4 rfl) (wd hw 23 rfl) (by decide) (rm5_6_1 l Z az hw [] b1259 (nar .byte v1271) (nar .byte (i2b ((p2 / (16777216 : Int32)) - d1339))) (nar .byte (i2b (shrI p2 (16 : Int32)))) (nar .byte (i2b (shrI p2 (8 : Int32)))) (nar .byte (i2b p2)) (nar .byte v1271) h1375 f1380) (W := 0) (by decide) (by decide) (by decide) (by decide) rfl pd_4 (argsL := [(.ref b1259), (.int (1 : Int32))]) (rest := []) rfl rfl rfl (Nat.le_of_eq rfl) (q := 245) rfl ?_
        intro T1385 X1386 e1387
        refine k_iloadN K X1386 at_245 rfl (q := 246) rfl ?_
        have J1391 : ∀ (d1390 : Int32), (M0_1389 v1271 p2 d1339) = d1390 → Run p e below s kc kn Q T1385 (mkF m 254 #[.val (.int p0), .val (.int p1), .val (.int p2), .val (.int p3), s1096, s1097, s1098, .val (.int d1100), .val (.int (1 : Int32)), .val (.ref b1259), .val (.int v1271), .unset] [(.int d1390)]) := by
          intro d1390 hv_d1390
          refine k_istore K X1386 at_254 rfl (Ls' := #[.val (.int p0), .val (.int p1), .val (.int p2), .val (.int p3), s1096, s1097, s1098, .val (.int d1100), .val (.int (1 : Int32)), .val (.ref b1259), .val (.int v1271), .val (.int d1390)]) rfl (q := 256) rfl ?_
          refine k_iload K X1386 at_256 rfl (q := 258) rfl ?_
          have J1395 : ∀ (d1394 : Int32), (if d1100 = (0 : Int32) then (0 : Int32) else (if d1390 = (0 : Int32) then (0 : Int32) else (1 : Int32))) = d1394 → Run p e below s kc kn Q T1385 (mkF m 271 #[.val (.int p0), .val (.int p1), .val (.int p2), .val (.int p3), s1096, s1097, s1098, .val (.int d1100), .val (.int (1 : Int32)), .val (.ref b1259), .val (.int v1271), .val (.int d1390)] [(.int d1394)]) := by
            intro d1394 hv_d1394
            exact k_retz K X1386 e1387 at_271 (Nat.le_trans (by decide) hkc) (Nat.le_trans (by decide) hkn) (hQ _ _ _ ⟨(by show some (Value.int (nar .boolean d1394)) = some (Value.int (F_law p0 p1 p2 p3)); first | (simp only [F_law, hv_v665, hv_d1100, hv_v1110, hv_v1111, hv_v1271, hv_d1339, hv_d1390, hv_d1394, if_neg hs1112, if_pos (rfl : (1 : Int32) = (1 : Int32)), if_true]; done) | (subst hv_v665; subst hv_d1100; subst hv_v1110; subst hv_v1271; subst hv_d1339; subst hv_d1390; subst hv_d1394; simp only [F_law, hv_v1111, if_neg hs1112, if_pos (rfl : (1 : Int32) = (1 : Int32)), if_true])), N1382⟩)
          refine k_if_eq K X1386 at_258 (by decide) (q := 270) rfl (q' := 261) rfl ?_ ?_
          · intro hc1396
            refine k_iconst K X1386 at_270 (v := (0 : Int32)) rfl (q := 271) rfl ?_
            exact J1395 _ (by first | (simp only [M0_1099, M0_1245, M0_1389, if_pos hc1396]; done) | rfl)
          · intro hc1396
            refine k_iload K X1386 at_261 rfl (q := 263) rfl ?_
            refine k_if_eq K X1386 at_263 (by decide) (q := 270) rfl (q' := 266) rfl ?_ ?_
            · intro hc1397
              refine k_iconst K X1386 at_270 (v := (0 : Int32)) rfl (q := 271) rfl ?_
              exact J1395 _ (by first | (simp only [M0_1099, M0_1245, M0_1389, if_neg hc1396, if_pos hc1397]; done) | rfl)
            · intro hc1397
              refine k_iconst K X1386 at_266 (v := (1 : Int32)) rfl (q := 267) rfl ?_
              refine k_goto K X1386 at_267 (by decide) (q := 271) rfl ?_
              exact J1395 _ (by first | (simp only [M0_1099, M0_1245, M0_1389, if_neg hc1396, if_neg hc1397]; done) | rfl)
        refine k_icmp_ne K X1386 at_246 (by decide) (q := 253) rfl (q' := 249) rfl ?_ ?_
        · intro hc1398
          refine k_iconst K X1386 at_253 (v := (0 : Int32)) rfl (q := 254) rfl ?_
          exact J1391 _ (by first | (simp only [M0_1099, M0_1245, M0_1389, if_neg hc1398]; done) | rfl)
        · intro hc1398
          refine k_iconst K X1386 at_249 (v := (1 : Int32)) rfl (q := 250) rfl ?_
          refine k_goto K X1386 at_250 (by decide) (q := 254) rfl ?_
          exact J1391 _ (by first | (simp only [M0_1099, M0_1245, M0_1389, if_pos hc1398]; done) | rfl)
      refine k_if_ge K X1329 at_194 (by decide) (q := 201) rfl (q' := 197) rfl ?_ ?_
      · intro hc1399
        refine k_iconst K X1329 at_201 (v := (0 : Int32)) rfl (q := 202) rfl ?_
        exact J1340 _ (by first | (simp only [M0_1099, M0_1245, M0_1389, if_neg hc1399]; done) | rfl)
      · intro hc1399
        refine k_iconst K X1329 at_197 (v := (1 : Int32)) rfl (q := 198) rfl ?_
        refine k_goto K X1329 at_198 (by decide) (q := 202) rfl ?_
        exact J1340 _ (by first | (simp only [M0_1099, M0_1245, M0_1389, if_pos hc1399]; done) | rfl)
    by_cases hs1400 : v1111 = (2 : Int32)
    · subst hs1400
      refine k_bipush K X1103 at_134 (v := (6 : Int32)) rfl (q := 136) rfl ?_
      refine k_newarrayE K X1103 e1104 at_136 (ty := .byte) rfl (ad := "[B") (by decide) (wd hw 0 rfl) (n := 6) (cap := 6) (by decide) (by decide) (by decide) (by decide) (by decide) (q := 138) rfl ?_
      intro T1401 h1402 b1403 X1404 e1405 g1406 E1407 A1408 E1409
      have ge1410 : n0 ≤ b1403 := Nat.le_trans Z1108 (Nat.le_of_eq g1406.symm)
      have bn1411 : h0.size ≤ b1403 := Nat.le_trans K1107.1 (Nat.le_of_eq g1406.symm)
      have K1412 := Keep.ext K1107 E1407
      have Z1413 := Nat.le_trans Z1108 E1407.1
      have f1414 : Ary Z h1402 b1403 .byte 6 (fun i => Value.int (List.getD [(0 : Int32), (0 : Int32), (0 : Int32), (0 : Int32), (0 : Int32), (0 : Int32)] i 0)) := Ary.eqv A1408 (by intro i hi; match i, hi with | 0, _ => rfl | 1, _ => rfl | 2, _ => rfl | 3, _ => rfl | 4, _ => rfl | 5, _ => rfl | (k + 6), hi => exact absurd hi (by omega))
      refine k_astore K X1404 at_138 rfl (Ls' := #[.val (.int p0), .val (.int p1), .val (.int p2), .val (.int p3), s1096, s1097, s1098, .val (.int d1100), .val (.int (2 : Int32)), .val (.ref b1403), .unset, .unset]) rfl (q := 140) rfl ?_
      refine k_iloadN K X1404 at_140 rfl (q := 141) rfl ?_
      refine k_iconst K X1404 at_141 (v := (4 : Int32)) rfl (q := 142) rfl ?_
      refine k_iushr K X1404 at_142 (q := 143) rfl ?_
      refine k_i2b K X1404 at_143 (q := 144) rfl ?_
      obtain ⟨v1415, hv_v1415⟩ : ∃ z : Int32, (i2b (ushrI p3 (4 : Int32))) = z := ⟨_, rfl⟩
      refine k_istore K X1404 at_144 hv_v1415 (Ls' := #[.val (.int p0), .val (.int p1), .val (.int p2), .val (.int p3), s1096, s1097, s1098, .val (.int d1100), .val (.int (2 : Int32)), .val (.ref b1403), .val (.int v1415), .unset]) rfl (q := 146) rfl ?_
      refine k_aload K X1404 at_146 rfl rfl (q := 148) rfl ?_
      refine k_iconst K X1404 at_148 (v := (0 : Int32)) rfl (q := 149) rfl ?_
      refine k_iload K X1404 at_149 rfl (q := 151) rfl ?_
      refine k_bastore K X1404 e1405 at_151 f1414 (i := 0) (by decide) (by decide) (q := 152) rfl ?_
      intro T1416 h1417 X1418 e1419 W1420 A1421
      have f1422 : Ary Z h1417 b1403 .byte 6 (fun i => Value.int (List.getD [(nar .byte v1415), (0 : Int32), (0 : Int32), (0 : Int32), (0 : Int32), (0 : Int32)] i 0)) := Ary.eqv A1421 (fun i _ => setD Value.int [(0 : Int32), (0 : Int32), (0 : Int32), (0 : Int32), (0 : Int32), (0 : Int32)] 0 (nar .byte v1415) 0 (Nat.le_of_ble_eq_true rfl) i)
      have f1423 := Exa.wr W1420 E1409
      have N1424 := Fr.snoc X1418 N1106 ge1410
      have K1425 := Keep.wr K1412 W1420 (Or.inr bn1411)
      have Z1426 := Nat.le_trans Z1413 (Nat.le_of_eq (Wr.size W1420).symm)
      refine k_aload K X1418 at_152 rfl rfl (q := 154) rfl ?_
      refine k_iconst K X1418 at_154 (v := (1 : Int32)) rfl (q := 155) rfl ?_
      refine k_iload K X1418 at_155 rfl (q := 157) rfl ?_
      refine k_bastore K X1418 e1419 at_157 f1422 (i := 1) (by decide) (by decide) (q := 158) rfl ?_
      intro T1427 h1428 X1429 e1430 W1431 A1432
      have f1433 : Ary Z h1428 b1403 .byte 6 (fun i => Value.int (List.getD [(nar .byte v1415), (nar .byte v1415), (0 : Int32), (0 : Int32), (0 : Int32), (0 : Int32)] i 0)) := Ary.eqv A1432 (fun i _ => setD Value.int [(nar .byte v1415), (0 : Int32), (0 : Int32), (0 : Int32), (0 : Int32), (0 : Int32)] 1 (nar .byte v1415) 0 (Nat.le_of_ble_eq_true rfl) i)
      have f1434 := Exa.wr W1431 f1423
      have N1435 := Fr.snoc X1429 N1424 ge1410
      have K1436 := Keep.wr K1425 W1431 (Or.inr bn1411)
      have Z1437 := Nat.le_trans Z1426 (Nat.le_of_eq (Wr.size W1431).symm)
      refine k_aload K X1429 at_158 rfl rfl (q := 160) rfl ?_
      refine k_iconst K X1429 at_160 (v := (2 : Int32)) rfl (q := 161) rfl ?_
      refine k_iload K X1429 at_161 rfl (q := 163) rfl ?_
      refine k_bastore K X1429 e1430 at_163 f1433 (i := 2) (by decide) (by decide) (q := 164) rfl ?_
      intro T1438 h1439 X1440 e1441 W1442 A1443
      have f1444 : Ary Z h1439 b1403 .byte 6 (fun i => Value.int (List.getD [(nar .byte v1415), (nar .byte v1415), (nar .byte v1415), (0 : Int32), (0 : Int32), (0 : Int32)] i 0)) := Ary.eqv A1443 (fun i _ => setD Value.int [(nar .byte v1415), (nar .byte v1415), (0 : Int32), (0 : Int32), (0 : Int32), (0 : Int32)] 2 (nar .byte v1415) 0 (Nat.le_of_ble_eq_true rfl) i)
      have f1445 := Exa.wr W1442 f1434
      have N1446 := Fr.snoc X1440 N1435 ge1410
      have K1447 := Keep.wr K1436 W1442 (Or.inr bn1411)
      have Z1448 := Nat.le_trans Z1437 (Nat.le_of_eq (Wr.size W1442).symm)
      refine k_aload K X1440 at_164 rfl rfl (q := 166) rfl ?_
      refine k_iconst K X1440 at_166 (v := (3 : Int32)) rfl (q := 167) rfl ?_
      refine k_iload K X1440 at_167 rfl (q := 169) rfl ?_
      refine k_bastore K X1440 e1441 at_169 f1444 (i := 3) (by decide) (by decide) (q := 170) rfl ?_
      intro T1449 h1450 X1451 e1452 W1453 A1454
      have f1455 : Ary Z h1450 b1403 .byte 6 (fun i => Value.int (List.getD [(nar .byte v1415), (nar .byte v1415), (nar .byte v1415), (nar .byte v1415), (0 : Int32), (0 : Int32)] i 0)) := Ary.eqv A1454 (fun i _ => setD Value.int [(nar .byte v1415), (nar .byte v1415), (nar .byte v1415), (0 : Int32), (0 : Int32), (0 : Int32)] 3 (nar .byte v1415) 0 (Nat.le_of_ble_eq_true rfl) i)
      have f1456 := Exa.wr W1453 f1445
      have N1457 := Fr.snoc X1451 N1446 ge1410
      have K1458 := Keep.wr K1447 W1453 (Or.inr bn1411)
      have Z1459 := Nat.le_trans Z1448 (Nat.le_of_eq (Wr.size W1453).symm)
      refine k_aload K X1451 at_170 rfl rfl (q := 172) rfl ?_
      refine k_iconst K X1451 at_172 (v := (4 : Int32)) rfl (q := 173) rfl ?_
      refine k_iload K X1451 at_173 rfl (q := 175) rfl ?_
      refine k_bastore K X1451 e1452 at_175 f1455 (i := 4) (by decide) (by decide) (q := 176) rfl ?_
      intro T1460 h1461 X1462 e1463 W1464 A1465
      have f1466 : Ary Z h1461 b1403 .byte 6 (fun i => Value.int (List.getD [(nar .byte v1415), (nar .byte v1415), (nar .byte v1415), (nar .byte v1415), (nar .byte v1415), (0 : Int32)] i 0)) := Ary.eqv A1465 (fun i _ => setD Value.int [(nar .byte v1415), (nar .byte v1415), (nar .byte v1415), (nar .byte v1415), (0 : Int32), (0 : Int32)] 4 (nar .byte v1415) 0 (Nat.le_of_ble_eq_true rfl) i)
      have f1467 := Exa.wr W1464 f1456
      have N1468 := Fr.snoc X1462 N1457 ge1410
      have K1469 := Keep.wr K1458 W1464 (Or.inr bn1411)
      have Z1470 := Nat.le_trans Z1459 (Nat.le_of_eq (Wr.size W1464).symm)
      refine k_aload K X1462 at_176 rfl rfl (q := 178) rfl ?_
      refine k_iconst K X1462 at_178 (v := (5 : Int32)) rfl (q := 179) rfl ?_
      refine k_iload K X1462 at_179 rfl (q := 181) rfl ?_
      refine k_bastore K X1462 e1463 at_181 f1466 (i := 5) (by decide) (by decide) (q := 182) rfl ?_
      intro T1471 h1472 X1473 e1474 W1475 A1476
      have f1477 : Ary Z h1472 b1403 .byte 6 (fun i => Value.int (List.getD [(nar .byte v1415), (nar .byte v1415), (nar .byte v1415), (nar .byte v1415), (nar .byte v1415), (nar .byte v1415)] i 0)) := Ary.eqv A1476 (fun i _ => setD Value.int [(nar .byte v1415), (nar .byte v1415), (nar .byte v1415), (nar .byte v1415), (nar .byte v1415), (0 : Int32)] 5 (nar .byte v1415) 0 (Nat.le_of_ble_eq_true rfl) i)
      have f1478 := Exa.wr W1475 f1467
      have N1479 := Fr.snoc X1473 N1468 ge1410
      have K1480 := Keep.wr K1469 W1475 (Or.inr bn1411)
      have Z1481 := Nat.le_trans Z1470 (Nat.le_of_eq (Wr.size W1475).symm)
      refine k_aload K X1473 at_182 rfl rfl (q := 184) rfl ?_
      refine k_iload K X1473 at_184 rfl (q := 186) rfl ?_
      refine k_iloadN K X1473 at_186 rfl (q := 187) rfl ?_
      refine k_ldc K X1473 at_187 (wd hw 24 rfl) (q := 189) rfl ?_
      refine k_idiv K X1473 at_189 (by decide) (q := 190) rfl ?_
      refine k_iloadN K X1473 at_190 rfl (q := 191) rfl ?_
      refine k_ldc K X1473 at_191 (wd hw 24 rfl) (q := 193) rfl ?_
      refine k_irem K X1473 at_193 (by decide) (q := 194) rfl ?_
      have J1484 : ∀ (d1483 : Int32), (if (p2 % (16777216 : Int32)) < (0 : Int32) then (1 : Int32) else (0 : Int32)) = d1483 → Run p e below s kc kn Q T1471 (mkF m 202 #[.val (.int p0), .val (.int p1), .val (.int p2), .val (.int p3), s1096, s1097, s1098, .val (.int d1100), .val (.int (2 : Int32)), .val (.ref b1403), .val (.int v1415), .unset] [(.int d1483), (.int (p2 / (16777216 : Int32))), (.int (2 : Int32)), (.ref b1403)]) := by
        intro d1483 hv_d1483
        refine k_isub K X1473 at_202 (q := 203) rfl ?_
        refine k_i2b K X1473 at_203 (q := 204) rfl ?_
        refine k_bastore K X1473 e1474 at_204 f1477 (i := 2) (by decide) (by decide) (q := 205) rfl ?_
        intro T1485 h1486 X1487 e1488 W1489 A1490
        have f1491 : Ary Z h1486 b1403 .byte 6 (fun i => Value.int (List.getD [(nar .byte v1415), (nar .byte v1415), (nar .byte (i2b ((p2 / (16777216 : Int32)) - d1483))), (nar .byte v1415), (nar .byte v1415), (nar .byte v1415)] i 0)) := Ary.eqv A1490 (fun i _ => setD Value.int [(nar .byte v1415), (nar .byte v1415), (nar .byte v1415), (nar .byte v1415), (nar .byte v1415), (nar .byte v1415)] 2 (nar .byte (i2b ((p2 / (16777216 : Int32)) - d1483))) 0 (Nat.le_of_ble_eq_true rfl) i)
        have f1492 := Exa.wr W1489 f1478
        have N1493 := Fr.snoc X1487 N1479 ge1410
        have K1494 := Keep.wr K1480 W1489 (Or.inr bn1411)
        have Z1495 := Nat.le_trans Z1481 (Nat.le_of_eq (Wr.size W1489).symm)
        refine k_aload K X1487 at_205 rfl rfl (q := 207) rfl ?_
        refine k_iload K X1487 at_207 rfl (q := 209) rfl ?_
        refine k_iconst K X1487 at_209 (v := (1 : Int32)) rfl (q := 210) rfl ?_
        refine k_iadd K X1487 at_210 (q := 211) rfl ?_
        refine k_nameI (v := (3 : Int32)) (by decide) ?_
        refine k_iloadN K X1487 at_211 rfl (q := 212) rfl ?_
        refine k_bipush K X1487 at_212 (v := (16 : Int32)) rfl (q := 214) rfl ?_
        refine k_ishr K X1487 at_214 (q := 215) rfl ?_
        refine k_i2b K X1487 at_215 (q := 216) rfl ?_
        refine k_bastore K X1487 e1488 at_216 f1491 (i := 3) (by decide) (by decide) (q := 217) rfl ?_
        intro T1496 h1497 X1498 e1499 W1500 A1501
        have f1502 : Ary Z h1497 b1403 .byte 6 (fun i => Value.int (List.getD [(nar .byte v1415), (nar .byte v1415), (nar .byte (i2b ((p2 / (16777216 : Int32)) - d1483))), (nar .byte (i2b (shrI p2 (16 : Int32)))), (nar .byte v1415), (nar .byte v1415)] i 0)) := Ary.eqv A1501 (fun i _ => setD Value.int [(nar .byte v1415), (nar .byte v1415), (nar .byte (i2b ((p2 / (16777216 : Int32)) - d1483))), (nar .byte v1415), (nar .byte v1415), (nar .byte v1415)] 3 (nar .byte (i2b (shrI p2 (16 : Int32)))) 0 (Nat.le_of_ble_eq_true rfl) i)
        have f1503 := Exa.wr W1500 f1492
        have N1504 := Fr.snoc X1498 N1493 ge1410
        have K1505 := Keep.wr K1494 W1500 (Or.inr bn1411)
        have Z1506 := Nat.le_trans Z1495 (Nat.le_of_eq (Wr.size W1500).symm)
        refine k_aload K X1498 at_217 rfl rfl (q := 219) rfl ?_
        refine k_iload K X1498 at_219 rfl (q := 221) rfl ?_
        refine k_iconst K X1498 at_221 (v := (2 : Int32)) rfl (q := 222) rfl ?_
        refine k_iadd K X1498 at_222 (q := 223) rfl ?_
        refine k_nameI (v := (4 : Int32)) (by decide) ?_
        refine k_iloadN K X1498 at_223 rfl (q := 224) rfl ?_
        refine k_bipush K X1498 at_224 (v := (8 : Int32)) rfl (q := 226) rfl ?_
        refine k_ishr K X1498 at_226 (q := 227) rfl ?_
        refine k_i2b K X1498 at_227 (q := 228) rfl ?_
        refine k_bastore K X1498 e1499 at_228 f1502 (i := 4) (by decide) (by decide) (q := 229) rfl ?_
        intro T1507 h1508 X1509 e1510 W1511 A1512
        have f1513 : Ary Z h1508 b1403 .byte 6 (fun i => Value.int (List.getD [(nar .byte v1415), (nar .byte v1415), (nar .byte (i2b ((p2 / (16777216 : Int32)) - d1483))), (nar .byte (i2b (shrI p2 (16 : Int32)))), (nar .byte (i2b (shrI p2 (8 : Int32)))), (nar .byte v1415)] i 0)) := Ary.eqv A1512 (fun i _ => setD Value.int [(nar .byte v1415), (nar .byte v1415), (nar .byte (i2b ((p2 / (16777216 : Int32)) - d1483))), (nar .byte (i2b (shrI p2 (16 : Int32)))), (nar .byte v1415), (nar .byte v1415)] 4 (nar .byte (i2b (shrI p2 (8 : Int32)))) 0 (Nat.le_of_ble_eq_true rfl) i)
        have f1514 := Exa.wr W1511 f1503
        have N1515 := Fr.snoc X1509 N1504 ge1410
        have K1516 := Keep.wr K1505 W1511 (Or.inr bn1411)
        have Z1517 := Nat.le_trans Z1506 (Nat.le_of_eq (Wr.size W1511).symm)
        refine k_aload K X1509 at_229 rfl rfl (q := 231) rfl ?_
        refine k_iload K X1509 at_231 rfl (q := 233) rfl ?_
        refine k_iconst K X1509 at_233 (v := (3 : Int32)) rfl (q := 234) rfl ?_
        refine k_iadd K X1509 at_234 (q := 235) rfl ?_
        refine k_nameI (v := (5 : Int32)) (by decide) ?_
        refine k_iloadN K X1509 at_235 rfl (q := 236) rfl ?_
        refine k_i2b K X1509 at_236 (q := 237) rfl ?_
        refine k_bastore K X1509 e1510 at_237 f1513 (i := 5) (by decide) (by decide) (q := 238) rfl ?_
        intro T1518 h1519 X1520 e1521 W1522 A1523
        have f1524 : Ary Z h1519 b1403 .byte 6 (fun i => Value.int (List.getD [(nar .byte v1415), (nar .byte v1415), (nar .byte (i2b ((p2 / (16777216 : Int32)) - d1483))), (nar .byte (i2b (shrI p2 (16 : Int32)))), (nar .byte (i2b (shrI p2 (8 : Int32)))), (nar .byte (i2b p2))] i 0)) := Ary.eqv A1523 (fun i _ => setD Value.int [(nar .byte v1415), (nar .byte v1415), (nar .byte (i2b ((p2 / (16777216 : Int32)) - d1483))), (nar .byte (i2b (shrI p2 (16 : Int32)))), (nar .byte (i2b (shrI p2 (8 : Int32)))), (nar .byte v1415)] 5 (nar .byte (i2b p2)) 0 (Nat.le_of_ble_eq_true rfl) i)
        have f1525 := Exa.wr W1522 f1514
        have N1526 := Fr.snoc X1520 N1515 ge1410
        have K1527 := Keep.wr K1516 W1522 (Or.inr bn1411)
        have Z1528 := Nat.le_trans Z1517 (Nat.le_of_eq (Wr.size W1522).symm)
        refine k_aload K X1520 at_238 rfl rfl (q := 240) rfl ?_
        refine k_iload K X1520 at_240 rfl (q := 242) rfl ?_
        refine k_staticP K X1520 e1521 at_242 (wd hw 21 rfl) (wd hw 22 rfl) (wd hw 4 rfl) (wd hw 23 rfl) (by decide) (rm5_6_2 l Z az hw [] b1403 (nar .byte v1415) (nar .byte v1415) (nar .byte (i2b ((p2 / (16777216 : Int32)) - d1483))) (nar .byte (i2b (shrI p2 (16 : Int32)))) (nar .byte (i2b (shrI p2 (8 : Int32)))) (nar .byte (i2b p2)) h1519 f1524) (W := 0) (by decide) (by decide) (by decide) (by decide) rfl pd_4 (argsL := [(.ref b1403), (.int (2 : Int32))]) (rest := []) rfl rfl rfl (Nat.le_of_eq rfl) (q := 245) rfl ?_
        intro T1529 X1530 e1531
        refine k_iloadN K X1530 at_245 rfl (q := 246) rfl ?_
        have J1535 : ∀ (d1534 : Int32), (M0_1533 v1415 p2 d1483) = d1534 → Run p e below s kc kn Q T1529 (mkF m 254 #[.val (.int p0), .val (.int p1), .val (.int p2), .val (.int p3), s1096, s1097, s1098, .val (.int d1100), .val (.int (2 : Int32)), .val (.ref b1403), .val (.int v1415), .unset] [(.int d1534)]) := by
          intro d1534 hv_d1534
          refine k_istore K X1530 at_254 rfl (Ls' := #[.val (.int p0), .val (.int p1), .val (.int p2), .val (.int p3), s1096, s1097, s1098, .val (.int d1100), .val (.int (2 : Int32)), .val (.ref b1403), .val (.int v1415), .val (.int d1534)]) rfl (q := 256) rfl ?_
          refine k_iload K X1530 at_256 rfl (q := 258) rfl ?_
          have J1539 : ∀ (d1538 : Int32), (if d1100 = (0 : Int32) then (0 : Int32) else (if d1534 = (0 : Int32) then (0 : Int32) else (1 : Int32))) = d1538 → Run p e below s kc kn Q T1529 (mkF m 271 #[.val (.int p0), .val (.int p1), .val (.int p2), .val (.int p3), s1096, s1097, s1098, .val (.int d1100), .val (.int (2 : Int32)), .val (.ref b1403), .val (.int v1415), .val (.int d1534)] [(.int d1538)]) := by
            intro d1538 hv_d1538
            exact k_retz K X1530 e1531 at_271 (Nat.le_trans (by decide) hkc) (Nat.le_trans (by decide) hkn) (hQ _ _ _ ⟨(by show some (Value.int (nar .boolean d1538)) = some (Value.int (F_law p0 p1 p2 p3)); first | (simp only [F_law, hv_v665, hv_d1100, hv_v1110, hv_v1111, hv_v1415, hv_d1483, hv_d1534, hv_d1538, if_neg hs1112, if_neg hs1256, if_pos (rfl : (2 : Int32) = (2 : Int32)), if_true]; done) | (subst hv_v665; subst hv_d1100; subst hv_v1110; subst hv_v1415; subst hv_d1483; subst hv_d1534; subst hv_d1538; simp only [F_law, hv_v1111, if_neg hs1112, if_neg hs1256, if_pos (rfl : (2 : Int32) = (2 : Int32)), if_true])), N1526⟩)
          refine k_if_eq K X1530 at_258 (by decide) (q := 270) rfl (q' := 261) rfl ?_ ?_
          · intro hc1540
            refine k_iconst K X1530 at_270 (v := (0 : Int32)) rfl (q := 271) rfl ?_
            exact J1539 _ (by first | (simp only [M0_1099, M0_1245, M0_1389, M0_1533, if_pos hc1540]; done) | rfl)
          · intro hc1540
            refine k_iload K X1530 at_261 rfl (q := 263) rfl ?_
            refine k_if_eq K X1530 at_263 (by decide) (q := 270) rfl (q' := 266) rfl ?_ ?_
            · intro hc1541
              refine k_iconst K X1530 at_270 (v := (0 : Int32)) rfl (q := 271) rfl ?_
              exact J1539 _ (by first | (simp only [M0_1099, M0_1245, M0_1389, M0_1533, if_neg hc1540, if_pos hc1541]; done) | rfl)
            · intro hc1541
              refine k_iconst K X1530 at_266 (v := (1 : Int32)) rfl (q := 267) rfl ?_
              refine k_goto K X1530 at_267 (by decide) (q := 271) rfl ?_
              exact J1539 _ (by first | (simp only [M0_1099, M0_1245, M0_1389, M0_1533, if_neg hc1540, if_neg hc1541]; done) | rfl)
        refine k_icmp_ne K X1530 at_246 (by decide) (q := 253) rfl (q' := 249) rfl ?_ ?_
        · intro hc1542
          refine k_iconst K X1530 at_253 (v := (0 : Int32)) rfl (q := 254) rfl ?_
          exact J1535 _ (by first | (simp only [M0_1099, M0_1245, M0_1389, M0_1533, if_neg hc1542]; done) | rfl)
        · intro hc1542
          refine k_iconst K X1530 at_249 (v := (1 : Int32)) rfl (q := 250) rfl ?_
          refine k_goto K X1530 at_250 (by decide) (q := 254) rfl ?_
          exact J1535 _ (by first | (simp only [M0_1099, M0_1245, M0_1389, M0_1533, if_pos hc1542]; done) | rfl)
      refine k_if_ge K X1473 at_194 (by decide) (q := 201) rfl (q' := 197) rfl ?_ ?_
      · intro hc1543
        refine k_iconst K X1473 at_201 (v := (0 : Int32)) rfl (q := 202) rfl ?_
        exact J1484 _ (by first | (simp only [M0_1099, M0_1245, M0_1389, M0_1533, if_neg hc1543]; done) | rfl)
      · intro hc1543
        refine k_iconst K X1473 at_197 (v := (1 : Int32)) rfl (q := 198) rfl ?_
        refine k_goto K X1473 at_198 (by decide) (q := 202) rfl ?_
        exact J1484 _ (by first | (simp only [M0_1099, M0_1245, M0_1389, M0_1533, if_pos hc1543]; done) | rfl)
    exact absurd hv_v1111 (own_off _ _ _ hv_v1110 hs1112 hs1256 hs1400)
  by_cases hs1544 : v665 = (0 : Int32)
  · subst hs1544
    refine k_iload K X0 at_5 rfl (q := 7) rfl ?_
    refine k_newarrayE K X0 e0 at_7 (ty := .byte) rfl (ad := "[B") (by decide) (wd hw 0 rfl) (n := 0) (cap := 0) (by decide) (by decide) (by decide) (by decide) (by decide) (q := 9) rfl ?_
    intro T1545 h1546 b1547 X1548 e1549 g1550 E1551 A1552 E1553
    have ge1554 : n0 ≤ b1547 := Nat.le_trans Z0 (Nat.le_of_eq g1550.symm)
    have bn1555 : h0.size ≤ b1547 := Nat.le_trans K0.1 (Nat.le_of_eq g1550.symm)
    have K1556 := Keep.ext K0 E1551
    have Z1557 := Nat.le_trans Z0 E1551.1
    have f1558 : Ary Z h1546 b1547 .byte 0 (fun i => Value.int (List.getD [] i 0)) := Ary.eqv A1552 (by intro i hi; omega)
    refine k_astore K X1548 at_9 rfl (Ls' := #[.val (.int p0), .val (.int p1), .val (.int p2), .val (.int p3), .val (.int (0 : Int32)), .val (.ref b1547), .unset, .unset, .unset, .unset, .unset, .unset]) rfl (q := 11) rfl ?_
    refine k_iload K X1548 at_11 rfl (q := 13) rfl ?_
    refine k_if_le_y K X1548 at_13 (by decide) (by decide) (q := 25) rfl ?_
    refine k_iload K X1548 at_25 rfl (q := 27) rfl ?_
    refine k_iconst K X1548 at_27 (v := (1 : Int32)) rfl (q := 28) rfl ?_
    refine k_icmp_le_y K X1548 at_28 (by decide) (by decide) (q := 40) rfl ?_
    refine k_iload K X1548 at_40 rfl (q := 42) rfl ?_
    refine k_iconst K X1548 at_42 (v := (2 : Int32)) rfl (q := 43) rfl ?_
    refine k_icmp_le_y K X1548 at_43 (by decide) (by decide) (q := 55) rfl ?_
    refine k_aload K X1548 at_55 rfl rfl (q := 57) rfl ?_
    refine k_iconst K X1548 at_57 (v := (2 : Int32)) rfl (q := 58) rfl ?_
    refine k_newarrayE K X1548 e1549 at_58 (ty := .int) rfl (ad := "[I") (by decide) (wd hw 1 rfl) (n := 2) (cap := 2) (by decide) (by decide) (by decide) (by decide) (by decide) (q := 60) rfl ?_
    intro T1559 h1560 b1561 X1562 e1563 g1564 E1565 A1566 E1567
    have ne1568 : b1547 ≠ b1561 := Nat.ne_of_lt (Nat.lt_of_lt_of_eq (E1553).lt g1564.symm)
    have ge1569 : n0 ≤ b1561 := Nat.le_trans Z1557 (Nat.le_of_eq g1564.symm)
    have bn1570 : h0.size ≤ b1561 := Nat.le_trans K1556.1 (Nat.le_of_eq g1564.symm)
    have f1571 := Exa.ext E1565 E1553
    have f1572 := Ary.ext f1558 E1565
    have K1573 := Keep.ext K1556 E1565
    have Z1574 := Nat.le_trans Z1557 E1565.1
    have f1575 : Ary Z h1560 b1561 .int 2 (fun i => Value.int (List.getD [(0 : Int32), (0 : Int32)] i 0)) := Ary.eqv A1566 (by intro i hi; match i, hi with | 0, _ => rfl | 1, _ => rfl | (k + 2), hi => exact absurd hi (by omega))
    refine k_dup K X1562 at_60 rfl (q := 61) rfl ?_
    refine k_iconst K X1562 at_61 (v := (0 : Int32)) rfl (q := 62) rfl ?_
    refine k_iloadN K X1562 at_62 rfl (q := 63) rfl ?_
    refine k_iastore K X1562 e1563 at_63 f1575 (i := 0) (by decide) (by decide) (q := 64) rfl ?_
    intro T1576 h1577 X1578 e1579 W1580 A1581
    have f1582 : Ary Z h1577 b1561 .int 2 (fun i => Value.int (List.getD [p0, (0 : Int32)] i 0)) := Ary.eqv A1581 (fun i _ => setD Value.int [(0 : Int32), (0 : Int32)] 0 p0 0 (Nat.le_of_ble_eq_true rfl) i)
    have f1583 := Exa.wr W1580 f1571
    have f1584 := Ary.other f1572 W1580 ne1568
    have f1585 := Exa.wr W1580 E1567
    have N1586 := Fr.snoc X1578 N0 ge1569
    have K1587 := Keep.wr K1573 W1580 (Or.inr bn1570)
    have Z1588 := Nat.le_trans Z1574 (Nat.le_of_eq (Wr.size W1580).symm)
    refine k_dup K X1578 at_64 rfl (q := 65) rfl ?_
    refine k_iconst K X1578 at_65 (v := (1 : Int32)) rfl (q := 66) rfl ?_
    refine k_iloadN K X1578 at_66 rfl (q := 67) rfl ?_
    refine k_iastore K X1578 e1579 at_67 f1582 (i := 1) (by decide) (by decide) (q := 68) rfl ?_
    intro T1589 h1590 X1591 e1592 W1593 A1594
    have f1595 : Ary Z h1590 b1561 .int 2 (fun i => Value.int (List.getD [p0, p1] i 0)) := Ary.eqv A1594 (fun i _ => setD Value.int [p0, (0 : Int32)] 1 p1 0 (Nat.le_of_ble_eq_true rfl) i)
    have f1596 := Exa.wr W1593 f1583
    have f1597 := Ary.other f1584 W1593 ne1568
    have f1598 := Exa.wr W1593 f1585
    have N1599 := Fr.snoc X1591 N1586 ge1569
    have K1600 := Keep.wr K1587 W1593 (Or.inr bn1570)
    have Z1601 := Nat.le_trans Z1588 (Nat.le_of_eq (Wr.size W1593).symm)
    refine k_static K X1591 e1592 at_68 (wd hw 2 rfl) (wd hw 3 rfl) (wd hw 4 rfl) (wd hw 5 rfl) (by decide) (rm1_0 l Z az hw [] b1547 b1561 p0 p1 h1590 n0 Z1601 f1597 f1595) (W := 0) (by decide) (by decide) (by decide) (by decide) rfl pd_3 (argsL := [(.ref b1547), (.ref b1561)]) (rest := []) rfl rfl rfl (Nat.le_of_eq rfl) (q := 71) rfl ?_
    rintro _ T1602 L1603 X1604 ⟨b1608, ge1609, bn1610, rfl, N1605, K1606, f1611, f1612⟩
    have ne1613 : b1547 ≠ b1608 := Nat.ne_of_lt (Nat.lt_of_lt_of_le (f1596).lt bn1610)
    have ne1614 : b1561 ≠ b1608 := Nat.ne_of_lt (Nat.lt_of_lt_of_le (f1598).lt bn1610)
    have bn1615 : h0.size ≤ b1608 := Nat.le_trans K1600.1 bn1610
    have f1616 := Exa.keep f1596 K1606
    have f1617 := Ary.keep f1597 K1606 nin0
    have f1618 := Exa.keep f1598 K1606
    have f1619 := Ary.keep f1595 K1606 nin0
    have N1620 := Fr.app N1599 N1605
    have K1621 := Keep.trans K1600 K1606 all0
    have Z1622 := Nat.le_trans Z1601 K1606.1
    refine k_astore K X1604 at_71 rfl (Ls' := #[.val (.int p0), .val (.int p1), .val (.int p2), .val (.int p3), .val (.int (0 : Int32)), .val (.ref b1547), .val (.ref b1608), .unset, .unset, .unset, .unset, .unset]) rfl (q := 73) rfl ?_
    refine k_aload K X1604 at_73 rfl rfl (q := 75) rfl ?_
    refine k_arraylength K X1604 rfl at_75 f1612 (v := (8 : Int32)) rfl (q := 76) rfl ?_
    refine k_iload K X1604 at_76 rfl (q := 78) rfl ?_
    refine k_bipush K X1604 at_78 (v := (8 : Int32)) rfl (q := 80) rfl ?_
    refine k_iadd K X1604 at_80 (q := 81) rfl ?_
    refine k_nameI (v := (8 : Int32)) (by decide) ?_
    refine k_icmp_eq_y K X1604 at_81 (by decide) (by decide) (q := 86) rfl ?_
    refine k_aload K X1604 at_86 rfl rfl (q := 88) rfl ?_
    refine k_iload K X1604 at_88 rfl (q := 90) rfl ?_
    refine k_staticP K X1604 rfl at_90 (wd hw 21 rfl) (wd hw 22 rfl) (wd hw 4 rfl) (wd hw 23 rfl) (by decide) (rm5_8_0 l Z az hw [] b1608 (F_withNumbers_0_new0_0 p0 p1) (F_withNumbers_0_new0_1 p0 p1) (F_withNumbers_0_new0_2 p0 p1) (F_withNumbers_0_new0_3 p0 p1) (F_withNumbers_0_new0_4 p0 p1) (F_withNumbers_0_new0_5 p0 p1) (F_withNumbers_0_new0_6 p0 p1) (F_withNumbers_0_new0_7 p0 p1) T1602.heap f1612) (W := 0) (by decide) (by decide) (by decide) (by decide) rfl pd_4 (argsL := [(.ref b1608), (.int (0 : Int32))]) (rest := []) rfl rfl rfl (Nat.le_of_eq rfl) (q := 93) rfl ?_
    intro T1623 X1624 e1625
    refine k_iloadN K X1624 at_93 rfl (q := 94) rfl ?_
    have J1633 : ∀ (T1634 : State) (Lc1637 : List Loc) (d1632 : Int32), Stand p l e room_1 s m #[(.int p0), (.int p1), (.int p2), (.int p3)] below meth c T1634 Lc1637 3 10 → Fr n0 Lc1637 → T1634.heap = T1602.heap → (M0_1631 p0 p1) = d1632 → Run p e below s kc kn Q T1634 (mkF m 115 #[.val (.int p0), .val (.int p1), .val (.int p2), .val (.int p3), .val (.int (0 : Int32)), .val (.ref b1547), .val (.ref b1608), .unset, .unset, .unset, .unset, .unset] [(.int d1632)]) := by
      intro T1634 Lc1637 d1632 X1635 N1638 e1636 hv_d1632
      refine k_istore K X1635 at_115 rfl (Ls' := #[.val (.int p0), .val (.int p1), .val (.int p2), .val (.int p3), .val (.int (0 : Int32)), .val (.ref b1547), .val (.ref b1608), .val (.int d1632), .unset, .unset, .unset, .unset]) rfl (q := 117) rfl ?_
      exact J1101 T1634 _ _ _ _ _ _ (Stand.up X1635 (by decide) (by decide)) N1638 e1636 K1621 Z1622 (by first | exact Or.inl rfl | exact Or.inr ⟨_, rfl, rfl⟩ | assumption) (by first | exact Or.inl rfl | exact Or.inr ⟨_, rfl, rfl⟩ | assumption) (by first | exact Or.inl rfl | exact Or.inr ⟨_, rfl, rfl⟩ | assumption) (by subst hv_d1632; first | (simp only [M0_1099, M0_1245, M0_1389, M0_1533, M0_1631, hv_v665, if_pos (rfl : (0 : Int32) = (0 : Int32)), if_true]; done) | rfl)
    refine k_icmp_ne K X1624 at_94 (by decide) (q := 114) rfl (q' := 97) rfl ?_ ?_
    · intro hc1639
      refine k_iconst K X1624 at_114 (v := (0 : Int32)) rfl (q := 115) rfl ?_
      exact J1633 T1623 _ _ X1624 N1620 e1625 (by first | (simp only [M0_1099, M0_1245, M0_1389, M0_1533, M0_1631, if_neg hc1639]; done) | rfl)
    · intro hc1639
      refine k_aload K X1624 at_97 rfl rfl (q := 99) rfl ?_
      refine k_iload K X1624 at_99 rfl (q := 101) rfl ?_
      refine k_iconst K X1624 at_101 (v := (4 : Int32)) rfl (q := 102) rfl ?_
      refine k_iadd K X1624 at_102 (q := 103) rfl ?_
      refine k_nameI (v := (4 : Int32)) (by decide) ?_
      refine k_staticP K X1624 e1625 at_103 (wd hw 21 rfl) (wd hw 22 rfl) (wd hw 4 rfl) (wd hw 23 rfl) (by decide) (rm5_8_4 l Z az hw [] b1608 (F_withNumbers_0_new0_0 p0 p1) (F_withNumbers_0_new0_1 p0 p1) (F_withNumbers_0_new0_2 p0 p1) (F_withNumbers_0_new0_3 p0 p1) (F_withNumbers_0_new0_4 p0 p1) (F_withNumbers_0_new0_5 p0 p1) (F_withNumbers_0_new0_6 p0 p1) (F_withNumbers_0_new0_7 p0 p1) T1602.heap f1612) (W := 0) (by decide) (by decide) (by decide) (by decide) rfl pd_4 (argsL := [(.ref b1608), (.int (4 : Int32))]) (rest := []) rfl rfl rfl (Nat.le_of_eq rfl) (q := 106) rfl ?_
      intro T1640 X1641 e1642
      refine k_iloadN K X1641 at_106 rfl (q := 107) rfl ?_
      refine k_icmp_ne K X1641 at_107 (by decide) (q := 114) rfl (q' := 110) rfl ?_ ?_
      · intro hc1643
        refine k_iconst K X1641 at_114 (v := (0 : Int32)) rfl (q := 115) rfl ?_
        exact J1633 T1640 _ _ X1641 N1620 e1642 (by first | (simp only [M0_1099, M0_1245, M0_1389, M0_1533, M0_1631, if_pos hc1639, if_neg hc1643]; done) | rfl)
      · intro hc1643
        refine k_iconst K X1641 at_110 (v := (1 : Int32)) rfl (q := 111) rfl ?_
        refine k_goto K X1641 at_111 (by decide) (q := 115) rfl ?_
        exact J1633 T1640 _ _ X1641 N1620 e1642 (by first | (simp only [M0_1099, M0_1245, M0_1389, M0_1533, M0_1631, if_pos hc1639, if_pos hc1643]; done) | rfl)
  by_cases hs1644 : v665 = (1 : Int32)
  · subst hs1644
    refine k_iload K X0 at_5 rfl (q := 7) rfl ?_
    refine k_newarrayE K X0 e0 at_7 (ty := .byte) rfl (ad := "[B") (by decide) (wd hw 0 rfl) (n := 1) (cap := 1) (by decide) (by decide) (by decide) (by decide) (by decide) (q := 9) rfl ?_
    intro T1645 h1646 b1647 X1648 e1649 g1650 E1651 A1652 E1653
    have ge1654 : n0 ≤ b1647 := Nat.le_trans Z0 (Nat.le_of_eq g1650.symm)
    have bn1655 : h0.size ≤ b1647 := Nat.le_trans K0.1 (Nat.le_of_eq g1650.symm)
    have K1656 := Keep.ext K0 E1651
    have Z1657 := Nat.le_trans Z0 E1651.1
    have f1658 : Ary Z h1646 b1647 .byte 1 (fun i => Value.int (List.getD [(0 : Int32)] i 0)) := Ary.eqv A1652 (by intro i hi; match i, hi with | 0, _ => rfl | (k + 1), hi => exact absurd hi (by omega))
    refine k_astore K X1648 at_9 rfl (Ls' := #[.val (.int p0), .val (.int p1), .val (.int p2), .val (.int p3), .val (.int (1 : Int32)), .val (.ref b1647), .unset, .unset, .unset, .unset, .unset, .unset]) rfl (q := 11) rfl ?_
    refine k_iload K X1648 at_11 rfl (q := 13) rfl ?_
    refine k_if_le_n K X1648 at_13 (by decide) (q := 16) rfl ?_
    refine k_aload K X1648 at_16 rfl rfl (q := 18) rfl ?_
    refine k_iconst K X1648 at_18 (v := (0 : Int32)) rfl (q := 19) rfl ?_
    refine k_iloadN K X1648 at_19 rfl (q := 20) rfl ?_
    refine k_bipush K X1648 at_20 (v := (8 : Int32)) rfl (q := 22) rfl ?_
    refine k_iushr K X1648 at_22 (q := 23) rfl ?_
    refine k_i2b K X1648 at_23 (q := 24) rfl ?_
    refine k_bastore K X1648 e1649 at_24 f1658 (i := 0) (by decide) (by decide) (q := 25) rfl ?_
    intro T1659 h1660 X1661 e1662 W1663 A1664
    have f1665 : Ary Z h1660 b1647 .byte 1 (fun i => Value.int (List.getD [(nar .byte (i2b (ushrI p3 (8 : Int32))))] i 0)) := Ary.eqv A1664 (fun i _ => setD Value.int [(0 : Int32)] 0 (nar .byte (i2b (ushrI p3 (8 : Int32)))) 0 (Nat.le_of_ble_eq_true rfl) i)
    have f1666 := Exa.wr W1663 E1653
    have N1667 := Fr.snoc X1661 N0 ge1654
    have K1668 := Keep.wr K1656 W1663 (Or.inr bn1655)
    have Z1669 := Nat.le_trans Z1657 (Nat.le_of_eq (Wr.size W1663).symm)
    refine k_iload K X1661 at_25 rfl (q := 27) rfl ?_
    refine k_iconst K X1661 at_27 (v := (1 : Int32)) rfl (q := 28) rfl ?_
    refine k_icmp_le_y K X1661 at_28 (by decide) (by decide) (q := 40) rfl ?_
    refine k_iload K X1661 at_40 rfl (q := 42) rfl ?_
    refine k_iconst K X1661 at_42 (v := (2 : Int32)) rfl (q := 43) rfl ?_
    refine k_icmp_le_y K X1661 at_43 (by decide) (by decide) (q := 55) rfl ?_
    refine k_aload K X1661 at_55 rfl rfl (q := 57) rfl ?_
    refine k_iconst K X1661 at_57 (v := (2 : Int32)) rfl (q := 58) rfl ?_
    refine k_newarrayE K X1661 e1662 at_58 (ty := .int) rfl (ad := "[I") (by decide) (wd hw 1 rfl) (n := 2) (cap := 2) (by decide) (by decide) (by decide) (by decide) (by decide) (q := 60) rfl ?_
    intro T1670 h1671 b1672 X1673 e1674 g1675 E1676 A1677 E1678
    have ne1679 : b1647 ≠ b1672 := Nat.ne_of_lt (Nat.lt_of_lt_of_eq (f1666).lt g1675.symm)
    have ge1680 : n0 ≤ b1672 := Nat.le_trans Z1669 (Nat.le_of_eq g1675.symm)
    have bn1681 : h0.size ≤ b1672 := Nat.le_trans K1668.1 (Nat.le_of_eq g1675.symm)
    have f1682 := Exa.ext E1676 f1666
    have f1683 := Ary.ext f1665 E1676
    have K1684 := Keep.ext K1668 E1676
    have Z1685 := Nat.le_trans Z1669 E1676.1
    have f1686 : Ary Z h1671 b1672 .int 2 (fun i => Value.int (List.getD [(0 : Int32), (0 : Int32)] i 0)) := Ary.eqv A1677 (by intro i hi; match i, hi with | 0, _ => rfl | 1, _ => rfl | (k + 2), hi => exact absurd hi (by omega))
    refine k_dup K X1673 at_60 rfl (q := 61) rfl ?_
    refine k_iconst K X1673 at_61 (v := (0 : Int32)) rfl (q := 62) rfl ?_
    refine k_iloadN K X1673 at_62 rfl (q := 63) rfl ?_
    refine k_iastore K X1673 e1674 at_63 f1686 (i := 0) (by decide) (by decide) (q := 64) rfl ?_
    intro T1687 h1688 X1689 e1690 W1691 A1692
    have f1693 : Ary Z h1688 b1672 .int 2 (fun i => Value.int (List.getD [p0, (0 : Int32)] i 0)) := Ary.eqv A1692 (fun i _ => setD Value.int [(0 : Int32), (0 : Int32)] 0 p0 0 (Nat.le_of_ble_eq_true rfl) i)
    have f1694 := Exa.wr W1691 f1682
    have f1695 := Ary.other f1683 W1691 ne1679
    have f1696 := Exa.wr W1691 E1678
    have N1697 := Fr.snoc X1689 N1667 ge1680
    have K1698 := Keep.wr K1684 W1691 (Or.inr bn1681)
    have Z1699 := Nat.le_trans Z1685 (Nat.le_of_eq (Wr.size W1691).symm)
    refine k_dup K X1689 at_64 rfl (q := 65) rfl ?_
    refine k_iconst K X1689 at_65 (v := (1 : Int32)) rfl (q := 66) rfl ?_
    refine k_iloadN K X1689 at_66 rfl (q := 67) rfl ?_
    refine k_iastore K X1689 e1690 at_67 f1693 (i := 1) (by decide) (by decide) (q := 68) rfl ?_
    intro T1700 h1701 X1702 e1703 W1704 A1705
    have f1706 : Ary Z h1701 b1672 .int 2 (fun i => Value.int (List.getD [p0, p1] i 0)) := Ary.eqv A1705 (fun i _ => setD Value.int [p0, (0 : Int32)] 1 p1 0 (Nat.le_of_ble_eq_true rfl) i)
    have f1707 := Exa.wr W1704 f1694
    have f1708 := Ary.other f1695 W1704 ne1679
    have f1709 := Exa.wr W1704 f1696
    have N1710 := Fr.snoc X1702 N1697 ge1680
    have K1711 := Keep.wr K1698 W1704 (Or.inr bn1681)
    have Z1712 := Nat.le_trans Z1699 (Nat.le_of_eq (Wr.size W1704).symm)
    refine k_static K X1702 e1703 at_68 (wd hw 2 rfl) (wd hw 3 rfl) (wd hw 4 rfl) (wd hw 5 rfl) (by decide) (rm1_1 l Z az hw [] b1647 b1672 (nar .byte (i2b (ushrI p3 (8 : Int32)))) p0 p1 h1701 n0 Z1712 f1708 f1706) (W := 0) (by decide) (by decide) (by decide) (by decide) rfl pd_3 (argsL := [(.ref b1647), (.ref b1672)]) (rest := []) rfl rfl rfl (Nat.le_of_eq rfl) (q := 71) rfl ?_
    rintro _ T1713 L1714 X1715 ⟨b1719, ge1720, bn1721, rfl, N1716, K1717, f1722, f1723⟩
    have ne1724 : b1647 ≠ b1719 := Nat.ne_of_lt (Nat.lt_of_lt_of_le (f1707).lt bn1721)
    have ne1725 : b1672 ≠ b1719 := Nat.ne_of_lt (Nat.lt_of_lt_of_le (f1709).lt bn1721)
    have bn1726 : h0.size ≤ b1719 := Nat.le_trans K1711.1 bn1721
    have f1727 := Exa.keep f1707 K1717
    have f1728 := Ary.keep f1708 K1717 nin0
    have f1729 := Exa.keep f1709 K1717
    have f1730 := Ary.keep f1706 K1717 nin0
    have N1731 := Fr.app N1710 N1716
    have K1732 := Keep.trans K1711 K1717 all0
    have Z1733 := Nat.le_trans Z1712 K1717.1
    refine k_astore K X1715 at_71 rfl (Ls' := #[.val (.int p0), .val (.int p1), .val (.int p2), .val (.int p3), .val (.int (1 : Int32)), .val (.ref b1647), .val (.ref b1719), .unset, .unset, .unset, .unset, .unset]) rfl (q := 73) rfl ?_
    refine k_aload K X1715 at_73 rfl rfl (q := 75) rfl ?_
    refine k_arraylength K X1715 rfl at_75 f1723 (v := (9 : Int32)) rfl (q := 76) rfl ?_
    refine k_iload K X1715 at_76 rfl (q := 78) rfl ?_
    refine k_bipush K X1715 at_78 (v := (8 : Int32)) rfl (q := 80) rfl ?_
    refine k_iadd K X1715 at_80 (q := 81) rfl ?_
    refine k_nameI (v := (9 : Int32)) (by decide) ?_
    refine k_icmp_eq_y K X1715 at_81 (by decide) (by decide) (q := 86) rfl ?_
    refine k_aload K X1715 at_86 rfl rfl (q := 88) rfl ?_
    refine k_iload K X1715 at_88 rfl (q := 90) rfl ?_
    refine k_staticP K X1715 rfl at_90 (wd hw 21 rfl) (wd hw 22 rfl) (wd hw 4 rfl) (wd hw 23 rfl) (by decide) (rm5_9_1 l Z az hw [] b1719 (F_withNumbers_1_new0_0 (nar .byte (i2b (ushrI p3 (8 : Int32)))) p0 p1) (F_withNumbers_1_new0_1 (nar .byte (i2b (ushrI p3 (8 : Int32)))) p0 p1) (F_withNumbers_1_new0_2 (nar .byte (i2b (ushrI p3 (8 : Int32)))) p0 p1) (F_withNumbers_1_new0_3 (nar .byte (i2b (ushrI p3 (8 : Int32)))) p0 p1) (F_withNumbers_1_new0_4 (nar .byte (i2b (ushrI p3 (8 : Int32)))) p0 p1) (F_withNumbers_1_new0_5 (nar .byte (i2b (ushrI p3 (8 : Int32)))) p0 p1) (F_withNumbers_1_new0_6 (nar .byte (i2b (ushrI p3 (8 : Int32)))) p0 p1) (F_withNumbers_1_new0_7 (nar .byte (i2b (ushrI p3 (8 : Int32)))) p0 p1) (F_withNumbers_1_new0_8 (nar .byte (i2b (ushrI p3 (8 : Int32)))) p0 p1) T1713.heap f1723) (W := 0) (by decide) (by decide) (by decide) (by decide) rfl pd_4 (argsL := [(.ref b1719), (.int (1 : Int32))]) (rest := []) rfl rfl rfl (Nat.le_of_eq rfl) (q := 93) rfl ?_
    intro T1734 X1735 e1736
    refine k_iloadN K X1735 at_93 rfl (q := 94) rfl ?_
    have J1744 : ∀ (T1745 : State) (Lc1748 : List Loc) (d1743 : Int32), Stand p l e room_1 s m #[(.int p0), (.int p1), (.int p2), (.int p3)] below meth c T1745 Lc1748 3 12 → Fr n0 Lc1748 → T1745.heap = T1713.heap → (M0_1742 p3 p0 p1) = d1743 → Run p e below s kc kn Q T1745 (mkF m 115 #[.val (.int p0), .val (.int p1), .val (.int p2), .val (.int p3), .val (.int (1 : Int32)), .val (.ref b1647), .val (.ref b1719), .unset, .unset, .unset, .unset, .unset] [(.int d1743)]) := by
      intro T1745 Lc1748 d1743 X1746 N1749 e1747 hv_d1743
      refine k_istore K X1746 at_115 rfl (Ls' := #[.val (.int p0), .val (.int p1), .val (.int p2), .val (.int p3), .val (.int (1 : Int32)), .val (.ref b1647), .val (.ref b1719), .val (.int d1743), .unset, .unset, .unset, .unset]) rfl (q := 117) rfl ?_
      exact J1101 T1745 _ _ _ _ _ _ (Stand.up X1746 (by decide) (by decide)) N1749 e1747 K1732 Z1733 (by first | exact Or.inl rfl | exact Or.inr ⟨_, rfl, rfl⟩ | assumption) (by first | exact Or.inl rfl | exact Or.inr ⟨_, rfl, rfl⟩ | assumption) (by first | exact Or.inl rfl | exact Or.inr ⟨_, rfl, rfl⟩ | assumption) (by subst hv_d1743; first | (simp only [M0_1099, M0_1245, M0_1389, M0_1533, M0_1631, M0_1742, hv_v665, if_neg hs1544, if_pos (rfl : (1 : Int32) = (1 : Int32)), if_true]; done) | rfl)
    refine k_icmp_ne K X1735 at_94 (by decide) (q := 114) rfl (q' := 97) rfl ?_ ?_
    · intro hc1750
      refine k_iconst K X1735 at_114 (v := (0 : Int32)) rfl (q := 115) rfl ?_
      exact J1744 T1734 _ _ X1735 N1731 e1736 (by first | (simp only [M0_1099, M0_1245, M0_1389, M0_1533, M0_1631, M0_1742, if_neg hc1750]; done) | rfl)
    · intro hc1750
      refine k_aload K X1735 at_97 rfl rfl (q := 99) rfl ?_
      refine k_iload K X1735 at_99 rfl (q := 101) rfl ?_
      refine k_iconst K X1735 at_101 (v := (4 : Int32)) rfl (q := 102) rfl ?_
      refine k_iadd K X1735 at_102 (q := 103) rfl ?_
      refine k_nameI (v := (5 : Int32)) (by decide) ?_
      refine k_staticP K X1735 e1736 at_103 (wd hw 21 rfl) (wd hw 22 rfl) (wd hw 4 rfl) (wd hw 23 rfl) (by decide) (rm5_9_5 l Z az hw [] b1719 (F_withNumbers_1_new0_0 (nar .byte (i2b (ushrI p3 (8 : Int32)))) p0 p1) (F_withNumbers_1_new0_1 (nar .byte (i2b (ushrI p3 (8 : Int32)))) p0 p1) (F_withNumbers_1_new0_2 (nar .byte (i2b (ushrI p3 (8 : Int32)))) p0 p1) (F_withNumbers_1_new0_3 (nar .byte (i2b (ushrI p3 (8 : Int32)))) p0 p1) (F_withNumbers_1_new0_4 (nar .byte (i2b (ushrI p3 (8 : Int32)))) p0 p1) (F_withNumbers_1_new0_5 (nar .byte (i2b (ushrI p3 (8 : Int32)))) p0 p1) (F_withNumbers_1_new0_6 (nar .byte (i2b (ushrI p3 (8 : Int32)))) p0 p1) (F_withNumbers_1_new0_7 (nar .byte (i2b (ushrI p3 (8 : Int32)))) p0 p1) (F_withNumbers_1_new0_8 (nar .byte (i2b (ushrI p3 (8 : Int32)))) p0 p1) T1713.heap f1723) (W := 0) (by decide) (by decide) (by decide) (by decide) rfl pd_4 (argsL := [(.ref b1719), (.int (5 : Int32))]) (rest := []) rfl rfl rfl (Nat.le_of_eq rfl) (q := 106) rfl ?_
      intro T1751 X1752 e1753
      refine k_iloadN K X1752 at_106 rfl (q := 107) rfl ?_
      refine k_icmp_ne K X1752 at_107 (by decide) (q := 114) rfl (q' := 110) rfl ?_ ?_
      · intro hc1754
        refine k_iconst K X1752 at_114 (v := (0 : Int32)) rfl (q := 115) rfl ?_
        exact J1744 T1751 _ _ X1752 N1731 e1753 (by first | (simp only [M0_1099, M0_1245, M0_1389, M0_1533, M0_1631, M0_1742, if_pos hc1750, if_neg hc1754]; done) | rfl)
      · intro hc1754
        refine k_iconst K X1752 at_110 (v := (1 : Int32)) rfl (q := 111) rfl ?_
        refine k_goto K X1752 at_111 (by decide) (q := 115) rfl ?_
        exact J1744 T1751 _ _ X1752 N1731 e1753 (by first | (simp only [M0_1099, M0_1245, M0_1389, M0_1533, M0_1631, M0_1742, if_pos hc1750, if_pos hc1754]; done) | rfl)
  by_cases hs1755 : v665 = (2 : Int32)
  · subst hs1755
    refine k_iload K X0 at_5 rfl (q := 7) rfl ?_
    refine k_newarrayE K X0 e0 at_7 (ty := .byte) rfl (ad := "[B") (by decide) (wd hw 0 rfl) (n := 2) (cap := 2) (by decide) (by decide) (by decide) (by decide) (by decide) (q := 9) rfl ?_
    intro T1756 h1757 b1758 X1759 e1760 g1761 E1762 A1763 E1764
    have ge1765 : n0 ≤ b1758 := Nat.le_trans Z0 (Nat.le_of_eq g1761.symm)
    have bn1766 : h0.size ≤ b1758 := Nat.le_trans K0.1 (Nat.le_of_eq g1761.symm)
    have K1767 := Keep.ext K0 E1762
    have Z1768 := Nat.le_trans Z0 E1762.1
    have f1769 : Ary Z h1757 b1758 .byte 2 (fun i => Value.int (List.getD [(0 : Int32), (0 : Int32)] i 0)) := Ary.eqv A1763 (by intro i hi; match i, hi with | 0, _ => rfl | 1, _ => rfl | (k + 2), hi => exact absurd hi (by omega))
    refine k_astore K X1759 at_9 rfl (Ls' := #[.val (.int p0), .val (.int p1), .val (.int p2), .val (.int p3), .val (.int (2 : Int32)), .val (.ref b1758), .unset, .unset, .unset, .unset, .unset, .unset]) rfl (q := 11) rfl ?_
    refine k_iload K X1759 at_11 rfl (q := 13) rfl ?_
    refine k_if_le_n K X1759 at_13 (by decide) (q := 16) rfl ?_
    refine k_aload K X1759 at_16 rfl rfl (q := 18) rfl ?_
    refine k_iconst K X1759 at_18 (v := (0 : Int32)) rfl (q := 19) rfl ?_
    refine k_iloadN K X1759 at_19 rfl (q := 20) rfl ?_
    refine k_bipush K X1759 at_20 (v := (8 : Int32)) rfl (q := 22) rfl ?_
    refine k_iushr K X1759 at_22 (q := 23) rfl ?_
    refine k_i2b K X1759 at_23 (q := 24) rfl ?_
    refine k_bastore K X1759 e1760 at_24 f1769 (i := 0) (by decide) (by decide) (q := 25) rfl ?_
    intro T1770 h1771 X1772 e1773 W1774 A1775
    have f1776 : Ary Z h1771 b1758 .byte 2 (fun i => Value.int (List.getD [(nar .byte (i2b (ushrI p3 (8 : Int32)))), (0 : Int32)] i 0)) := Ary.eqv A1775 (fun i _ => setD Value.int [(0 : Int32), (0 : Int32)] 0 (nar .byte (i2b (ushrI p3 (8 : Int32)))) 0 (Nat.le_of_ble_eq_true rfl) i)
    have f1777 := Exa.wr W1774 E1764
    have N1778 := Fr.snoc X1772 N0 ge1765
    have K1779 := Keep.wr K1767 W1774 (Or.inr bn1766)
    have Z1780 := Nat.le_trans Z1768 (Nat.le_of_eq (Wr.size W1774).symm)
    refine k_iload K X1772 at_25 rfl (q := 27) rfl ?_
    refine k_iconst K X1772 at_27 (v := (1 : Int32)) rfl (q := 28) rfl ?_
    refine k_icmp_le_n K X1772 at_28 (by decide) (q := 31) rfl ?_
    refine k_aload K X1772 at_31 rfl rfl (q := 33) rfl ?_
    refine k_iconst K X1772 at_33 (v := (1 : Int32)) rfl (q := 34) rfl ?_
    refine k_iloadN K X1772 at_34 rfl (q := 35) rfl ?_
    refine k_bipush K X1772 at_35 (v := (16 : Int32)) rfl (q := 37) rfl ?_
    refine k_iushr K X1772 at_37 (q := 38) rfl ?_
    refine k_i2b K X1772 at_38 (q := 39) rfl ?_
    refine k_bastore K X1772 e1773 at_39 f1776 (i := 1) (by decide) (by decide) (q := 40) rfl ?_
    intro T1781 h1782 X1783 e1784 W1785 A1786
    have f1787 : Ary Z h1782 b1758 .byte 2 (fun i => Value.int (List.getD [(nar .byte (i2b (ushrI p3 (8 : Int32)))), (nar .byte (i2b (ushrI p3 (16 : Int32))))] i 0)) := Ary.eqv A1786 (fun i _ => setD Value.int [(nar .byte (i2b (ushrI p3 (8 : Int32)))), (0 : Int32)] 1 (nar .byte (i2b (ushrI p3 (16 : Int32)))) 0 (Nat.le_of_ble_eq_true rfl) i)
    have f1788 := Exa.wr W1785 f1777
    have N1789 := Fr.snoc X1783 N1778 ge1765
    have K1790 := Keep.wr K1779 W1785 (Or.inr bn1766)
    have Z1791 := Nat.le_trans Z1780 (Nat.le_of_eq (Wr.size W1785).symm)
    refine k_iload K X1783 at_40 rfl (q := 42) rfl ?_
    refine k_iconst K X1783 at_42 (v := (2 : Int32)) rfl (q := 43) rfl ?_
    refine k_icmp_le_y K X1783 at_43 (by decide) (by decide) (q := 55) rfl ?_
    refine k_aload K X1783 at_55 rfl rfl (q := 57) rfl ?_
    refine k_iconst K X1783 at_57 (v := (2 : Int32)) rfl (q := 58) rfl ?_
    refine k_newarrayE K X1783 e1784 at_58 (ty := .int) rfl (ad := "[I") (by decide) (wd hw 1 rfl) (n := 2) (cap := 2) (by decide) (by decide) (by decide) (by decide) (by decide) (q := 60) rfl ?_
    intro T1792 h1793 b1794 X1795 e1796 g1797 E1798 A1799 E1800
    have ne1801 : b1758 ≠ b1794 := Nat.ne_of_lt (Nat.lt_of_lt_of_eq (f1788).lt g1797.symm)
    have ge1802 : n0 ≤ b1794 := Nat.le_trans Z1791 (Nat.le_of_eq g1797.symm)
    have bn1803 : h0.size ≤ b1794 := Nat.le_trans K1790.1 (Nat.le_of_eq g1797.symm)
    have f1804 := Exa.ext E1798 f1788
    have f1805 := Ary.ext f1787 E1798
    have K1806 := Keep.ext K1790 E1798
    have Z1807 := Nat.le_trans Z1791 E1798.1
    have f1808 : Ary Z h1793 b1794 .int 2 (fun i => Value.int (List.getD [(0 : Int32), (0 : Int32)] i 0)) := Ary.eqv A1799 (by intro i hi; match i, hi with | 0, _ => rfl | 1, _ => rfl | (k + 2), hi => exact absurd hi (by omega))
    refine k_dup K X1795 at_60 rfl (q := 61) rfl ?_
    refine k_iconst K X1795 at_61 (v := (0 : Int32)) rfl (q := 62) rfl ?_
    refine k_iloadN K X1795 at_62 rfl (q := 63) rfl ?_
    refine k_iastore K X1795 e1796 at_63 f1808 (i := 0) (by decide) (by decide) (q := 64) rfl ?_
    intro T1809 h1810 X1811 e1812 W1813 A1814
    have f1815 : Ary Z h1810 b1794 .int 2 (fun i => Value.int (List.getD [p0, (0 : Int32)] i 0)) := Ary.eqv A1814 (fun i _ => setD Value.int [(0 : Int32), (0 : Int32)] 0 p0 0 (Nat.le_of_ble_eq_true rfl) i)
    have f1816 := Exa.wr W1813 f1804
    have f1817 := Ary.other f1805 W1813 ne1801
    have f1818 := Exa.wr W1813 E1800
    have N1819 := Fr.snoc X1811 N1789 ge1802
    have K1820 := Keep.wr K1806 W1813 (Or.inr bn1803)
    have Z1821 := Nat.le_trans Z1807 (Nat.le_of_eq (Wr.size W1813).symm)
    refine k_dup K X1811 at_64 rfl (q := 65) rfl ?_
    refine k_iconst K X1811 at_65 (v := (1 : Int32)) rfl (q := 66) rfl ?_
    refine k_iloadN K X1811 at_66 rfl (q := 67) rfl ?_
    refine k_iastore K X1811 e1812 at_67 f1815 (i := 1) (by decide) (by decide) (q := 68) rfl ?_
    intro T1822 h1823 X1824 e1825 W1826 A1827
    have f1828 : Ary Z h1823 b1794 .int 2 (fun i => Value.int (List.getD [p0, p1] i 0)) := Ary.eqv A1827 (fun i _ => setD Value.int [p0, (0 : Int32)] 1 p1 0 (Nat.le_of_ble_eq_true rfl) i)
    have f1829 := Exa.wr W1826 f1816
    have f1830 := Ary.other f1817 W1826 ne1801
    have f1831 := Exa.wr W1826 f1818
    have N1832 := Fr.snoc X1824 N1819 ge1802
    have K1833 := Keep.wr K1820 W1826 (Or.inr bn1803)
    have Z1834 := Nat.le_trans Z1821 (Nat.le_of_eq (Wr.size W1826).symm)
    refine k_static K X1824 e1825 at_68 (wd hw 2 rfl) (wd hw 3 rfl) (wd hw 4 rfl) (wd hw 5 rfl) (by decide) (rm1_2 l Z az hw [] b1758 b1794 (nar .byte (i2b (ushrI p3 (8 : Int32)))) (nar .byte (i2b (ushrI p3 (16 : Int32)))) p0 p1 h1823 n0 Z1834 f1830 f1828) (W := 0) (by decide) (by decide) (by decide) (by decide) rfl pd_3 (argsL := [(.ref b1758), (.ref b1794)]) (rest := []) rfl rfl rfl (Nat.le_of_eq rfl) (q := 71) rfl ?_
    rintro _ T1835 L1836 X1837 ⟨b1841, ge1842, bn1843, rfl, N1838, K1839, f1844, f1845⟩
    have ne1846 : b1758 ≠ b1841 := Nat.ne_of_lt (Nat.lt_of_lt_of_le (f1829).lt bn1843)
    have ne1847 : b1794 ≠ b1841 := Nat.ne_of_lt (Nat.lt_of_lt_of_le (f1831).lt bn1843)
    have bn1848 : h0.size ≤ b1841 := Nat.le_trans K1833.1 bn1843
    have f1849 := Exa.keep f1829 K1839
    have f1850 := Ary.keep f1830 K1839 nin0
    have f1851 := Exa.keep f1831 K1839
    have f1852 := Ary.keep f1828 K1839 nin0
    have N1853 := Fr.app N1832 N1838
    have K1854 := Keep.trans K1833 K1839 all0
    have Z1855 := Nat.le_trans Z1834 K1839.1
    refine k_astore K X1837 at_71 rfl (Ls' := #[.val (.int p0), .val (.int p1), .val (.int p2), .val (.int p3), .val (.int (2 : Int32)), .val (.ref b1758), .val (.ref b1841), .unset, .unset, .unset, .unset, .unset]) rfl (q := 73) rfl ?_
    refine k_aload K X1837 at_73 rfl rfl (q := 75) rfl ?_
    refine k_arraylength K X1837 rfl at_75 f1845 (v := (10 : Int32)) rfl (q := 76) rfl ?_
    refine k_iload K X1837 at_76 rfl (q := 78) rfl ?_
    refine k_bipush K X1837 at_78 (v := (8 : Int32)) rfl (q := 80) rfl ?_
    refine k_iadd K X1837 at_80 (q := 81) rfl ?_
    refine k_nameI (v := (10 : Int32)) (by decide) ?_
    refine k_icmp_eq_y K X1837 at_81 (by decide) (by decide) (q := 86) rfl ?_
    refine k_aload K X1837 at_86 rfl rfl (q := 88) rfl ?_
    refine k_iload K X1837 at_88 rfl (q := 90) rfl ?_
    refine k_staticP K X1837 rfl at_90 (wd hw 21 rfl) (wd hw 22 rfl) (wd hw 4 rfl) (wd hw 23 rfl) (by decide) (rm5_10_2 l Z az hw [] b1841 (F_withNumbers_2_new0_0 (nar .byte (i2b (ushrI p3 (8 : Int32)))) (nar .byte (i2b (ushrI p3 (16 : Int32)))) p0 p1) (F_withNumbers_2_new0_1 (nar .byte (i2b (ushrI p3 (8 : Int32)))) (nar .byte (i2b (ushrI p3 (16 : Int32)))) p0 p1) (F_withNumbers_2_new0_2 (nar .byte (i2b (ushrI p3 (8 : Int32)))) (nar .byte (i2b (ushrI p3 (16 : Int32)))) p0 p1) (F_withNumbers_2_new0_3 (nar .byte (i2b (ushrI p3 (8 : Int32)))) (nar .byte (i2b (ushrI p3 (16 : Int32)))) p0 p1) (F_withNumbers_2_new0_4 (nar .byte (i2b (ushrI p3 (8 : Int32)))) (nar .byte (i2b (ushrI p3 (16 : Int32)))) p0 p1) (F_withNumbers_2_new0_5 (nar .byte (i2b (ushrI p3 (8 : Int32)))) (nar .byte (i2b (ushrI p3 (16 : Int32)))) p0 p1) (F_withNumbers_2_new0_6 (nar .byte (i2b (ushrI p3 (8 : Int32)))) (nar .byte (i2b (ushrI p3 (16 : Int32)))) p0 p1) (F_withNumbers_2_new0_7 (nar .byte (i2b (ushrI p3 (8 : Int32)))) (nar .byte (i2b (ushrI p3 (16 : Int32)))) p0 p1) (F_withNumbers_2_new0_8 (nar .byte (i2b (ushrI p3 (8 : Int32)))) (nar .byte (i2b (ushrI p3 (16 : Int32)))) p0 p1) (F_withNumbers_2_new0_9 (nar .byte (i2b (ushrI p3 (8 : Int32)))) (nar .byte (i2b (ushrI p3 (16 : Int32)))) p0 p1) T1835.heap f1845) (W := 0) (by decide) (by decide) (by decide) (by decide) rfl pd_4 (argsL := [(.ref b1841), (.int (2 : Int32))]) (rest := []) rfl rfl rfl (Nat.le_of_eq rfl) (q := 93) rfl ?_
    intro T1856 X1857 e1858
    refine k_iloadN K X1857 at_93 rfl (q := 94) rfl ?_
    have J1866 : ∀ (T1867 : State) (Lc1870 : List Loc) (d1865 : Int32), Stand p l e room_1 s m #[(.int p0), (.int p1), (.int p2), (.int p3)] below meth c T1867 Lc1870 3 14 → Fr n0 Lc1870 → T1867.heap = T1835.heap → (M0_1864 p3 p0 p1) = d1865 → Run p e below s kc kn Q T1867 (mkF m 115 #[.val (.int p0), .val (.int p1), .val (.int p2), .val (.int p3), .val (.int (2 : Int32)), .val (.ref b1758), .val (.ref b1841), .unset, .unset, .unset, .unset, .unset] [(.int d1865)]) := by
      intro T1867 Lc1870 d1865 X1868 N1871 e1869 hv_d1865
      refine k_istore K X1868 at_115 rfl (Ls' := #[.val (.int p0), .val (.int p1), .val (.int p2), .val (.int p3), .val (.int (2 : Int32)), .val (.ref b1758), .val (.ref b1841), .val (.int d1865), .unset, .unset, .unset, .unset]) rfl (q := 117) rfl ?_
      exact J1101 T1867 _ _ _ _ _ _ (Stand.up X1868 (by decide) (by decide)) N1871 e1869 K1854 Z1855 (by first | exact Or.inl rfl | exact Or.inr ⟨_, rfl, rfl⟩ | assumption) (by first | exact Or.inl rfl | exact Or.inr ⟨_, rfl, rfl⟩ | assumption) (by first | exact Or.inl rfl | exact Or.inr ⟨_, rfl, rfl⟩ | assumption) (by subst hv_d1865; first | (simp only [M0_1099, M0_1245, M0_1389, M0_1533, M0_1631, M0_1742, M0_1864, hv_v665, if_neg hs1544, if_neg hs1644, if_pos (rfl : (2 : Int32) = (2 : Int32)), if_true]; done) | rfl)
    refine k_icmp_ne K X1857 at_94 (by decide) (q := 114) rfl (q' := 97) rfl ?_ ?_
    · intro hc1872
      refine k_iconst K X1857 at_114 (v := (0 : Int32)) rfl (q := 115) rfl ?_
      exact J1866 T1856 _ _ X1857 N1853 e1858 (by first | (simp only [M0_1099, M0_1245, M0_1389, M0_1533, M0_1631, M0_1742, M0_1864, if_neg hc1872]; done) | rfl)
    · intro hc1872
      refine k_aload K X1857 at_97 rfl rfl (q := 99) rfl ?_
      refine k_iload K X1857 at_99 rfl (q := 101) rfl ?_
      refine k_iconst K X1857 at_101 (v := (4 : Int32)) rfl (q := 102) rfl ?_
      refine k_iadd K X1857 at_102 (q := 103) rfl ?_
      refine k_nameI (v := (6 : Int32)) (by decide) ?_
      refine k_staticP K X1857 e1858 at_103 (wd hw 21 rfl) (wd hw 22 rfl) (wd hw 4 rfl) (wd hw 23 rfl) (by decide) (rm5_10_6 l Z az hw [] b1841 (F_withNumbers_2_new0_0 (nar .byte (i2b (ushrI p3 (8 : Int32)))) (nar .byte (i2b (ushrI p3 (16 : Int32)))) p0 p1) (F_withNumbers_2_new0_1 (nar .byte (i2b (ushrI p3 (8 : Int32)))) (nar .byte (i2b (ushrI p3 (16 : Int32)))) p0 p1) (F_withNumbers_2_new0_2 (nar .byte (i2b (ushrI p3 (8 : Int32)))) (nar .byte (i2b (ushrI p3 (16 : Int32)))) p0 p1) (F_withNumbers_2_new0_3 (nar .byte (i2b (ushrI p3 (8 : Int32)))) (nar .byte (i2b (ushrI p3 (16 : Int32)))) p0 p1) (F_withNumbers_2_new0_4 (nar .byte (i2b (ushrI p3 (8 : Int32)))) (nar .byte (i2b (ushrI p3 (16 : Int32)))) p0 p1) (F_withNumbers_2_new0_5 (nar .byte (i2b (ushrI p3 (8 : Int32)))) (nar .byte (i2b (ushrI p3 (16 : Int32)))) p0 p1) (F_withNumbers_2_new0_6 (nar .byte (i2b (ushrI p3 (8 : Int32)))) (nar .byte (i2b (ushrI p3 (16 : Int32)))) p0 p1) (F_withNumbers_2_new0_7 (nar .byte (i2b (ushrI p3 (8 : Int32)))) (nar .byte (i2b (ushrI p3 (16 : Int32)))) p0 p1) (F_withNumbers_2_new0_8 (nar .byte (i2b (ushrI p3 (8 : Int32)))) (nar .byte (i2b (ushrI p3 (16 : Int32)))) p0 p1) (F_withNumbers_2_new0_9 (nar .byte (i2b (ushrI p3 (8 : Int32)))) (nar .byte (i2b (ushrI p3 (16 : Int32)))) p0 p1) T1835.heap f1845) (W := 0) (by decide) (by decide) (by decide) (by decide) rfl pd_4 (argsL := [(.ref b1841), (.int (6 : Int32))]) (rest := []) rfl rfl rfl (Nat.le_of_eq rfl) (q := 106) rfl ?_
      intro T1873 X1874 e1875
      refine k_iloadN K X1874 at_106 rfl (q := 107) rfl ?_
      refine k_icmp_ne K X1874 at_107 (by decide) (q := 114) rfl (q' := 110) rfl ?_ ?_
      · intro hc1876
        refine k_iconst K X1874 at_114 (v := (0 : Int32)) rfl (q := 115) rfl ?_
        exact J1866 T1873 _ _ X1874 N1853 e1875 (by first | (simp only [M0_1099, M0_1245, M0_1389, M0_1533, M0_1631, M0_1742, M0_1864, if_pos hc1872, if_neg hc1876]; done) | rfl)
      · intro hc1876
        refine k_iconst K X1874 at_110 (v := (1 : Int32)) rfl (q := 111) rfl ?_
        refine k_goto K X1874 at_111 (by decide) (q := 115) rfl ?_
        exact J1866 T1873 _ _ X1874 N1853 e1875 (by first | (simp only [M0_1099, M0_1245, M0_1389, M0_1533, M0_1631, M0_1742, M0_1864, if_pos hc1872, if_pos hc1876]; done) | rfl)
  by_cases hs1877 : v665 = (3 : Int32)
  · subst hs1877
    refine k_iload K X0 at_5 rfl (q := 7) rfl ?_
    refine k_newarrayE K X0 e0 at_7 (ty := .byte) rfl (ad := "[B") (by decide) (wd hw 0 rfl) (n := 3) (cap := 3) (by decide) (by decide) (by decide) (by decide) (by decide) (q := 9) rfl ?_
    intro T1878 h1879 b1880 X1881 e1882 g1883 E1884 A1885 E1886
    have ge1887 : n0 ≤ b1880 := Nat.le_trans Z0 (Nat.le_of_eq g1883.symm)
    have bn1888 : h0.size ≤ b1880 := Nat.le_trans K0.1 (Nat.le_of_eq g1883.symm)
    have K1889 := Keep.ext K0 E1884
    have Z1890 := Nat.le_trans Z0 E1884.1
    have f1891 : Ary Z h1879 b1880 .byte 3 (fun i => Value.int (List.getD [(0 : Int32), (0 : Int32), (0 : Int32)] i 0)) := Ary.eqv A1885 (by intro i hi; match i, hi with | 0, _ => rfl | 1, _ => rfl | 2, _ => rfl | (k + 3), hi => exact absurd hi (by omega))
    refine k_astore K X1881 at_9 rfl (Ls' := #[.val (.int p0), .val (.int p1), .val (.int p2), .val (.int p3), .val (.int (3 : Int32)), .val (.ref b1880), .unset, .unset, .unset, .unset, .unset, .unset]) rfl (q := 11) rfl ?_
    refine k_iload K X1881 at_11 rfl (q := 13) rfl ?_
    refine k_if_le_n K X1881 at_13 (by decide) (q := 16) rfl ?_
    refine k_aload K X1881 at_16 rfl rfl (q := 18) rfl ?_
    refine k_iconst K X1881 at_18 (v := (0 : Int32)) rfl (q := 19) rfl ?_
    refine k_iloadN K X1881 at_19 rfl (q := 20) rfl ?_
    refine k_bipush K X1881 at_20 (v := (8 : Int32)) rfl (q := 22) rfl ?_
    refine k_iushr K X1881 at_22 (q := 23) rfl ?_
    refine k_i2b K X1881 at_23 (q := 24) rfl ?_
    refine k_bastore K X1881 e1882 at_24 f1891 (i := 0) (by decide) (by decide) (q := 25) rfl ?_
    intro T1892 h1893 X1894 e1895 W1896 A1897
    have f1898 : Ary Z h1893 b1880 .byte 3 (fun i => Value.int (List.getD [(nar .byte (i2b (ushrI p3 (8 : Int32)))), (0 : Int32), (0 : Int32)] i 0)) := Ary.eqv A1897 (fun i _ => setD Value.int [(0 : Int32), (0 : Int32), (0 : Int32)] 0 (nar .byte (i2b (ushrI p3 (8 : Int32)))) 0 (Nat.le_of_ble_eq_true rfl) i)
    have f1899 := Exa.wr W1896 E1886
    have N1900 := Fr.snoc X1894 N0 ge1887
    have K1901 := Keep.wr K1889 W1896 (Or.inr bn1888)
    have Z1902 := Nat.le_trans Z1890 (Nat.le_of_eq (Wr.size W1896).symm)
    refine k_iload K X1894 at_25 rfl (q := 27) rfl ?_
    refine k_iconst K X1894 at_27 (v := (1 : Int32)) rfl (q := 28) rfl ?_
    refine k_icmp_le_n K X1894 at_28 (by decide) (q := 31) rfl ?_
    refine k_aload K X1894 at_31 rfl rfl (q := 33) rfl ?_
    refine k_iconst K X1894 at_33 (v := (1 : Int32)) rfl (q := 34) rfl ?_
    refine k_iloadN K X1894 at_34 rfl (q := 35) rfl ?_
    refine k_bipush K X1894 at_35 (v := (16 : Int32)) rfl (q := 37) rfl ?_
    refine k_iushr K X1894 at_37 (q := 38) rfl ?_
    refine k_i2b K X1894 at_38 (q := 39) rfl ?_
    refine k_bastore K X1894 e1895 at_39 f1898 (i := 1) (by decide) (by decide) (q := 40) rfl ?_
    intro T1903 h1904 X1905 e1906 W1907 A1908
    have f1909 : Ary Z h1904 b1880 .byte 3 (fun i => Value.int (List.getD [(nar .byte (i2b (ushrI p3 (8 : Int32)))), (nar .byte (i2b (ushrI p3 (16 : Int32)))), (0 : Int32)] i 0)) := Ary.eqv A1908 (fun i _ => setD Value.int [(nar .byte (i2b (ushrI p3 (8 : Int32)))), (0 : Int32), (0 : Int32)] 1 (nar .byte (i2b (ushrI p3 (16 : Int32)))) 0 (Nat.le_of_ble_eq_true rfl) i)
    have f1910 := Exa.wr W1907 f1899
    have N1911 := Fr.snoc X1905 N1900 ge1887
    have K1912 := Keep.wr K1901 W1907 (Or.inr bn1888)
    have Z1913 := Nat.le_trans Z1902 (Nat.le_of_eq (Wr.size W1907).symm)
    refine k_iload K X1905 at_40 rfl (q := 42) rfl ?_
    refine k_iconst K X1905 at_42 (v := (2 : Int32)) rfl (q := 43) rfl ?_
    refine k_icmp_le_n K X1905 at_43 (by decide) (q := 46) rfl ?_
    refine k_aload K X1905 at_46 rfl rfl (q := 48) rfl ?_
    refine k_iconst K X1905 at_48 (v := (2 : Int32)) rfl (q := 49) rfl ?_
    refine k_iloadN K X1905 at_49 rfl (q := 50) rfl ?_
    refine k_bipush K X1905 at_50 (v := (24 : Int32)) rfl (q := 52) rfl ?_
    refine k_iushr K X1905 at_52 (q := 53) rfl ?_
    refine k_i2b K X1905 at_53 (q := 54) rfl ?_
    refine k_bastore K X1905 e1906 at_54 f1909 (i := 2) (by decide) (by decide) (q := 55) rfl ?_
    intro T1914 h1915 X1916 e1917 W1918 A1919
    have f1920 : Ary Z h1915 b1880 .byte 3 (fun i => Value.int (List.getD [(nar .byte (i2b (ushrI p3 (8 : Int32)))), (nar .byte (i2b (ushrI p3 (16 : Int32)))), (nar .byte (i2b (ushrI p3 (24 : Int32))))] i 0)) := Ary.eqv A1919 (fun i _ => setD Value.int [(nar .byte (i2b (ushrI p3 (8 : Int32)))), (nar .byte (i2b (ushrI p3 (16 : Int32)))), (0 : Int32)] 2 (nar .byte (i2b (ushrI p3 (24 : Int32)))) 0 (Nat.le_of_ble_eq_true rfl) i)
    have f1921 := Exa.wr W1918 f1910
    have N1922 := Fr.snoc X1916 N1911 ge1887
    have K1923 := Keep.wr K1912 W1918 (Or.inr bn1888)
    have Z1924 := Nat.le_trans Z1913 (Nat.le_of_eq (Wr.size W1918).symm)
    refine k_aload K X1916 at_55 rfl rfl (q := 57) rfl ?_
    refine k_iconst K X1916 at_57 (v := (2 : Int32)) rfl (q := 58) rfl ?_
    refine k_newarrayE K X1916 e1917 at_58 (ty := .int) rfl (ad := "[I") (by decide) (wd hw 1 rfl) (n := 2) (cap := 2) (by decide) (by decide) (by decide) (by decide) (by decide) (q := 60) rfl ?_
    intro T1925 h1926 b1927 X1928 e1929 g1930 E1931 A1932 E1933
    have ne1934 : b1880 ≠ b1927 := Nat.ne_of_lt (Nat.lt_of_lt_of_eq (f1921).lt g1930.symm)
    have ge1935 : n0 ≤ b1927 := Nat.le_trans Z1924 (Nat.le_of_eq g1930.symm)
    have bn1936 : h0.size ≤ b1927 := Nat.le_trans K1923.1 (Nat.le_of_eq g1930.symm)
    have f1937 := Exa.ext E1931 f1921
    have f1938 := Ary.ext f1920 E1931
    have K1939 := Keep.ext K1923 E1931
    have Z1940 := Nat.le_trans Z1924 E1931.1
    have f1941 : Ary Z h1926 b1927 .int 2 (fun i => Value.int (List.getD [(0 : Int32), (0 : Int32)] i 0)) := Ary.eqv A1932 (by intro i hi; match i, hi with | 0, _ => rfl | 1, _ => rfl | (k + 2), hi => exact absurd hi (by omega))
    refine k_dup K X1928 at_60 rfl (q := 61) rfl ?_
    refine k_iconst K X1928 at_61 (v := (0 : Int32)) rfl (q := 62) rfl ?_
    refine k_iloadN K X1928 at_62 rfl (q := 63) rfl ?_
    refine k_iastore K X1928 e1929 at_63 f1941 (i := 0) (by decide) (by decide) (q := 64) rfl ?_
    intro T1942 h1943 X1944 e1945 W1946 A1947
    have f1948 : Ary Z h1943 b1927 .int 2 (fun i => Value.int (List.getD [p0, (0 : Int32)] i 0)) := Ary.eqv A1947 (fun i _ => setD Value.int [(0 : Int32), (0 : Int32)] 0 p0 0 (Nat.le_of_ble_eq_true rfl) i)
    have f1949 := Exa.wr W1946 f1937
    have f1950 := Ary.other f1938 W1946 ne1934
    have f1951 := Exa.wr W1946 E1933
    have N1952 := Fr.snoc X1944 N1922 ge1935
    have K1953 := Keep.wr K1939 W1946 (Or.inr bn1936)
    have Z1954 := Nat.le_trans Z1940 (Nat.le_of_eq (Wr.size W1946).symm)
    refine k_dup K X1944 at_64 rfl (q := 65) rfl ?_
    refine k_iconst K X1944 at_65 (v := (1 : Int32)) rfl (q := 66) rfl ?_
    refine k_iloadN K X1944 at_66 rfl (q := 67) rfl ?_
    refine k_iastore K X1944 e1945 at_67 f1948 (i := 1) (by decide) (by decide) (q := 68) rfl ?_
    intro T1955 h1956 X1957 e1958 W1959 A1960
    have f1961 : Ary Z h1956 b1927 .int 2 (fun i => Value.int (List.getD [p0, p1] i 0)) := Ary.eqv A1960 (fun i _ => setD Value.int [p0, (0 : Int32)] 1 p1 0 (Nat.le_of_ble_eq_true rfl) i)
    have f1962 := Exa.wr W1959 f1949
    have f1963 := Ary.other f1950 W1959 ne1934
    have f1964 := Exa.wr W1959 f1951
    have N1965 := Fr.snoc X1957 N1952 ge1935
    have K1966 := Keep.wr K1953 W1959 (Or.inr bn1936)
    have Z1967 := Nat.le_trans Z1954 (Nat.le_of_eq (Wr.size W1959).symm)
    refine k_static K X1957 e1958 at_68 (wd hw 2 rfl) (wd hw 3 rfl) (wd hw 4 rfl) (wd hw 5 rfl) (by decide) (rm1_3 l Z az hw [] b1880 b1927 (nar .byte (i2b (ushrI p3 (8 : Int32)))) (nar .byte (i2b (ushrI p3 (16 : Int32)))) (nar .byte (i2b (ushrI p3 (24 : Int32)))) p0 p1 h1956 n0 Z1967 f1963 f1961) (W := 0) (by decide) (by decide) (by decide) (by decide) rfl pd_3 (argsL := [(.ref b1880), (.ref b1927)]) (rest := []) rfl rfl rfl (Nat.le_of_eq rfl) (q := 71) rfl ?_
    rintro _ T1968 L1969 X1970 ⟨b1974, ge1975, bn1976, rfl, N1971, K1972, f1977, f1978⟩
    have ne1979 : b1880 ≠ b1974 := Nat.ne_of_lt (Nat.lt_of_lt_of_le (f1962).lt bn1976)
    have ne1980 : b1927 ≠ b1974 := Nat.ne_of_lt (Nat.lt_of_lt_of_le (f1964).lt bn1976)
    have bn1981 : h0.size ≤ b1974 := Nat.le_trans K1966.1 bn1976
    have f1982 := Exa.keep f1962 K1972
    have f1983 := Ary.keep f1963 K1972 nin0
    have f1984 := Exa.keep f1964 K1972
    have f1985 := Ary.keep f1961 K1972 nin0
    have N1986 := Fr.app N1965 N1971
    have K1987 := Keep.trans K1966 K1972 all0
    have Z1988 := Nat.le_trans Z1967 K1972.1
    refine k_astore K X1970 at_71 rfl (Ls' := #[.val (.int p0), .val (.int p1), .val (.int p2), .val (.int p3), .val (.int (3 : Int32)), .val (.ref b1880), .val (.ref b1974), .unset, .unset, .unset, .unset, .unset]) rfl (q := 73) rfl ?_
    refine k_aload K X1970 at_73 rfl rfl (q := 75) rfl ?_
    refine k_arraylength K X1970 rfl at_75 f1978 (v := (11 : Int32)) rfl (q := 76) rfl ?_
    refine k_iload K X1970 at_76 rfl (q := 78) rfl ?_
    refine k_bipush K X1970 at_78 (v := (8 : Int32)) rfl (q := 80) rfl ?_
    refine k_iadd K X1970 at_80 (q := 81) rfl ?_
    refine k_nameI (v := (11 : Int32)) (by decide) ?_
    refine k_icmp_eq_y K X1970 at_81 (by decide) (by decide) (q := 86) rfl ?_
    refine k_aload K X1970 at_86 rfl rfl (q := 88) rfl ?_
    refine k_iload K X1970 at_88 rfl (q := 90) rfl ?_
    refine k_staticP K X1970 rfl at_90 (wd hw 21 rfl) (wd hw 22 rfl) (wd hw 4 rfl) (wd hw 23 rfl) (by decide) (rm5_11_3 l Z az hw [] b1974 (F_withNumbers_3_new0_0 (nar .byte (i2b (ushrI p3 (8 : Int32)))) (nar .byte (i2b (ushrI p3 (16 : Int32)))) (nar .byte (i2b (ushrI p3 (24 : Int32)))) p0 p1) (F_withNumbers_3_new0_1 (nar .byte (i2b (ushrI p3 (8 : Int32)))) (nar .byte (i2b (ushrI p3 (16 : Int32)))) (nar .byte (i2b (ushrI p3 (24 : Int32)))) p0 p1) (F_withNumbers_3_new0_2 (nar .byte (i2b (ushrI p3 (8 : Int32)))) (nar .byte (i2b (ushrI p3 (16 : Int32)))) (nar .byte (i2b (ushrI p3 (24 : Int32)))) p0 p1) (F_withNumbers_3_new0_3 (nar .byte (i2b (ushrI p3 (8 : Int32)))) (nar .byte (i2b (ushrI p3 (16 : Int32)))) (nar .byte (i2b (ushrI p3 (24 : Int32)))) p0 p1) (F_withNumbers_3_new0_4 (nar .byte (i2b (ushrI p3 (8 : Int32)))) (nar .byte (i2b (ushrI p3 (16 : Int32)))) (nar .byte (i2b (ushrI p3 (24 : Int32)))) p0 p1) (F_withNumbers_3_new0_5 (nar .byte (i2b (ushrI p3 (8 : Int32)))) (nar .byte (i2b (ushrI p3 (16 : Int32)))) (nar .byte (i2b (ushrI p3 (24 : Int32)))) p0 p1) (F_withNumbers_3_new0_6 (nar .byte (i2b (ushrI p3 (8 : Int32)))) (nar .byte (i2b (ushrI p3 (16 : Int32)))) (nar .byte (i2b (ushrI p3 (24 : Int32)))) p0 p1) (F_withNumbers_3_new0_7 (nar .byte (i2b (ushrI p3 (8 : Int32)))) (nar .byte (i2b (ushrI p3 (16 : Int32)))) (nar .byte (i2b (ushrI p3 (24 : Int32)))) p0 p1) (F_withNumbers_3_new0_8 (nar .byte (i2b (ushrI p3 (8 : Int32)))) (nar .byte (i2b (ushrI p3 (16 : Int32)))) (nar .byte (i2b (ushrI p3 (24 : Int32)))) p0 p1) (F_withNumbers_3_new0_9 (nar .byte (i2b (ushrI p3 (8 : Int32)))) (nar .byte (i2b (ushrI p3 (16 : Int32)))) (nar .byte (i2b (ushrI p3 (24 : Int32)))) p0 p1) (F_withNumbers_3_new0_10 (nar .byte (i2b (ushrI p3 (8 : Int32)))) (nar .byte (i2b (ushrI p3 (16 : Int32)))) (nar .byte (i2b (ushrI p3 (24 : Int32)))) p0 p1) T1968.heap f1978) (W := 0) (by decide) (by decide) (by decide) (by decide) rfl pd_4 (argsL := [(.ref b1974), (.int (3 : Int32))]) (rest := []) rfl rfl rfl (Nat.le_of_eq rfl) (q := 93) rfl ?_
    intro T1989 X1990 e1991
    refine k_iloadN K X1990 at_93 rfl (q := 94) rfl ?_
    have J1999 : ∀ (T2000 : State) (Lc2003 : List Loc) (d1998 : Int32), Stand p l e room_1 s m #[(.int p0), (.int p1), (.int p2), (.int p3)] below meth c T2000 Lc2003 3 16 → Fr n0 Lc2003 → T2000.heap = T1968.heap → (M0_1997 p3 p0 p1) = d1998 → Run p e below s kc kn Q T2000 (mkF m 115 #[.val (.int p0), .val (.int p1), .val (.int p2), .val (.int p3), .val (.int (3 : Int32)), .val (.ref b1880), .val (.ref b1974), .unset, .unset, .unset, .unset, .unset] [(.int d1998)]) := by
      intro T2000 Lc2003 d1998 X2001 N2004 e2002 hv_d1998
      refine k_istore K X2001 at_115 rfl (Ls' := #[.val (.int p0), .val (.int p1), .val (.int p2), .val (.int p3), .val (.int (3 : Int32)), .val (.ref b1880), .val (.ref b1974), .val (.int d1998), .unset, .unset, .unset, .unset]) rfl (q := 117) rfl ?_
      exact J1101 T2000 _ _ _ _ _ _ X2001 N2004 e2002 K1987 Z1988 (by first | exact Or.inl rfl | exact Or.inr ⟨_, rfl, rfl⟩ | assumption) (by first | exact Or.inl rfl | exact Or.inr ⟨_, rfl, rfl⟩ | assumption) (by first | exact Or.inl rfl | exact Or.inr ⟨_, rfl, rfl⟩ | assumption) (by subst hv_d1998; first | (simp only [M0_1099, M0_1245, M0_1389, M0_1533, M0_1631, M0_1742, M0_1864, M0_1997, hv_v665, if_neg hs1544, if_neg hs1644, if_neg hs1755, if_pos (rfl : (3 : Int32) = (3 : Int32)), if_true]; done) | rfl)
    refine k_icmp_ne K X1990 at_94 (by decide) (q := 114) rfl (q' := 97) rfl ?_ ?_
    · intro hc2005
      refine k_iconst K X1990 at_114 (v := (0 : Int32)) rfl (q := 115) rfl ?_
      exact J1999 T1989 _ _ X1990 N1986 e1991 (by first | (simp only [M0_1099, M0_1245, M0_1389, M0_1533, M0_1631, M0_1742, M0_1864, M0_1997, if_neg hc2005]; done) | rfl)
    · intro hc2005
      refine k_aload K X1990 at_97 rfl rfl (q := 99) rfl ?_
      refine k_iload K X1990 at_99 rfl (q := 101) rfl ?_
      refine k_iconst K X1990 at_101 (v := (4 : Int32)) rfl (q := 102) rfl ?_
      refine k_iadd K X1990 at_102 (q := 103) rfl ?_
      refine k_nameI (v := (7 : Int32)) (by decide) ?_
      refine k_staticP K X1990 e1991 at_103 (wd hw 21 rfl) (wd hw 22 rfl) (wd hw 4 rfl) (wd hw 23 rfl) (by decide) (rm5_11_7 l Z az hw [] b1974 (F_withNumbers_3_new0_0 (nar .byte (i2b (ushrI p3 (8 : Int32)))) (nar .byte (i2b (ushrI p3 (16 : Int32)))) (nar .byte (i2b (ushrI p3 (24 : Int32)))) p0 p1) (F_withNumbers_3_new0_1 (nar .byte (i2b (ushrI p3 (8 : Int32)))) (nar .byte (i2b (ushrI p3 (16 : Int32)))) (nar .byte (i2b (ushrI p3 (24 : Int32)))) p0 p1) (F_withNumbers_3_new0_2 (nar .byte (i2b (ushrI p3 (8 : Int32)))) (nar .byte (i2b (ushrI p3 (16 : Int32)))) (nar .byte (i2b (ushrI p3 (24 : Int32)))) p0 p1) (F_withNumbers_3_new0_3 (nar .byte (i2b (ushrI p3 (8 : Int32)))) (nar .byte (i2b (ushrI p3 (16 : Int32)))) (nar .byte (i2b (ushrI p3 (24 : Int32)))) p0 p1) (F_withNumbers_3_new0_4 (nar .byte (i2b (ushrI p3 (8 : Int32)))) (nar .byte (i2b (ushrI p3 (16 : Int32)))) (nar .byte (i2b (ushrI p3 (24 : Int32)))) p0 p1) (F_withNumbers_3_new0_5 (nar .byte (i2b (ushrI p3 (8 : Int32)))) (nar .byte (i2b (ushrI p3 (16 : Int32)))) (nar .byte (i2b (ushrI p3 (24 : Int32)))) p0 p1) (F_withNumbers_3_new0_6 (nar .byte (i2b (ushrI p3 (8 : Int32)))) (nar .byte (i2b (ushrI p3 (16 : Int32)))) (nar .byte (i2b (ushrI p3 (24 : Int32)))) p0 p1) (F_withNumbers_3_new0_7 (nar .byte (i2b (ushrI p3 (8 : Int32)))) (nar .byte (i2b (ushrI p3 (16 : Int32)))) (nar .byte (i2b (ushrI p3 (24 : Int32)))) p0 p1) (F_withNumbers_3_new0_8 (nar .byte (i2b (ushrI p3 (8 : Int32)))) (nar .byte (i2b (ushrI p3 (16 : Int32)))) (nar .byte (i2b (ushrI p3 (24 : Int32)))) p0 p1) (F_withNumbers_3_new0_9 (nar .byte (i2b (ushrI p3 (8 : Int32)))) (nar .byte (i2b (ushrI p3 (16 : Int32)))) (nar .byte (i2b (ushrI p3 (24 : Int32)))) p0 p1) (F_withNumbers_3_new0_10 (nar .byte (i2b (ushrI p3 (8 : Int32)))) (nar .byte (i2b (ushrI p3 (16 : Int32)))) (nar .byte (i2b (ushrI p3 (24 : Int32)))) p0 p1) T1968.heap f1978) (W := 0) (by decide) (by decide) (by decide) (by decide) rfl pd_4 (argsL := [(.ref b1974), (.int (7 : Int32))]) (rest := []) rfl rfl rfl (Nat.le_of_eq rfl) (q := 106) rfl ?_
      intro T2006 X2007 e2008
      refine k_iloadN K X2007 at_106 rfl (q := 107) rfl ?_
      refine k_icmp_ne K X2007 at_107 (by decide) (q := 114) rfl (q' := 110) rfl ?_ ?_
      · intro hc2009
        refine k_iconst K X2007 at_114 (v := (0 : Int32)) rfl (q := 115) rfl ?_
        exact J1999 T2006 _ _ X2007 N1986 e2008 (by first | (simp only [M0_1099, M0_1245, M0_1389, M0_1533, M0_1631, M0_1742, M0_1864, M0_1997, if_pos hc2005, if_neg hc2009]; done) | rfl)
      · intro hc2009
        refine k_iconst K X2007 at_110 (v := (1 : Int32)) rfl (q := 111) rfl ?_
        refine k_goto K X2007 at_111 (by decide) (q := 115) rfl ?_
        exact J1999 T2006 _ _ X2007 N1986 e2008 (by first | (simp only [M0_1099, M0_1245, M0_1389, M0_1533, M0_1631, M0_1742, M0_1864, M0_1997, if_pos hc2005, if_pos hc2009]; done) | rfl)
  exact absurd hv_v665 (own_sel _ _ hs1544 hs1644 hs1755 hs1877)
theorem own_num (b3 b2 b1 b0 a : Int32) (h3 : b3.toInt % 256 = a.toInt % 4294967296 / 16777216) (h2 : b2.toInt % 256 = a.toInt / 65536 % 256) (h1 : b1.toInt % 256 = a.toInt / 256 % 256) (h0 : b0.toInt % 256 = a.toInt % 256) : ((((shlI (b3 &&& 255) 24) ||| (shlI (b2 &&& 255) 16)) ||| (shlI (b1 &&& 255) 8)) ||| (b0 &&& 255)) = a := by
  have m3 : (b3 &&& 255).toInt = b3.toInt % 256 := c_mask b3 255 8 (by decide) (by decide)
  have m2 : (b2 &&& 255).toInt = b2.toInt % 256 := c_mask b2 255 8 (by decide) (by decide)
  have m1 : (b1 &&& 255).toInt = b1.toInt % 256 := c_mask b1 255 8 (by decide) (by decide)
  have m0 : (b0 &&& 255).toInt = b0.toInt % 256 := c_mask b0 255 8 (by decide) (by decide)
  have t3 : ((shlI (b3 &&& 255) 24).toInt - (b3 &&& 255).toInt * 16777216) % 4294967296 = 0 := c_ishl (b3 &&& 255) 24 24 (by decide)
  have t2 : ((shlI (b2 &&& 255) 16).toInt - (b2 &&& 255).toInt * 65536) % 4294967296 = 0 := c_ishl (b2 &&& 255) 16 16 (by decide)
  have t1 : ((shlI (b1 &&& 255) 8).toInt - (b1 &&& 255).toInt * 256) % 4294967296 = 0 := c_ishl (b1 &&& 255) 8 8 (by decide)
  generalize (b3 &&& 255) = c3 at *
  generalize (b2 &&& 255) = c2 at *
  generalize (b1 &&& 255) = c1 at *
  generalize (b0 &&& 255) = c0 at *
  have r3 := rng32 (shlI c3 24); have r2 := rng32 (shlI c2 16); have r1 := rng32 (shlI c1 8)
  generalize shlI c3 24 = s3 at *
  generalize shlI c2 16 = s2 at *
  generalize shlI c1 8 = s1 at *
  have o1 := c_or s3 s2 24 (by decide) 16777216 rfl (by omega) (by omega) (by omega)
  have q1 := rng32 (s3 ||| s2)
  generalize (s3 ||| s2) = u1 at *
  have o2 := c_or u1 s1 16 (by decide) 65536 rfl (by omega) (by omega) (by omega)
  have q2 := rng32 (u1 ||| s1)
  generalize (u1 ||| s1) = u2 at *
  have o3 := c_or u2 c0 8 (by decide) 256 rfl (by omega) (by omega) (by omega)
  have q3 := rng32 (u2 ||| c0)
  have ra := rng32 a
  rw [own_eqI]
  omega
theorem own_nb (y : Int32) : (nar .byte (i2b y)).toInt % 256 = y.toInt % 256 := by
  have h1 : ((i2b y).toInt - y.toInt) % 256 = 0 ∧ -128 ≤ (i2b y).toInt ∧ (i2b y).toInt < 128 := c_i2b y
  have h2 : ((nar .byte (i2b y)).toInt - (i2b y).toInt) % 256 = 0 ∧ -128 ≤ (nar .byte (i2b y)).toInt ∧ (nar .byte (i2b y)).toInt < 128 := c_i2b (i2b y)
  omega
theorem own_w (a : Int32) : ((((shlI ((nar .byte (i2b (ushrI a 24))) &&& 255) 24) ||| (shlI ((nar .byte (i2b (ushrI a 16))) &&& 255) 16)) ||| (shlI ((nar .byte (i2b (ushrI a 8))) &&& 255) 8)) ||| ((nar .byte (i2b a)) &&& 255)) = a := by
  have u3 : (ushrI a 24).toInt = a.toInt % 4294967296 / 16777216 := c_iushr a 24 24 (by decide) (by decide)
  have u2 : (ushrI a 16).toInt = a.toInt % 4294967296 / 65536 := c_iushr a 16 16 (by decide) (by decide)
  have u1 : (ushrI a 8).toInt = a.toInt % 4294967296 / 256 := c_iushr a 8 8 (by decide) (by decide)
  have n3 := own_nb (ushrI a 24); have n2 := own_nb (ushrI a 16); have n1 := own_nb (ushrI a 8); have n0 := own_nb a
  exact own_num _ _ _ _ a (by omega) (by omega) (by omega) (by omega)
theorem own_h (c : Int32) : ((((shlI ((nar .byte (i2b ((c / 16777216) - (if (c % 16777216) < 0 then (1 : Int32) else 0)))) &&& 255) 24) ||| (shlI ((nar .byte (i2b (shrI c 16))) &&& 255) 16)) ||| (shlI ((nar .byte (i2b (shrI c 8))) &&& 255) 8)) ||| ((nar .byte (i2b c)) &&& 255)) = c := by
  have u2 : (shrI c 16).toInt = c.toInt / 65536 := c_ishr c 16 16 (by decide)
  have u1 : (shrI c 8).toInt = c.toInt / 256 := c_ishr c 8 8 (by decide)
  have dv := c_idiv c 16777216 16777216 rfl (by decide)
  have dm := c_irem c 16777216 16777216 rfl
  have n2 := own_nb (shrI c 16); have n1 := own_nb (shrI c 8); have n0 := own_nb c
  have e0 : (0 : Int32).toInt = 0 := rfl
  have e1 : (1 : Int32).toInt = 1 := rfl
  have rc := rng32 c
  by_cases k : (c % 16777216) < 0
  · rw [if_pos k]
    have sb := c_isub (c / 16777216) 1; have rs := rng32 (c / 16777216 - 1)
    have n3 := own_nb (c / 16777216 - 1)
    rw [own_ltI] at k
    exact own_num _ _ _ _ c (by omega) (by omega) (by omega) (by omega)
  · rw [if_neg k]
    have sb := c_isub (c / 16777216) 0; have rs := rng32 (c / 16777216 - 0)
    have n3 := own_nb (c / 16777216 - 0)
    rw [own_ltI] at k
    exact own_num _ _ _ _ c (by omega) (by omega) (by omega) (by omega)
theorem law_eq (p0 p1 p2 p3 : Int32) : F_law p0 p1 p2 p3 = 1 := by
  simp only [F_law, M0_1099, M0_1245, M0_1389, M0_1533, M0_1631, M0_1742, M0_1864, M0_1997, F_readNumber_8_0, F_readNumber_8_4, F_readNumber_9_1, F_readNumber_9_5, F_readNumber_10_2, F_readNumber_10_6, F_readNumber_11_3, F_readNumber_11_7, F_readNumber_6_0, F_readNumber_6_1, F_readNumber_6_2, F_withNumbers_0_new0_0, F_withNumbers_0_new0_1, F_withNumbers_0_new0_2, F_withNumbers_0_new0_3, F_withNumbers_0_new0_4, F_withNumbers_0_new0_5, F_withNumbers_0_new0_6, F_withNumbers_0_new0_7, F_withNumbers_1_new0_0, F_withNumbers_1_new0_1, F_withNumbers_1_new0_2, F_withNumbers_1_new0_3, F_withNumbers_1_new0_4, F_withNumbers_1_new0_5, F_withNumbers_1_new0_6, F_withNumbers_1_new0_7, F_withNumbers_1_new0_8, F_withNumbers_2_new0_0, F_withNumbers_2_new0_1, F_withNumbers_2_new0_2, F_withNumbers_2_new0_3, F_withNumbers_2_new0_4, F_withNumbers_2_new0_5, F_withNumbers_2_new0_6, F_withNumbers_2_new0_7, F_withNumbers_2_new0_8, F_withNumbers_2_new0_9, F_withNumbers_3_new0_0, F_withNumbers_3_new0_1, F_withNumbers_3_new0_2, F_withNumbers_3_new0_3, F_withNumbers_3_new0_4, F_withNumbers_3_new0_5, F_withNumbers_3_new0_6, F_withNumbers_3_new0_7, F_withNumbers_3_new0_8, F_withNumbers_3_new0_9, F_withNumbers_3_new0_10, own_w, own_h, if_true, ite_self]
  have z : (nar .boolean (if (1 : Int32) = 0 then (0 : Int32) else if (1 : Int32) = 0 then 0 else 1)) = 1 := by decide
  first | done | (rw [z]; simp only [ite_self]) | (simp only [z, ite_self])
set_option maxRecDepth 65536 in
set_option maxHeartbeats 40000000 in
theorem comes_1 {Post : Tables → Env → Array Value → State → Outcome → State → Prop} (hpost : ∀ tb e args s v u, (limb_1_1.after args s (.returned v) u = true ∧ limb_1_2.after args s (.returned v) u = true ∧ True) → FrameEnd s (.returned v) u (Jvm.fieldLocs frame_1_writes args s ++ Jvm.arrayLocs frame_1_arrays args s ++ Jvm.staticLocs frame_1_statics s) 16 128 → Post tb e args s (.returned v) u) :
    ArmFor flags0 classFile x code maxLocals ret World_1 tables_1 room_1 Calls_1 rest_1 Pre_1 Post := by
  intro l hfl _ _ p e ha hc hk s m args below hf hA hF happ hP
  obtain ⟨hcalls, hrest, hpre⟩ := hP
  obtain ⟨-, -, -, hnamed, -, -, -, hat⟩ := (Spec.applies_iff hf).mp happ
  obtain ⟨hg, hn⟩ := and_e (Cond.before_iff.mp (show (Jvm.Cond.and given_1 narrow_1).before args s = true from hpre))
  obtain ⟨gc, g0⟩ := and_e hg
  obtain ⟨ga0, g1⟩ := and_e g0
  obtain ⟨ga1, g2⟩ := and_e g1
  obtain ⟨ga2, g3⟩ := and_e g2
  obtain ⟨w0, w1, w2, w3, rfl⟩ : ∃ w0 w1 w2 w3 : Value, args = #[w0, w1, w2, w3] := by
    have hs : args.size = 4 := by simpa [Cond.value, given_1] using gc
    obtain ⟨L⟩ := args
    match L, hs with
    | [w0, w1, w2, w3], _ => exact ⟨w0, w1, w2, w3, rfl⟩
  have hw := fun d (hd : d ∈ tables_1) => atoms_spec (ws := Jvm.Cond.code x code maxLocals ret :: tables_1) hat d (List.mem_cons_of_mem _ hd)
  obtain ⟨i0, ei0⟩ := is_v ga0
  obtain rfl : w0 = (.int i0) := Option.some.inj ei0
  obtain ⟨i1, ei1⟩ := is_v ga1
  obtain rfl : w1 = (.int i1) := Option.some.inj ei1
  obtain ⟨i2, ei2⟩ := is_v ga2
  obtain rfl : w2 = (.int i2) := Option.some.inj ei2
  obtain ⟨i3, ei3⟩ := is_v g3
  obtain rfl : w3 = (.int i3) := Option.some.inj ei3
  obtain ⟨n, o, h1, h2, h3, _, L, rfl, ⟨rfl, N⟩, hq⟩ := rm0 l s _ hw tables_1 i0 i1 i2 i3 s.heap s.heap.size (Nat.le_refl _) p e ha hc hk s m _ below hf ((Spec.applies_iff_loose hf).mp happ).1 ⟨rfl, State.Warmed39.refl s, rfl⟩ trivial
  rw [law_eq] at *
  refine ⟨n, _, h1, h2, h3, hpost _ _ _ _ _ _ ⟨Cond.after_iff.mpr rfl, Cond.after_iff.mpr (eq_i res_at (Term.int_eval (1)) rfl), trivial⟩ ⟨hq.1, hq.2.1, (hq.2.2.sift fun y hy => Or.inr (N y hy)).mono (by decide) (by decide)⟩⟩
theorem main_1_1 : Claimed_1_1 := comes_1 fun _ _ _ _ _ _ h hF => ⟨h.1, hF⟩
theorem main_1_2 : Claimed_1_2 := comes_1 fun _ _ _ _ _ _ h hF => ⟨h.2.1, hF⟩
end Jvm.Pilot.@@N@@
namespace Jvm.Pilot.@@N@@
open Jvm Jvm.ClassFile Sem Op Lib Jvm.Free Jvm.Stand Jvm.Pilot.@@N@@.Jvm.D
/-! MADE BY PROGRAM (witnessworld.py) out of the Statement's table words and the real class files: 12 classes; the members and pool entries that the words name. The judged class is class 1, her method 1. -/
namespace start1
open Jvm.ClassFile
def u (s : String) : CpInfo := .utf8 (stringToUtf16 s)
/-- a pool by its gaps: so many unusable entries, then the entry; so many at the end -/
def gap : Nat → List CpInfo → List CpInfo
  | 0, r => r
  | n + 1, r => .unusable :: gap n r
def poolList (es : List (Nat × CpInfo)) (last : Nat) : List CpInfo := es.foldr (fun e r => gap e.1 (e.2 :: r)) (gap last [])
def pool (es : List (Nat × CpInfo)) (last : Nat) : Array CpInfo := ⟨poolList es last⟩
def fileOf (pool : Array CpInfo) (this : Nat) (attrs : Array Attribute := #[]) (ms : Array MethodInfo := #[]) (fl : Nat := 33) (sup : Nat := 0) (ifs : Array Nat := #[]) (fds : Array FieldInfo := #[]) : ClassFile where
  minorVersion := 0
  majorVersion := 65
  constantPool := pool
  accessFlags := fl
  thisClass := this
  superClass := sup
  interfaces := ifs
  fields := fds
  methods := ms
  attributes := attrs
def plain (name : String) (sup : Option ClassId) : Class where
  name := name
  kind := .ordinary
  loader := none
  accessFlags := 33
  super := sup
  interfaces := #[]
  cf := none
  fields := #[]
  methods := #[]
  instanceTypes := #[]
  staticTypes := #[]
  resolved := #[]
  callSites := []
  init := .initialized
  statics := none
  mirror := none

def pool0 : Array CpInfo := pool [(5, u "<init>"), (0, u "()V"), (1, .class_ 10), (1, u "java/lang/Object")] 113

def k0m0 : Method := { name := "<init>", desc := "()V", sig := { parameters := [], returnType := none }, accessFlags := 1, code := none }
/-- java/lang/Object -/
def k0 : Class := { plain "java/lang/Object" none with
  accessFlags := 33
  interfaces := #[]
  cf := some (fileOf pool0 8 #[] #[{ accessFlags := 1, nameIndex := 5, descriptorIndex := 6, attributes := #[] }] 33 0 #[] #[])
  fields := #[]
  methods := #[k0m0]
  instanceTypes := #[]
  staticTypes := #[]
  resolved := Array.replicate 124 none
  statics := none }

def pool1 : Array CpInfo := pool [(2, .class_ 4), (1, u "java/lang/Object"), (0, u "<init>"), (0, u "()V"), (0, .methodref 8 9), (0, .class_ 10), (0, .nameAndType 11 12), (0, u "com/example/muster/muster/search/SortKeys"), (0, u "withNumbers"), (0, u "([B[I)[B"), (0, .methodref 8 14), (0, .nameAndType 15 16), (0, u "readNumber"), (0, u "([BI)I"), (0, .integer 16777216), (0, .class_ 19), (0, u "com/example/muster/muster/search/SortKeysReadNumberPinLaw"), (2, u "law"), (0, u "(IIII)Z")] 5

def k1m0 : Method := { name := "<init>", desc := "()V", sig := { parameters := [], returnType := none }, accessFlags := 2, code := none }
def k1c1 : Code := { maxStack := 5, maxLocals := 12, code := code, exceptionTable := #[], attributes := #[] }
def k1m1 : Method := { name := "law", desc := "(IIII)Z", sig := { parameters := [.int, .int, .int, .int], returnType := some .boolean }, accessFlags := 9, code := some k1c1 }
/-- com/example/muster/muster/search/SortKeysReadNumberPinLaw -/
def k1 : Class := { plain "com/example/muster/muster/search/SortKeysReadNumberPinLaw" (some 0) with
  accessFlags := 49
  interfaces := #[]
  cf := some (fileOf pool1 18 #[] #[{ accessFlags := 2, nameIndex := 5, descriptorIndex := 6, attributes := #[] }, { accessFlags := 9, nameIndex := 22, descriptorIndex := 23, attributes := #[] }] 49 2 #[] #[])
  fields := #[]
  methods := #[k1m0, k1m1]
  instanceTypes := #[]
  staticTypes := #[]
  resolved := Array.replicate 29 none
  statics := none }

def pool2 : Array CpInfo := pool [(2, .class_ 4), (1, u "java/lang/Object"), (0, u "<init>"), (0, u "()V"), (24, .class_ 33), (1, u "com/example/muster/muster/search/SortKeys"), (1, u "([BI)I"), (14, .methodref 51 52), (0, .class_ 53), (0, .nameAndType 54 55), (0, u "java/util/Arrays"), (0, u "copyOf"), (0, u "([BI)[B"), (0, .methodref 31 57), (0, .nameAndType 58 59), (0, u "writeNumber"), (0, u "([BII)V"), (15, u "withNumbers"), (0, u "([B[I)[B"), (0, u "readNumber")] 2

def k2m0 : Method := { name := "<init>", desc := "()V", sig := { parameters := [], returnType := none }, accessFlags := 2, code := none }
def k2c1 : Code := { maxStack := 4, maxLocals := 4, code := prog_84_method_7_code, exceptionTable := #[], attributes := #[] }
def k2m1 : Method := { name := "withNumbers", desc := "([B[I)[B", sig := { parameters := [(.array .byte), (.array .int)], returnType := some (.array .byte) }, accessFlags := 136, code := some k2c1 }
def k2c2 : Code := { maxStack := 4, maxLocals := 2, code := prog_84_method_8_code, exceptionTable := #[], attributes := #[] }
def k2m2 : Method := { name := "readNumber", desc := "([BI)I", sig := { parameters := [(.array .byte), .int], returnType := some .int }, accessFlags := 8, code := some k2c2 }
def k2c3 : Code := { maxStack := 4, maxLocals := 3, code := prog_84_method_9_code, exceptionTable := #[], attributes := #[] }
def k2m3 : Method := { name := "writeNumber", desc := "([BII)V", sig := { parameters := [(.array .byte), .int, .int], returnType := none }, accessFlags := 10, code := some k2c3 }
/-- com/example/muster/muster/search/SortKeys -/
def k2 : Class := { plain "com/example/muster/muster/search/SortKeys" (some 0) with
  accessFlags := 32
  interfaces := #[]
  cf := some (fileOf pool2 31 #[] #[{ accessFlags := 2, nameIndex := 5, descriptorIndex := 6, attributes := #[] }, { accessFlags := 136, nameIndex := 75, descriptorIndex := 76, attributes := #[] }, { accessFlags := 8, nameIndex := 77, descriptorIndex := 35, attributes := #[] }, { accessFlags := 10, nameIndex := 58, descriptorIndex := 59, attributes := #[] }] 32 2 #[] #[])
  fields := #[]
  methods := #[k2m0, k2m1, k2m2, k2m3]
  instanceTypes := #[]
  staticTypes := #[]
  resolved := Array.replicate 80 none
  statics := none }

def pool3 : Array CpInfo := pool [(2, .class_ 4), (1, u "java/lang/Object"), (0, u "<init>"), (0, u "()V"), (7, .class_ 16), (1, u "java/util/Arrays"), (57, .class_ 76), (1, u "java/util/Arrays$NaturalOrder"), (36, .class_ 115), (1, u "java/util/Arrays$LegacyMergeSort"), (1, u "Z"), (32, .methodref 151 152), (0, .class_ 153), (0, .nameAndType 154 155), (0, u "java/lang/System"), (0, u "arraycopy"), (0, u "(Ljava/lang/Object;ILjava/lang/Object;II)V"), (146, u "copyOf"), (1, .methodref 305 306), (0, .class_ 307), (0, .nameAndType 308 309), (0, u "java/lang/Math"), (0, u "min"), (0, u "(II)I"), (65, .class_ 376), (0, u "java/util/Arrays$ArrayList"), (68, u "$assertionsDisabled"), (269, u "MIN_ARRAY_SORT_GRAN"), (0, u "I"), (2, u "INSERTIONSORT_THRESHOLD"), (149, u "([BI)[B"), (105, .class_ 976), (0, u "java/util/Arrays$ArrayItr")] 52

def k3m0 : Method := { name := "<init>", desc := "()V", sig := { parameters := [], returnType := none }, accessFlags := 2, code := none }
def k3c1 : Code := { maxStack := 6, maxLocals := 3, code := jdk_65_method_121_code, exceptionTable := #[], attributes := #[] }
def k3m1 : Method := { name := "copyOf", desc := "([BI)[B", sig := { parameters := [(.array .byte), .int], returnType := some (.array .byte) }, accessFlags := 9, code := some k3c1 }
/-- java/util/Arrays -/
def k3 : Class := { plain "java/util/Arrays" (some 0) with
  accessFlags := 49
  interfaces := #[]
  cf := some (fileOf pool3 14 #[.nestMembers #[975, 375, 113, 74]] #[{ accessFlags := 2, nameIndex := 5, descriptorIndex := 6, attributes := #[] }, { accessFlags := 9, nameIndex := 302, descriptorIndex := 869, attributes := #[] }] 49 2 #[] #[{ accessFlags := 26, nameIndex := 715, descriptorIndex := 716, attributes := #[] }, { accessFlags := 26, nameIndex := 719, descriptorIndex := 716, attributes := #[] }, { accessFlags := 4120, nameIndex := 445, descriptorIndex := 117, attributes := #[] }])
  fields := #[{ name := "MIN_ARRAY_SORT_GRAN", type := .int, accessFlags := 26, slot := 0, constantValue := 0 }, { name := "INSERTIONSORT_THRESHOLD", type := .int, accessFlags := 26, slot := 1, constantValue := 0 }, { name := "$assertionsDisabled", type := .boolean, accessFlags := 4120, slot := 2, constantValue := 0 }]
  methods := #[k3m0, k3m1]
  instanceTypes := #[]
  staticTypes := #[.int, .int, .boolean]
  resolved := Array.replicate 1029 none
  statics := none }

def pool4 : Array CpInfo := pool [(1, .class_ 2), (0, u "java/lang/Math"), (1, .class_ 6), (1, u "java/lang/Object"), (0, u "<init>"), (0, u "()V"), (89, .class_ 100), (1, u "java/lang/Math$RandomNumberGeneratorHolder"), (71, u "negativeZeroFloatBits"), (0, u "J"), (2, u "negativeZeroDoubleBits"), (24, u "min"), (43, u "$assertionsDisabled"), (0, u "Z"), (88, u "(II)I"), (2, u "twoToTheDoubleScaleDown"), (0, u "D"), (4, u "twoToTheDoubleScaleUp"), (9, u "E"), (3, u "PI"), (2, u "TAU"), (2, u "DEGREES_TO_RADIANS"), (0, u "RADIANS_TO_DEGREES")] 94

def k4m0 : Method := { name := "<init>", desc := "()V", sig := { parameters := [], returnType := none }, accessFlags := 2, code := none }
def k4c1 : Code := { maxStack := 2, maxLocals := 2, code := jdk_29_method_69_code, exceptionTable := #[], attributes := #[] }
def k4m1 : Method := { name := "min", desc := "(II)I", sig := { parameters := [.int, .int], returnType := some .int }, accessFlags := 9, code := some k4c1 }
/-- java/lang/Math -/
def k4 : Class := { plain "java/lang/Math" (some 0) with
  accessFlags := 49
  interfaces := #[]
  cf := some (fileOf pool4 1 #[.nestMembers #[98]] #[{ accessFlags := 2, nameIndex := 7, descriptorIndex := 8, attributes := #[] }, { accessFlags := 9, nameIndex := 201, descriptorIndex := 335, attributes := #[] }] 49 4 #[] #[{ accessFlags := 25, nameIndex := 354, descriptorIndex := 339, attributes := #[] }, { accessFlags := 25, nameIndex := 358, descriptorIndex := 339, attributes := #[] }, { accessFlags := 25, nameIndex := 361, descriptorIndex := 339, attributes := #[] }, { accessFlags := 26, nameIndex := 364, descriptorIndex := 339, attributes := #[] }, { accessFlags := 26, nameIndex := 365, descriptorIndex := 339, attributes := #[] }, { accessFlags := 26, nameIndex := 172, descriptorIndex := 173, attributes := #[] }, { accessFlags := 26, nameIndex := 176, descriptorIndex := 173, attributes := #[] }, { accessFlags := 8, nameIndex := 344, descriptorIndex := 339, attributes := #[] }, { accessFlags := 8, nameIndex := 338, descriptorIndex := 339, attributes := #[] }, { accessFlags := 4120, nameIndex := 245, descriptorIndex := 246, attributes := #[] }])
  fields := #[{ name := "E", type := .double, accessFlags := 25, slot := 0, constantValue := 0 }, { name := "PI", type := .double, accessFlags := 25, slot := 1, constantValue := 0 }, { name := "TAU", type := .double, accessFlags := 25, slot := 2, constantValue := 0 }, { name := "DEGREES_TO_RADIANS", type := .double, accessFlags := 26, slot := 3, constantValue := 0 }, { name := "RADIANS_TO_DEGREES", type := .double, accessFlags := 26, slot := 4, constantValue := 0 }, { name := "negativeZeroFloatBits", type := .long, accessFlags := 26, slot := 5, constantValue := 0 }, { name := "negativeZeroDoubleBits", type := .long, accessFlags := 26, slot := 6, constantValue := 0 }, { name := "twoToTheDoubleScaleUp", type := .double, accessFlags := 8, slot := 7, constantValue := 0 }, { name := "twoToTheDoubleScaleDown", type := .double, accessFlags := 8, slot := 8, constantValue := 0 }, { name := "$assertionsDisabled", type := .boolean, accessFlags := 4120, slot := 9, constantValue := 0 }]
  methods := #[k4m0, k4m1]
  instanceTypes := #[]
  staticTypes := #[.double, .double, .double, .double, .double, .long, .long, .double, .double, .boolean]
  resolved := Array.replicate 460 none
  statics := none }

def pool5 : Array CpInfo := pool [(2, .class_ 4), (1, u "java/lang/Object"), (0, u "<init>"), (0, u "()V"), (1, .class_ 10), (1, u "java/lang/System"), (0, u "allowSecurityManager"), (0, u "I"), (16, u "cons"), (0, u "Ljava/io/Console;"), (77, .class_ 110), (1, u "java/lang/System$CallersHolder"), (43, u "initialErrStream"), (0, u "Ljava/io/PrintStream;"), (19, u "security"), (0, u "Ljava/lang/SecurityManager;"), (31, .class_ 209), (0, u "java/lang/System$1"), (7, u "props"), (0, u "Ljava/util/Properties;"), (2, u "lineSeparator"), (0, u "Ljava/lang/String;"), (96, .class_ 321), (1, u "java/lang/System$LoggerFinder"), (5, .class_ 328), (0, u "java/lang/System$Logger"), (67, u "err"), (2, u "out"), (91, u "notSupportedJnuEncoding"), (15, u "in"), (17, u "initialIn"), (0, u "Ljava/io/InputStream;"), (35, u "bootLayer"), (0, u "Ljava/lang/ModuleLayer;"), (99, .class_ 664), (0, u "java/lang/System$2"), (9, u "NEVER"), (2, u "MAYBE"), (49, u "arraycopy"), (0, u "(Ljava/lang/Object;ILjava/lang/Object;II)V"), (72, .class_ 802), (0, u "java/lang/System$Logger$Level")] 31

def k5m0 : Method := { name := "<init>", desc := "()V", sig := { parameters := [], returnType := none }, accessFlags := 2, code := none }
def k5m1 : Method := { name := "arraycopy", desc := "(Ljava/lang/Object;ILjava/lang/Object;II)V", sig := { parameters := [(.object "java/lang/Object"), .int, (.object "java/lang/Object"), .int, .int], returnType := none }, accessFlags := 265, code := none }
/-- java/lang/System -/
def k5 : Class := { plain "java/lang/System" (some 0) with
  accessFlags := 49
  interfaces := #[]
  cf := some (fileOf pool5 8 #[.nestMembers #[319, 327, 801, 108, 663, 208]] #[{ accessFlags := 2, nameIndex := 5, descriptorIndex := 6, attributes := #[] }, { accessFlags := 265, nameIndex := 727, descriptorIndex := 728, attributes := #[] }] 49 2 #[] #[{ accessFlags := 25, nameIndex := 507, descriptorIndex := 526, attributes := #[] }, { accessFlags := 25, nameIndex := 399, descriptorIndex := 155, attributes := #[] }, { accessFlags := 25, nameIndex := 396, descriptorIndex := 155, attributes := #[] }, { accessFlags := 10, nameIndex := 525, descriptorIndex := 526, attributes := #[] }, { accessFlags := 26, nameIndex := 674, descriptorIndex := 12, attributes := #[] }, { accessFlags := 26, nameIndex := 677, descriptorIndex := 12, attributes := #[] }, { accessFlags := 10, nameIndex := 11, descriptorIndex := 12, attributes := #[] }, { accessFlags := 74, nameIndex := 175, descriptorIndex := 176, attributes := #[] }, { accessFlags := 10, nameIndex := 491, descriptorIndex := 222, attributes := #[] }, { accessFlags := 74, nameIndex := 29, descriptorIndex := 30, attributes := #[] }, { accessFlags := 74, nameIndex := 154, descriptorIndex := 155, attributes := #[] }, { accessFlags := 10, nameIndex := 217, descriptorIndex := 218, attributes := #[] }, { accessFlags := 10, nameIndex := 221, descriptorIndex := 222, attributes := #[] }, { accessFlags := 8, nameIndex := 562, descriptorIndex := 563, attributes := #[] }])
  fields := #[{ name := "in", type := (.object "java/io/InputStream"), accessFlags := 25, slot := 0, constantValue := 0 }, { name := "out", type := (.object "java/io/PrintStream"), accessFlags := 25, slot := 1, constantValue := 0 }, { name := "err", type := (.object "java/io/PrintStream"), accessFlags := 25, slot := 2, constantValue := 0 }, { name := "initialIn", type := (.object "java/io/InputStream"), accessFlags := 10, slot := 3, constantValue := 0 }, { name := "NEVER", type := .int, accessFlags := 26, slot := 4, constantValue := 0 }, { name := "MAYBE", type := .int, accessFlags := 26, slot := 5, constantValue := 0 }, { name := "allowSecurityManager", type := .int, accessFlags := 10, slot := 6, constantValue := 0 }, { name := "security", type := (.object "java/lang/SecurityManager"), accessFlags := 74, slot := 7, constantValue := 0 }, { name := "notSupportedJnuEncoding", type := (.object "java/lang/String"), accessFlags := 10, slot := 8, constantValue := 0 }, { name := "cons", type := (.object "java/io/Console"), accessFlags := 74, slot := 9, constantValue := 0 }, { name := "initialErrStream", type := (.object "java/io/PrintStream"), accessFlags := 74, slot := 10, constantValue := 0 }, { name := "props", type := (.object "java/util/Properties"), accessFlags := 10, slot := 11, constantValue := 0 }, { name := "lineSeparator", type := (.object "java/lang/String"), accessFlags := 10, slot := 12, constantValue := 0 }, { name := "bootLayer", type := (.object "java/lang/ModuleLayer"), accessFlags := 8, slot := 13, constantValue := 0 }]
  methods := #[k5m0, k5m1]
  instanceTypes := #[]
  staticTypes := #[(.object "java/io/InputStream"), (.object "java/io/PrintStream"), (.object "java/io/PrintStream"), (.object "java/io/InputStream"), .int, .int, .int, (.object "java/lang/SecurityManager"), (.object "java/lang/String"), (.object "java/io/Console"), (.object "java/io/PrintStream"), (.object "java/util/Properties"), (.object "java/lang/String"), (.object "java/lang/ModuleLayer")]
  resolved := Array.replicate 834 none
  statics := none }

def pool6 : Array CpInfo := pool [(1, u "java/lang/Cloneable"), (0, .class_ 1), (0, u "java/lang/Object"), (0, .class_ 3)] 3

/-- java/lang/Cloneable -/
def k6 : Class := { plain "java/lang/Cloneable" (some 0) with
  accessFlags := 1537
  interfaces := #[]
  cf := some (fileOf pool6 2 #[] #[] 1537 4 #[] #[])
  fields := #[]
  methods := #[]
  instanceTypes := #[]
  staticTypes := #[]
  resolved := Array.replicate 8 none
  statics := none }

def pool7 : Array CpInfo := pool [(1, u "java/io/Serializable"), (0, .class_ 1), (0, u "java/lang/Object"), (0, .class_ 3)] 3

/-- java/io/Serializable -/
def k7 : Class := { plain "java/io/Serializable" (some 0) with
  accessFlags := 1537
  interfaces := #[]
  cf := some (fileOf pool7 2 #[] #[] 1537 4 #[] #[])
  fields := #[]
  methods := #[]
  instanceTypes := #[]
  staticTypes := #[]
  resolved := Array.replicate 8 none
  statics := none }

/-- the primitive byte -/
def k8 : Class := { plain "byte" none with kind := .primitive 'B', accessFlags := 0x411 }
/-- [B -/
def k9 : Class := { plain "[B" (some 0) with kind := .array 8 .byte, interfaces := #[6, 7], accessFlags := 1041 }

/-- the primitive int -/
def k10 : Class := { plain "int" none with kind := .primitive 'I', accessFlags := 0x411 }
/-- [I -/
def k11 : Class := { plain "[I" (some 0) with kind := .array 10 .int, interfaces := #[6, 7], accessFlags := 1041 }

def heap : Heap := #[]
def classes : Array Class := #[k0, k1, k2, k3, k4, k5, k6, k7, k8, k9, k10, k11]
def interned : List (Array UInt16 × Addr) := []
def slotsUsed : Nat := 0
def theMethod : MethodId := ⟨1, 1⟩
def args0 : Array Value := #[.int 5, .int 7, .int 9, .int 11]
def aboutOver (below : List Frame) : State where
  vm := { classes := classes, interned := interned.toArray }
  heap := heap
  slotsUsed := slotsUsed
  threads := #[{ frames := .invoking theMethod args0 :: below }]
def below0 : List Frame := [.native { method := ⟨0, 0⟩, args := #[] }]
def about1 : State := aboutOver below0
def p0 : Program := .bare "" "" ""
def e0 : Env := launch0.env 0 0 0
theorem w_frames : about1.frames = Frame.invoking theMethod args0 :: below0 := rfl
set_option maxRecDepth 65536 in
theorem w_args : argsFit about1.vm theMethod args0 = true := by decide +kernel
set_option maxRecDepth 65536 in
theorem w_heap : heapFits about1 = true := by decide +kernel
set_option maxRecDepth 65536 in
theorem w_runnable : about1.curStatus? = some .runnable := by decide +kernel
set_option maxRecDepth 65536 in
theorem w_alone : about1.alone = true := by decide +kernel
set_option maxRecDepth 65536 in
theorem w_named : about1.methodNamed? x = some theMethod := by decide +kernel
set_option maxRecDepth 65536 in
theorem w_hears : about1.hears theMethod below0 = true := by decide +kernel
set_option maxRecDepth 65536 in
theorem w_ripe : about1.ripe theMethod args0 below0 = true := by decide +kernel
theorem w_running : about1.status = .running := rfl
set_option maxRecDepth 65536 in
theorem w_room : about1.hasRoom e0.platform room_1 = true :=
  launch0.hasRoom_least _ room_1 (by decide +kernel) (by decide +kernel) (by decide +kernel) (by decide +kernel) (by decide +kernel) (by decide +kernel)
theorem allAtoms_all (ts : List Jvm.Cond) (a : Array Jvm.Value) (st : Jvm.State) : (allAtoms ts).before a st = ts.all (fun c => c.before a st) := by
  induction ts with
  | nil => rfl
  | cons c t ih =>
    show (Jvm.Cond.and c (allAtoms t)).before a st = _
    rw [Jvm.Cond.before_and, ih, List.all_cons]
def words1 : List Jvm.Cond := Jvm.Cond.code x code maxLocals ret :: tables_1
/-- a 'code' word, met by the world's own term for the bytes: nothing is compared byte by byte -/
theorem code_word {y : MethodName} {bytes : ByteArray} {mx : Nat} {rt : Option FieldType} {a : Array Value} {s : State} {m : MethodId} {meth : Method} {c : Code} (h1 : s.methodNamed? y = some m) (h2 : s.vm.method? m = some meth) (h3 : meth.code = some c) (h4 : c.code = bytes)
    (h5 : (c.maxLocals == mx && c.exceptionTable.isEmpty && decide (c.maxStack ≤ mostOperands) && decide (meth.sig.returnType = rt) && !meth.locks && decide (parseMethodDescriptor y.desc = some meth.sig)) = true) : (Jvm.Cond.code y bytes mx rt).before a s = true := by
  simp only [Bool.and_eq_true, beq_iff_eq, Bool.not_eq_true', decide_eq_true_eq] at h5
  obtain ⟨⟨⟨⟨⟨g1, g2⟩, g3⟩, g4⟩, g5⟩, g6⟩ := h5
  simp [Cond.before, Cond.holds, Cond.value, h1, h2, h3, h4, g1, g2, g3, g4, g5, g6]
def isCode : Jvm.Cond → Bool
  | .code _ _ _ _ => true
  | _ => false
theorem all_split {L : List Jvm.Cond} {P : Jvm.Cond → Bool} (h1 : L.all (fun c => isCode c || P c) = true) (h2 : ∀ c ∈ L.filter isCode, P c = true) : L.all P = true := by
  refine List.all_eq_true.mpr fun c hc => ?_
  have h := List.all_eq_true.mp h1 c hc
  rcases Bool.eq_false_or_eq_true (isCode c) with hi | hi
  · exact h2 c (List.mem_filter.mpr ⟨hc, hi⟩)
  · simpa [hi] using h
set_option maxRecDepth 65536 in
theorem w_c0 : (Jvm.Cond.code x code maxLocals ret).before args0 about1 = true := code_word (m := ⟨1, 1⟩) (meth := k1m1) (c := k1c1) (by decide +kernel) rfl rfl rfl (by decide +kernel)
set_option maxRecDepth 65536 in
theorem w_c1 : (Jvm.Cond.code ({ cls := "com/example/muster/muster/search/SortKeys", name := "withNumbers", desc := "([B[I)[B" } : Jvm.MethodName) prog_84_method_7_code (4 : Nat) (Option.some (Jvm.ClassFile.FieldType.array Jvm.ClassFile.FieldType.byte))).before args0 about1 = true := code_word (m := ⟨2, 1⟩) (meth := k2m1) (c := k2c1) (by decide +kernel) rfl rfl rfl (by decide +kernel)
set_option maxRecDepth 65536 in
theorem w_c2 : (Jvm.Cond.code ({ cls := "java/util/Arrays", name := "copyOf", desc := "([BI)[B" } : Jvm.MethodName) jdk_65_method_121_code (3 : Nat) (Option.some (Jvm.ClassFile.FieldType.array Jvm.ClassFile.FieldType.byte))).before args0 about1 = true := code_word (m := ⟨3, 1⟩) (meth := k3m1) (c := k3c1) (by decide +kernel) rfl rfl rfl (by decide +kernel)
set_option maxRecDepth 65536 in
theorem w_c3 : (Jvm.Cond.code ({ cls := "java/lang/Math", name := "min", desc := "(II)I" } : Jvm.MethodName) jdk_29_method_69_code (2 : Nat) (Option.some Jvm.ClassFile.FieldType.int)).before args0 about1 = true := code_word (m := ⟨4, 1⟩) (meth := k4m1) (c := k4c1) (by decide +kernel) rfl rfl rfl (by decide +kernel)
set_option maxRecDepth 65536 in
theorem w_c4 : (Jvm.Cond.code ({ cls := "com/example/muster/muster/search/SortKeys", name := "writeNumber", desc := "([BII)V" } : Jvm.MethodName) prog_84_method_9_code (3 : Nat) (Option.none : Option Jvm.ClassFile.FieldType)).before args0 about1 = true := code_word (m := ⟨2, 3⟩) (meth := k2m3) (c := k2c3) (by decide +kernel) rfl rfl rfl (by decide +kernel)
set_option maxRecDepth 65536 in
theorem w_c5 : (Jvm.Cond.code ({ cls := "com/example/muster/muster/search/SortKeys", name := "readNumber", desc := "([BI)I" } : Jvm.MethodName) prog_84_method_8_code (2 : Nat) (Option.some Jvm.ClassFile.FieldType.int)).before args0 about1 = true := code_word (m := ⟨2, 2⟩) (meth := k2m2) (c := k2c2) (by decide +kernel) rfl rfl rfl (by decide +kernel)
def codes1 : List Jvm.Cond := [Jvm.Cond.code x code maxLocals ret, Jvm.Cond.code ({ cls := "com/example/muster/muster/search/SortKeys", name := "withNumbers", desc := "([B[I)[B" } : Jvm.MethodName) prog_84_method_7_code (4 : Nat) (Option.some (Jvm.ClassFile.FieldType.array Jvm.ClassFile.FieldType.byte)), Jvm.Cond.code ({ cls := "java/util/Arrays", name := "copyOf", desc := "([BI)[B" } : Jvm.MethodName) jdk_65_method_121_code (3 : Nat) (Option.some (Jvm.ClassFile.FieldType.array Jvm.ClassFile.FieldType.byte)), Jvm.Cond.code ({ cls := "java/lang/Math", name := "min", desc := "(II)I" } : Jvm.MethodName) jdk_29_method_69_code (2 : Nat) (Option.some Jvm.ClassFile.FieldType.int), Jvm.Cond.code ({ cls := "com/example/muster/muster/search/SortKeys", name := "writeNumber", desc := "([BII)V" } : Jvm.MethodName) prog_84_method_9_code (3 : Nat) (Option.none : Option Jvm.ClassFile.FieldType), Jvm.Cond.code ({ cls := "com/example/muster/muster/search/SortKeys", name := "readNumber", desc := "([BI)I" } : Jvm.MethodName) prog_84_method_8_code (2 : Nat) (Option.some Jvm.ClassFile.FieldType.int)]
set_option maxRecDepth 65536 in
theorem codes_eq : words1.filter isCode = codes1 := rfl
theorem w_codes : ∀ c ∈ words1.filter isCode, c.before args0 about1 = true := by
  rw [codes_eq]
  intro c hc
  simp only [codes1, List.mem_cons, List.not_mem_nil, or_false] at hc
  rcases hc with rfl | rfl | rfl | rfl | rfl | rfl
  · exact w_c0
  · exact w_c1
  · exact w_c2
  · exact w_c3
  · exact w_c4
  · exact w_c5
set_option maxRecDepth 65536 in
theorem w_t1 : (words1.take 24).all (fun c => isCode c || c.before args0 about1) = true := by decide +kernel
set_option maxRecDepth 65536 in
theorem w_t2 : (words1.drop 24).all (fun c => isCode c || c.before args0 about1) = true := by decide +kernel
theorem w_tables : (allAtoms (Jvm.Cond.code x code maxLocals ret :: tables_1)).before args0 about1 = true := by
  rw [allAtoms_all]
  show words1.all (fun c => c.before args0 about1) = true
  refine all_split ?_ w_codes
  rw [← List.take_append_drop 24 words1, List.all_append, w_t1, w_t2]
  rfl
set_option maxRecDepth 65536 in
theorem w_case : (Jvm.Cond.and given_1 narrow_1).before args0 about1 = true := by decide +kernel
theorem w_applies : (headSpec (Jvm.Cond.code x code maxLocals ret :: tables_1) room_1).applies x e0.platform about1 = true :=
  (Spec.applies_iff w_frames).mpr ⟨w_running, w_runnable, w_alone, w_named, w_hears, w_ripe, w_room, w_tables⟩
theorem atStart : AtStart classFile x code maxLocals ret World_1 tables_1 room_1 Calls_1 rest_1 Pre_1 launch0 p0 e0 about1 theMethod args0 below0 :=
  ⟨lists_1, trivial, launch0.admits_env _ _ _, launch0.least_env, fairChoices_fair.cas, fairChoices_fair.clock, w_frames, w_args, w_heap, w_applies, trivial, trivial, w_case⟩
end start1
theorem witness_1 : WitnessClaimed_1 := ⟨start1.p0, start1.e0, start1.about1, start1.theMethod, start1.args0, start1.below0, start1.atStart⟩
end Jvm.Pilot.@@N@@
