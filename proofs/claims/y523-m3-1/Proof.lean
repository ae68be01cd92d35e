import JvmDerived
import JvmDerived.Pilot.@@N@@Statement
import JvmDerived.Pilot.@@N@@Code
set_option linter.unusedVariables false
set_option linter.unusedSimpArgs false
namespace Jvm.Pilot.@@N@@
open Jvm Jvm.ClassFile Sem Op Lib Jvm.Free Jvm.Stand Jvm.LawKit Jvm.RoadKit Bundle Jvm.Pilot.@@N@@.Jvm.D
section OwnKit
variable {p : Program} {l : Launch} {e : Env} {R : Room} {s : State} {m : MethodId} {args : Array Value} {below : List Frame} {meth : Method} {c : Code} {T T' : State} {locs : List Loc} {cells slots kc kn : Nat} {Q : Option Value → Heap → List Loc → Prop} {f f' : JFrame} {pc q q' : Nat} {Ls Ls' : Array Slot} {st : List Value} {Z : State} {a0 : Array Value} {h : Heap} {by' : ByteArray} {ml : Nat} {own nm : String} {ret : Option FieldType}
/-- from this state, with this frame on top, the body returns as Q says -/
def Run (p : Program) (e : Env) (below : List Frame) (s : State) (kc kn : Nat) (Q : Option Value → Heap → List Loc → Prop) (T : State) (f : JFrame) : Prop :=
  ∃ t o, Steps p.tables e below (T.setTop f) t ∧ t.status = .running ∧ Ended t below o ∧ ∃ v L, o = .returned v ∧ Q v t.heap L ∧ FrameEnd s o t L kc kn
theorem Run.by (st : ∀ t, Steps p.tables e below (T'.setTop f') t → Steps p.tables e below (T.setTop f) t) (k : Run p e below s kc kn Q T' f') : Run p e below s kc kn Q T f := by
  obtain ⟨t, o, h1, r⟩ := k
  exact ⟨t, o, st t h1, r⟩
theorem Run.on (k : Run p e below s kc kn Q T' f') (st : Steps p.tables e below (T.setTop f) (T'.setTop f')) : Run p e below s kc kn Q T f := k.by fun _ h1 => st.trans h1
/-- what a walk knows of its method throughout -/
def Fx (p : Program) (s : State) (m : MethodId) (meth : Method) (c : Code) (by' : ByteArray) (ml : Nat) (own nm : String) (ret : Option FieldType) (Z : State) : Prop :=
  p.tables.exec = Jvm.exec ∧ c.code = by' ∧ c.maxLocals = ml ∧ s.vm.findClass own = some m.cls ∧ Z.Warmed39 s.vm ∧ meth.sig.returnType = ret ∧ meth.locks = false ∧ meth.name = nm
def ushrI (x k : Int32) : Int32 := (x.toUInt32 >>> (k &&& 31).toUInt32).toInt32
def shlI (x k : Int32) : Int32 := x <<< (k &&& 31)
def ushrL (x : Int64) (k : Int32) : Int64 := (x.toUInt64 >>> (k &&& 0x3f).toInt64.toUInt64).toInt64
def shlL (x : Int64) (k : Int32) : Int64 := x <<< (k &&& 0x3f).toInt64
def i2b (x : Int32) : Int32 := x.toInt8.toInt32
theorem k_iloadN (K : Fx p s m meth c by' ml own nm ret Z) (X : Stand p l e R s m args below meth c T locs cells slots) {k' : Fin 4} {v : Int32} (hd : decode by' pc = .ok (.iload_n k', 1)) (hl : Ls[k'.val]? = some (.val (.int v))) (hq : pc + 1 = q) (k : Run p e below s kc kn Q T (mkF m q Ls (.int v :: st))) : Run p e below s kc kn Q T (mkF m pc Ls st) := by
  subst hq; exact k.by fun t => XS.iloadN X.here K.1 rfl (hb K.2.1 hd) hl
theorem k_iload (K : Fx p s m meth c by' ml own nm ret Z) (X : Stand p l e R s m args below meth c T locs cells slots) {k' : Nat} {v : Int32} (hd : decode by' pc = .ok (.iload k', 2)) (hl : Ls[k']? = some (.val (.int v))) (hq : pc + 2 = q) (k : Run p e below s kc kn Q T (mkF m q Ls (.int v :: st))) : Run p e below s kc kn Q T (mkF m pc Ls st) := by
  subst hq; exact k.by fun t => XS.iload X.here K.1 rfl (hb K.2.1 hd) hl
theorem k_lload (K : Fx p s m meth c by' ml own nm ret Z) (X : Stand p l e R s m args below meth c T locs cells slots) {k' : Nat} {v : Int64} (hd : decode by' pc = .ok (.lload k', 2)) (hl : Ls[k']? = some (.val (.long v))) (hq : pc + 2 = q) (k : Run p e below s kc kn Q T (mkF m q Ls (.long v :: st))) : Run p e below s kc kn Q T (mkF m pc Ls st) := by
  subst hq; exact k.by fun t => XS.lload X.here K.1 rfl (hb K.2.1 hd) hl
theorem k_aloadN (K : Fx p s m meth c by' ml own nm ret Z) (X : Stand p l e R s m args below meth c T locs cells slots) {k' : Fin 4} {v : Value} (hd : decode by' pc = .ok (.aload_n k', 1)) (hl : Ls[k'.val]? = some (.val v)) (hv : v.isRef = true) (hq : pc + 1 = q) (k : Run p e below s kc kn Q T (mkF m q Ls (v :: st))) : Run p e below s kc kn Q T (mkF m pc Ls st) := by
  subst hq; exact k.by fun t => XS.aloadN X.here K.1 rfl (hb K.2.1 hd) hl hv
theorem k_aload (K : Fx p s m meth c by' ml own nm ret Z) (X : Stand p l e R s m args below meth c T locs cells slots) {k' : Nat} {v : Value} (hd : decode by' pc = .ok (.aload k', 2)) (hl : Ls[k']? = some (.val v)) (hv : v.isRef = true) (hq : pc + 2 = q) (k : Run p e below s kc kn Q T (mkF m q Ls (v :: st))) : Run p e below s kc kn Q T (mkF m pc Ls st) := by
  subst hq; exact k.by fun t => XS.aload X.here K.1 rfl (hb K.2.1 hd) hl hv
theorem k_istoreN (K : Fx p s m meth c by' ml own nm ret Z) (X : Stand p l e R s m args below meth c T locs cells slots) {k' : Fin 4} {v x : Int32} (hd : decode by' pc = .ok (.istore_n k', 1)) (hv : x = v) (hl : storeLocals Ls k'.val (.int v) = some Ls') (hq : pc + 1 = q) (k : Run p e below s kc kn Q T (mkF m q Ls' st)) : Run p e below s kc kn Q T (mkF m pc Ls (.int x :: st)) := by
  subst hq hv; exact k.by fun t => XS.istoreN X.here K.1 rfl (hb K.2.1 hd) rfl hl
theorem k_istore (K : Fx p s m meth c by' ml own nm ret Z) (X : Stand p l e R s m args below meth c T locs cells slots) {k' : Nat} {v x : Int32} (hd : decode by' pc = .ok (.istore k', 2)) (hv : x = v) (hl : storeLocals Ls k' (.int v) = some Ls') (hq : pc + 2 = q) (k : Run p e below s kc kn Q T (mkF m q Ls' st)) : Run p e below s kc kn Q T (mkF m pc Ls (.int x :: st)) := by
  subst hq hv; exact k.by fun t => XS.istore X.here K.1 rfl (hb K.2.1 hd) rfl hl
theorem k_lstore (K : Fx p s m meth c by' ml own nm ret Z) (X : Stand p l e R s m args below meth c T locs cells slots) {k' : Nat} {v x : Int64} (hd : decode by' pc = .ok (.lstore k', 2)) (hv : x = v) (hl : storeLocals Ls k' (.long v) = some Ls') (hq : pc + 2 = q) (k : Run p e below s kc kn Q T (mkF m q Ls' st)) : Run p e below s kc kn Q T (mkF m pc Ls (.long x :: st)) := by
  subst hq hv; exact k.by fun t => XS.lstore X.here K.1 rfl (hb K.2.1 hd) rfl hl
theorem k_astore (K : Fx p s m meth c by' ml own nm ret Z) (X : Stand p l e R s m args below meth c T locs cells slots) {k' : Nat} {v : Value} (hd : decode by' pc = .ok (.astore k', 2)) (hv : v.isRef = true) (hl : storeLocals Ls k' v = some Ls') (hq : pc + 2 = q) (k : Run p e below s kc kn Q T (mkF m q Ls' st)) : Run p e below s kc kn Q T (mkF m pc Ls (v :: st)) := by
  subst hq; exact k.by fun t => XS.astore X.here K.1 rfl (hb K.2.1 hd) rfl hv hl
theorem k_iinc (K : Fx p s m meth c by' ml own nm ret Z) (X : Stand p l e R s m args below meth c T locs cells slots) {k' : Nat} {cst : Int} {x v : Int32} (hd : decode by' pc = .ok (.iinc k' cst, 3)) (hg : Ls[k']? = some (.val (.int x))) (hv : x + Int32.ofInt cst = v) (hl : storeLocals Ls k' (.int v) = some Ls') (hq : pc + 3 = q) (k : Run p e below s kc kn Q T (mkF m q Ls' st)) : Run p e below s kc kn Q T (mkF m pc Ls st) := by
  subst hq hv; exact k.by fun t => XS.iinc X.here K.1 rfl (hb K.2.1 hd) hg hl
theorem k_iconst (K : Fx p s m meth c by' ml own nm ret Z) (X : Stand p l e R s m args below meth c T locs cells slots) {i : Int} {v : Int32} (hd : decode by' pc = .ok (.iconst i, 1)) (hv : Int32.ofInt i = v) (hq : pc + 1 = q) (k : Run p e below s kc kn Q T (mkF m q Ls (.int v :: st))) : Run p e below s kc kn Q T (mkF m pc Ls st) := by
  subst hq hv; exact k.by fun t => XS.iconst X.here K.1 rfl (hb K.2.1 hd)
theorem k_bipush (K : Fx p s m meth c by' ml own nm ret Z) (X : Stand p l e R s m args below meth c T locs cells slots) {i : Int} {v : Int32} (hd : decode by' pc = .ok (.bipush i, 2)) (hv : (Int8.ofInt i).toInt32 = v) (hq : pc + 2 = q) (k : Run p e below s kc kn Q T (mkF m q Ls (.int v :: st))) : Run p e below s kc kn Q T (mkF m pc Ls st) := by
  subst hq hv; exact k.by fun t => XS.bipush X.here K.1 rfl (hb K.2.1 hd)
theorem k_sipush (K : Fx p s m meth c by' ml own nm ret Z) (X : Stand p l e R s m args below meth c T locs cells slots) {i : Int} {v : Int32} (hd : decode by' pc = .ok (.sipush i, 3)) (hv : (Int16.ofInt i).toInt32 = v) (hq : pc + 3 = q) (k : Run p e below s kc kn Q T (mkF m q Ls (.int v :: st))) : Run p e below s kc kn Q T (mkF m pc Ls st) := by
  subst hq hv; exact k.by fun t => XS.sipush X.here K.1 rfl (hb K.2.1 hd)
theorem k_lconst0 (K : Fx p s m meth c by' ml own nm ret Z) (X : Stand p l e R s m args below meth c T locs cells slots) (hd : decode by' pc = .ok (.lconst 0, 1)) (hq : pc + 1 = q) (k : Run p e below s kc kn Q T (mkF m q Ls (.long 0 :: st))) : Run p e below s kc kn Q T (mkF m pc Ls st) := by
  subst hq; exact k.by fun t => XS.lconst X.here K.1 rfl (hb K.2.1 hd)
theorem k_iadd (K : Fx p s m meth c by' ml own nm ret Z) (X : Stand p l e R s m args below meth c T locs cells slots) {x y : Int32} (hd : decode by' pc = .ok (.iadd, 1)) (hq : pc + 1 = q) (k : Run p e below s kc kn Q T (mkF m q Ls (.int (x + y) :: st))) : Run p e below s kc kn Q T (mkF m pc Ls (.int y :: .int x :: st)) := by
  subst hq; exact k.by fun t => XS.iadd X.here K.1 rfl (hb K.2.1 hd) rfl
theorem k_isub (K : Fx p s m meth c by' ml own nm ret Z) (X : Stand p l e R s m args below meth c T locs cells slots) {x y : Int32} (hd : decode by' pc = .ok (.isub, 1)) (hq : pc + 1 = q) (k : Run p e below s kc kn Q T (mkF m q Ls (.int (x - y) :: st))) : Run p e below s kc kn Q T (mkF m pc Ls (.int y :: .int x :: st)) := by
  subst hq; exact k.by fun t => XS.isub X.here K.1 rfl (hb K.2.1 hd) rfl
theorem k_iand (K : Fx p s m meth c by' ml own nm ret Z) (X : Stand p l e R s m args below meth c T locs cells slots) {x y : Int32} (hd : decode by' pc = .ok (.iand, 1)) (hq : pc + 1 = q) (k : Run p e below s kc kn Q T (mkF m q Ls (.int (x &&& y) :: st))) : Run p e below s kc kn Q T (mkF m pc Ls (.int y :: .int x :: st)) := by
  subst hq; exact k.by fun t => XS.iand X.here K.1 rfl (hb K.2.1 hd) rfl
theorem k_ior (K : Fx p s m meth c by' ml own nm ret Z) (X : Stand p l e R s m args below meth c T locs cells slots) {x y : Int32} (hd : decode by' pc = .ok (.ior, 1)) (hq : pc + 1 = q) (k : Run p e below s kc kn Q T (mkF m q Ls (.int (x ||| y) :: st))) : Run p e below s kc kn Q T (mkF m pc Ls (.int y :: .int x :: st)) := by
  subst hq; exact k.by fun t => XS.ior X.here K.1 rfl (hb K.2.1 hd) rfl
theorem k_lor (K : Fx p s m meth c by' ml own nm ret Z) (X : Stand p l e R s m args below meth c T locs cells slots) {x y : Int64} (hd : decode by' pc = .ok (.lor, 1)) (hq : pc + 1 = q) (k : Run p e below s kc kn Q T (mkF m q Ls (.long (x ||| y) :: st))) : Run p e below s kc kn Q T (mkF m pc Ls (.long y :: .long x :: st)) := by
  subst hq; exact k.by fun t => XS.lor X.here K.1 rfl (hb K.2.1 hd) rfl
theorem k_ishl (K : Fx p s m meth c by' ml own nm ret Z) (X : Stand p l e R s m args below meth c T locs cells slots) {x y : Int32} (hd : decode by' pc = .ok (.ishl, 1)) (hq : pc + 1 = q) (k : Run p e below s kc kn Q T (mkF m q Ls (.int (shlI x y) :: st))) : Run p e below s kc kn Q T (mkF m pc Ls (.int y :: .int x :: st)) := by
  subst hq; exact k.by fun t => XS.ishl X.here K.1 rfl (hb K.2.1 hd) rfl
theorem k_lshl (K : Fx p s m meth c by' ml own nm ret Z) (X : Stand p l e R s m args below meth c T locs cells slots) {x : Int64} {y : Int32} (hd : decode by' pc = .ok (.lshl, 1)) (hq : pc + 1 = q) (k : Run p e below s kc kn Q T (mkF m q Ls (.long (shlL x y) :: st))) : Run p e below s kc kn Q T (mkF m pc Ls (.int y :: .long x :: st)) := by
  subst hq; exact k.by fun t => XS.lshl X.here K.1 rfl (hb K.2.1 hd) rfl
theorem k_iushr (K : Fx p s m meth c by' ml own nm ret Z) (X : Stand p l e R s m args below meth c T locs cells slots) {x y : Int32} (hd : decode by' pc = .ok (.iushr, 1)) (hq : pc + 1 = q) (k : Run p e below s kc kn Q T (mkF m q Ls (.int (ushrI x y) :: st))) : Run p e below s kc kn Q T (mkF m pc Ls (.int y :: .int x :: st)) := by
  subst hq; exact k.by fun t => XS.iushr X.here K.1 rfl (hb K.2.1 hd) rfl
theorem k_lushr (K : Fx p s m meth c by' ml own nm ret Z) (X : Stand p l e R s m args below meth c T locs cells slots) {x : Int64} {y : Int32} (hd : decode by' pc = .ok (.lushr, 1)) (hq : pc + 1 = q) (k : Run p e below s kc kn Q T (mkF m q Ls (.long (ushrL x y) :: st))) : Run p e below s kc kn Q T (mkF m pc Ls (.int y :: .long x :: st)) := by
  subst hq; exact k.by fun t => XS.lushr X.here K.1 rfl (hb K.2.1 hd) rfl
theorem k_i2l (K : Fx p s m meth c by' ml own nm ret Z) (X : Stand p l e R s m args below meth c T locs cells slots) {x : Int32} (hd : decode by' pc = .ok (.i2l, 1)) (hq : pc + 1 = q) (k : Run p e below s kc kn Q T (mkF m q Ls (.long x.toInt64 :: st))) : Run p e below s kc kn Q T (mkF m pc Ls (.int x :: st)) := by
  subst hq; exact k.by fun t => XS.i2l X.here K.1 rfl (hb K.2.1 hd) rfl
theorem k_l2i (K : Fx p s m meth c by' ml own nm ret Z) (X : Stand p l e R s m args below meth c T locs cells slots) {x : Int64} (hd : decode by' pc = .ok (.l2i, 1)) (hq : pc + 1 = q) (k : Run p e below s kc kn Q T (mkF m q Ls (.int x.toInt32 :: st))) : Run p e below s kc kn Q T (mkF m pc Ls (.long x :: st)) := by
  subst hq; exact k.by fun t => XS.l2i X.here K.1 rfl (hb K.2.1 hd) rfl
theorem k_i2b (K : Fx p s m meth c by' ml own nm ret Z) (X : Stand p l e R s m args below meth c T locs cells slots) {x : Int32} (hd : decode by' pc = .ok (.i2b, 1)) (hq : pc + 1 = q) (k : Run p e below s kc kn Q T (mkF m q Ls (.int (i2b x) :: st))) : Run p e below s kc kn Q T (mkF m pc Ls (.int x :: st)) := by
  subst hq; exact k.by fun t => XS.i2b X.here K.1 rfl (hb K.2.1 hd) rfl
theorem k_idiv (K : Fx p s m meth c by' ml own nm ret Z) (X : Stand p l e R s m args below meth c T locs cells slots) {x y : Int32} (hd : decode by' pc = .ok (.idiv, 1)) (hy : y ≠ 0) (hq : pc + 1 = q) (k : Run p e below s kc kn Q T (mkF m q Ls (.int (x / y) :: st))) : Run p e below s kc kn Q T (mkF m pc Ls (.int y :: .int x :: st)) := by
  subst hq; exact k.by fun t => XS.idiv X.here K.1 rfl (hb K.2.1 hd) rfl hy
theorem k_irem (K : Fx p s m meth c by' ml own nm ret Z) (X : Stand p l e R s m args below meth c T locs cells slots) {x y : Int32} (hd : decode by' pc = .ok (.irem, 1)) (hy : y ≠ 0) (hq : pc + 1 = q) (k : Run p e below s kc kn Q T (mkF m q Ls (.int (x % y) :: st))) : Run p e below s kc kn Q T (mkF m pc Ls (.int y :: .int x :: st)) := by
  subst hq; exact k.by fun t => iremM X K.1 rfl (hb K.2.1 hd) rfl hy
theorem k_dup (K : Fx p s m meth c by' ml own nm ret Z) (X : Stand p l e R s m args below meth c T locs cells slots) {v : Value} (hd : decode by' pc = .ok (.dup, 1)) (hc : v.category = 1) (hq : pc + 1 = q) (k : Run p e below s kc kn Q T (mkF m q Ls (v :: v :: st))) : Run p e below s kc kn Q T (mkF m pc Ls (v :: st)) := by
  subst hq; exact k.by fun t => XS.dup X.here K.1 rfl (hb K.2.1 hd) rfl hc
theorem k_goto (K : Fx p s m meth c by' ml own nm ret Z) (X : Stand p l e R s m args below meth c T locs cells slots) {o : Int} (hd : decode by' pc = .ok (.goto o, 3)) (ho : 0 ≤ (pc : Int) + o) (hq : ((pc : Int) + o).toNat = q) (k : Run p e below s kc kn Q T (mkF m q Ls st)) : Run p e below s kc kn Q T (mkF m pc Ls st) := k.by fun t => XS.goto X.here K.1 rfl rfl (hb K.2.1 hd) ho hq
theorem k_if_eq_y (K : Fx p s m meth c by' ml own nm ret Z) (X : Stand p l e R s m args below meth c T locs cells slots) {x : Int32} {o : Int} (hd : decode by' pc = .ok (.ifCond .eq o, 3)) (hc : x = 0) (ho : 0 ≤ (pc : Int) + o) (hq : ((pc : Int) + o).toNat = q) (k : Run p e below s kc kn Q T (mkF m q Ls st)) : Run p e below s kc kn Q T (mkF m pc Ls (.int x :: st)) := k.by fun t => XS.ifYes X.here K.1 rfl rfl (hb K.2.1 hd) rfl ((if0 _ _).trans (teq hc).1) ho hq
theorem k_if_eq_n (K : Fx p s m meth c by' ml own nm ret Z) (X : Stand p l e R s m args below meth c T locs cells slots) {x : Int32} {o : Int} (hd : decode by' pc = .ok (.ifCond .eq o, 3)) (hc : ¬ x = 0) (hq : pc + 3 = q) (k : Run p e below s kc kn Q T (mkF m q Ls st)) : Run p e below s kc kn Q T (mkF m pc Ls (.int x :: st)) := by
  subst hq; exact k.by fun t => XS.ifNo X.here K.1 rfl (hb K.2.1 hd) rfl ((if0 _ _).trans (feq hc).1)
theorem k_if_eq (K : Fx p s m meth c by' ml own nm ret Z) (X : Stand p l e R s m args below meth c T locs cells slots) {x : Int32} {o : Int} (hd : decode by' pc = .ok (.ifCond .eq o, 3)) (ho : 0 ≤ (pc : Int) + o) (hq : ((pc : Int) + o).toNat = q) (hq' : pc + 3 = q') (ky : x = 0 → Run p e below s kc kn Q T (mkF m q Ls st)) (kno : ¬ x = 0 → Run p e below s kc kn Q T (mkF m q' Ls st)) : Run p e below s kc kn Q T (mkF m pc Ls (.int x :: st)) := by
  by_cases hc : x = 0
  · exact k_if_eq_y K X hd hc ho hq (ky hc)
  · exact k_if_eq_n K X hd hc hq' (kno hc)
theorem k_if_ne_y (K : Fx p s m meth c by' ml own nm ret Z) (X : Stand p l e R s m args below meth c T locs cells slots) {x : Int32} {o : Int} (hd : decode by' pc = .ok (.ifCond .ne o, 3)) (hc : ¬ x = 0) (ho : 0 ≤ (pc : Int) + o) (hq : ((pc : Int) + o).toNat = q) (k : Run p e below s kc kn Q T (mkF m q Ls st)) : Run p e below s kc kn Q T (mkF m pc Ls (.int x :: st)) := k.by fun t => XS.ifYes X.here K.1 rfl rfl (hb K.2.1 hd) rfl ((if0 _ _).trans (feq hc).2) ho hq
theorem k_if_ne_n (K : Fx p s m meth c by' ml own nm ret Z) (X : Stand p l e R s m args below meth c T locs cells slots) {x : Int32} {o : Int} (hd : decode by' pc = .ok (.ifCond .ne o, 3)) (hc : x = 0) (hq : pc + 3 = q) (k : Run p e below s kc kn Q T (mkF m q Ls st)) : Run p e below s kc kn Q T (mkF m pc Ls (.int x :: st)) := by
  subst hq; exact k.by fun t => XS.ifNo X.here K.1 rfl (hb K.2.1 hd) rfl ((if0 _ _).trans (teq hc).2)
theorem k_if_ne (K : Fx p s m meth c by' ml own nm ret Z) (X : Stand p l e R s m args below meth c T locs cells slots) {x : Int32} {o : Int} (hd : decode by' pc = .ok (.ifCond .ne o, 3)) (ho : 0 ≤ (pc : Int) + o) (hq : ((pc : Int) + o).toNat = q) (hq' : pc + 3 = q') (ky : ¬ x = 0 → Run p e below s kc kn Q T (mkF m q Ls st)) (kno : x = 0 → Run p e below s kc kn Q T (mkF m q' Ls st)) : Run p e below s kc kn Q T (mkF m pc Ls (.int x :: st)) := by
  by_cases hc : x = 0
  · exact k_if_ne_n K X hd hc hq' (kno hc)
  · exact k_if_ne_y K X hd hc ho hq (ky hc)
theorem k_icmp_ne_y (K : Fx p s m meth c by' ml own nm ret Z) (X : Stand p l e R s m args below meth c T locs cells slots) {x y : Int32} {o : Int} (hd : decode by' pc = .ok (.if_icmp .ne o, 3)) (hc : ¬ x = y) (ho : 0 ≤ (pc : Int) + o) (hq : ((pc : Int) + o).toNat = q) (k : Run p e below s kc kn Q T (mkF m q Ls st)) : Run p e below s kc kn Q T (mkF m pc Ls (.int y :: .int x :: st)) := k.by fun t => XS.icmpYes X.here K.1 rfl rfl (hb K.2.1 hd) rfl (feq hc).2 ho hq
theorem k_icmp_ne_n (K : Fx p s m meth c by' ml own nm ret Z) (X : Stand p l e R s m args below meth c T locs cells slots) {x y : Int32} {o : Int} (hd : decode by' pc = .ok (.if_icmp .ne o, 3)) (hc : x = y) (hq : pc + 3 = q) (k : Run p e below s kc kn Q T (mkF m q Ls st)) : Run p e below s kc kn Q T (mkF m pc Ls (.int y :: .int x :: st)) := by
  subst hq; exact k.by fun t => XS.icmpNo X.here K.1 rfl (hb K.2.1 hd) rfl (teq hc).2
theorem k_icmp_ne (K : Fx p s m meth c by' ml own nm ret Z) (X : Stand p l e R s m args below meth c T locs cells slots) {x y : Int32} {o : Int} (hd : decode by' pc = .ok (.if_icmp .ne o, 3)) (ho : 0 ≤ (pc : Int) + o) (hq : ((pc : Int) + o).toNat = q) (hq' : pc + 3 = q') (ky : ¬ x = y → Run p e below s kc kn Q T (mkF m q Ls st)) (kno : x = y → Run p e below s kc kn Q T (mkF m q' Ls st)) : Run p e below s kc kn Q T (mkF m pc Ls (.int y :: .int x :: st)) := by
  by_cases hc : x = y
  · exact k_icmp_ne_n K X hd hc hq' (kno hc)
  · exact k_icmp_ne_y K X hd hc ho hq (ky hc)
theorem k_if_lt_y (K : Fx p s m meth c by' ml own nm ret Z) (X : Stand p l e R s m args below meth c T locs cells slots) {x : Int32} {o : Int} (hd : decode by' pc = .ok (.ifCond .lt o, 3)) (hc : x < 0) (ho : 0 ≤ (pc : Int) + o) (hq : ((pc : Int) + o).toNat = q) (k : Run p e below s kc kn Q T (mkF m q Ls st)) : Run p e below s kc kn Q T (mkF m pc Ls (.int x :: st)) := k.by fun t => XS.ifYes X.here K.1 rfl rfl (hb K.2.1 hd) rfl ((if0 _ _).trans (tlt hc).1) ho hq
theorem k_if_lt_n (K : Fx p s m meth c by' ml own nm ret Z) (X : Stand p l e R s m args below meth c T locs cells slots) {x : Int32} {o : Int} (hd : decode by' pc = .ok (.ifCond .lt o, 3)) (hc : ¬ x < 0) (hq : pc + 3 = q) (k : Run p e below s kc kn Q T (mkF m q Ls st)) : Run p e below s kc kn Q T (mkF m pc Ls (.int x :: st)) := by
  subst hq; exact k.by fun t => XS.ifNo X.here K.1 rfl (hb K.2.1 hd) rfl ((if0 _ _).trans (flt hc).1)
theorem k_if_lt (K : Fx p s m meth c by' ml own nm ret Z) (X : Stand p l e R s m args below meth c T locs cells slots) {x : Int32} {o : Int} (hd : decode by' pc = .ok (.ifCond .lt o, 3)) (ho : 0 ≤ (pc : Int) + o) (hq : ((pc : Int) + o).toNat = q) (hq' : pc + 3 = q') (ky : x < 0 → Run p e below s kc kn Q T (mkF m q Ls st)) (kno : ¬ x < 0 → Run p e below s kc kn Q T (mkF m q' Ls st)) : Run p e below s kc kn Q T (mkF m pc Ls (.int x :: st)) := by
  by_cases hc : x < 0
  · exact k_if_lt_y K X hd hc ho hq (ky hc)
  · exact k_if_lt_n K X hd hc hq' (kno hc)
theorem k_icmp_lt_y (K : Fx p s m meth c by' ml own nm ret Z) (X : Stand p l e R s m args below meth c T locs cells slots) {x y : Int32} {o : Int} (hd : decode by' pc = .ok (.if_icmp .lt o, 3)) (hc : x < y) (ho : 0 ≤ (pc : Int) + o) (hq : ((pc : Int) + o).toNat = q) (k : Run p e below s kc kn Q T (mkF m q Ls st)) : Run p e below s kc kn Q T (mkF m pc Ls (.int y :: .int x :: st)) := k.by fun t => XS.icmpYes X.here K.1 rfl rfl (hb K.2.1 hd) rfl (tlt hc).1 ho hq
theorem k_icmp_lt_n (K : Fx p s m meth c by' ml own nm ret Z) (X : Stand p l e R s m args below meth c T locs cells slots) {x y : Int32} {o : Int} (hd : decode by' pc = .ok (.if_icmp .lt o, 3)) (hc : ¬ x < y) (hq : pc + 3 = q) (k : Run p e below s kc kn Q T (mkF m q Ls st)) : Run p e below s kc kn Q T (mkF m pc Ls (.int y :: .int x :: st)) := by
  subst hq; exact k.by fun t => XS.icmpNo X.here K.1 rfl (hb K.2.1 hd) rfl (flt hc).1
theorem k_icmp_lt (K : Fx p s m meth c by' ml own nm ret Z) (X : Stand p l e R s m args below meth c T locs cells slots) {x y : Int32} {o : Int} (hd : decode by' pc = .ok (.if_icmp .lt o, 3)) (ho : 0 ≤ (pc : Int) + o) (hq : ((pc : Int) + o).toNat = q) (hq' : pc + 3 = q') (ky : x < y → Run p e below s kc kn Q T (mkF m q Ls st)) (kno : ¬ x < y → Run p e below s kc kn Q T (mkF m q' Ls st)) : Run p e below s kc kn Q T (mkF m pc Ls (.int y :: .int x :: st)) := by
  by_cases hc : x < y
  · exact k_icmp_lt_y K X hd hc ho hq (ky hc)
  · exact k_icmp_lt_n K X hd hc hq' (kno hc)
theorem k_if_ge_y (K : Fx p s m meth c by' ml own nm ret Z) (X : Stand p l e R s m args below meth c T locs cells slots) {x : Int32} {o : Int} (hd : decode by' pc = .ok (.ifCond .ge o, 3)) (hc : ¬ x < 0) (ho : 0 ≤ (pc : Int) + o) (hq : ((pc : Int) + o).toNat = q) (k : Run p e below s kc kn Q T (mkF m q Ls st)) : Run p e below s kc kn Q T (mkF m pc Ls (.int x :: st)) := k.by fun t => XS.ifYes X.here K.1 rfl rfl (hb K.2.1 hd) rfl ((if0 _ _).trans (flt hc).2.1) ho hq
theorem k_if_ge_n (K : Fx p s m meth c by' ml own nm ret Z) (X : Stand p l e R s m args below meth c T locs cells slots) {x : Int32} {o : Int} (hd : decode by' pc = .ok (.ifCond .ge o, 3)) (hc : x < 0) (hq : pc + 3 = q) (k : Run p e below s kc kn Q T (mkF m q Ls st)) : Run p e below s kc kn Q T (mkF m pc Ls (.int x :: st)) := by
  subst hq; exact k.by fun t => XS.ifNo X.here K.1 rfl (hb K.2.1 hd) rfl ((if0 _ _).trans (tlt hc).2.1)
theorem k_if_ge (K : Fx p s m meth c by' ml own nm ret Z) (X : Stand p l e R s m args below meth c T locs cells slots) {x : Int32} {o : Int} (hd : decode by' pc = .ok (.ifCond .ge o, 3)) (ho : 0 ≤ (pc : Int) + o) (hq : ((pc : Int) + o).toNat = q) (hq' : pc + 3 = q') (ky : ¬ x < 0 → Run p e below s kc kn Q T (mkF m q Ls st)) (kno : x < 0 → Run p e below s kc kn Q T (mkF m q' Ls st)) : Run p e below s kc kn Q T (mkF m pc Ls (.int x :: st)) := by
  by_cases hc : x < 0
  · exact k_if_ge_n K X hd hc hq' (kno hc)
  · exact k_if_ge_y K X hd hc ho hq (ky hc)
theorem k_icmp_ge_y (K : Fx p s m meth c by' ml own nm ret Z) (X : Stand p l e R s m args below meth c T locs cells slots) {x y : Int32} {o : Int} (hd : decode by' pc = .ok (.if_icmp .ge o, 3)) (hc : ¬ x < y) (ho : 0 ≤ (pc : Int) + o) (hq : ((pc : Int) + o).toNat = q) (k : Run p e below s kc kn Q T (mkF m q Ls st)) : Run p e below s kc kn Q T (mkF m pc Ls (.int y :: .int x :: st)) := k.by fun t => XS.icmpYes X.here K.1 rfl rfl (hb K.2.1 hd) rfl (flt hc).2.1 ho hq
theorem k_icmp_ge_n (K : Fx p s m meth c by' ml own nm ret Z) (X : Stand p l e R s m args below meth c T locs cells slots) {x y : Int32} {o : Int} (hd : decode by' pc = .ok (.if_icmp .ge o, 3)) (hc : x < y) (hq : pc + 3 = q) (k : Run p e below s kc kn Q T (mkF m q Ls st)) : Run p e below s kc kn Q T (mkF m pc Ls (.int y :: .int x :: st)) := by
  subst hq; exact k.by fun t => XS.icmpNo X.here K.1 rfl (hb K.2.1 hd) rfl (tlt hc).2.1
theorem k_icmp_ge (K : Fx p s m meth c by' ml own nm ret Z) (X : Stand p l e R s m args below meth c T locs cells slots) {x y : Int32} {o : Int} (hd : decode by' pc = .ok (.if_icmp .ge o, 3)) (ho : 0 ≤ (pc : Int) + o) (hq : ((pc : Int) + o).toNat = q) (hq' : pc + 3 = q') (ky : ¬ x < y → Run p e below s kc kn Q T (mkF m q Ls st)) (kno : x < y → Run p e below s kc kn Q T (mkF m q' Ls st)) : Run p e below s kc kn Q T (mkF m pc Ls (.int y :: .int x :: st)) := by
  by_cases hc : x < y
  · exact k_icmp_ge_n K X hd hc hq' (kno hc)
  · exact k_icmp_ge_y K X hd hc ho hq (ky hc)
theorem k_icmp_gt_y (K : Fx p s m meth c by' ml own nm ret Z) (X : Stand p l e R s m args below meth c T locs cells slots) {x y : Int32} {o : Int} (hd : decode by' pc = .ok (.if_icmp .gt o, 3)) (hc : y < x) (ho : 0 ≤ (pc : Int) + o) (hq : ((pc : Int) + o).toNat = q) (k : Run p e below s kc kn Q T (mkF m q Ls st)) : Run p e below s kc kn Q T (mkF m pc Ls (.int y :: .int x :: st)) := k.by fun t => XS.icmpYes X.here K.1 rfl rfl (hb K.2.1 hd) rfl (tlt hc).2.2.1 ho hq
theorem k_icmp_gt_n (K : Fx p s m meth c by' ml own nm ret Z) (X : Stand p l e R s m args below meth c T locs cells slots) {x y : Int32} {o : Int} (hd : decode by' pc = .ok (.if_icmp .gt o, 3)) (hc : ¬ y < x) (hq : pc + 3 = q) (k : Run p e below s kc kn Q T (mkF m q Ls st)) : Run p e below s kc kn Q T (mkF m pc Ls (.int y :: .int x :: st)) := by
  subst hq; exact k.by fun t => XS.icmpNo X.here K.1 rfl (hb K.2.1 hd) rfl (flt hc).2.2.1
theorem k_icmp_gt (K : Fx p s m meth c by' ml own nm ret Z) (X : Stand p l e R s m args below meth c T locs cells slots) {x y : Int32} {o : Int} (hd : decode by' pc = .ok (.if_icmp .gt o, 3)) (ho : 0 ≤ (pc : Int) + o) (hq : ((pc : Int) + o).toNat = q) (hq' : pc + 3 = q') (ky : y < x → Run p e below s kc kn Q T (mkF m q Ls st)) (kno : ¬ y < x → Run p e below s kc kn Q T (mkF m q' Ls st)) : Run p e below s kc kn Q T (mkF m pc Ls (.int y :: .int x :: st)) := by
  by_cases hc : y < x
  · exact k_icmp_gt_y K X hd hc ho hq (ky hc)
  · exact k_icmp_gt_n K X hd hc hq' (kno hc)
theorem k_ldc (K : Fx p s m meth c by' ml own nm ret Z) (X : Stand p l e R s m args below meth c T locs cells slots) {i : Nat} {v : Int32} (hd : decode by' pc = .ok (.ldc i, 2)) (w : (Cond.constant own i v).before a0 Z = true) (hq : pc + 2 = q) (k : Run p e below s kc kn Q T (mkF m q Ls (.int v :: st))) : Run p e below s kc kn Q T (mkF m pc Ls st) := by
  subst hq; exact k.by fun t => X.ldcInt K.1 K.2.2.2.1 (mvT K.2.2.2.2.1 w) (g := mkF m pc Ls st) rfl (hb K.2.1 hd) t
theorem k_reti (K : Fx p s m meth c by' ml own nm (some .int) Z) (X : Stand p l e R s m args below meth c T locs cells slots) {x : Int32} (eT : T.heap = h) (hd : decode by' pc = .ok (.ireturn, 1)) (hc : cells ≤ kc) (hn : slots ≤ kn) (hQ : Q (some (.int x)) h locs) : Run p e below s kc kn Q T (mkF m pc Ls [.int x]) := by
  subst eT
  have hlk := K.2.2.2.2.2.2.1
  obtain ⟨fs, hr, hrun, hended, hW, hsame⟩ := X.leave (v := (some (.int x))) (fun z => by rw [K.2.2.2.2.2.1] at z; cases z)
  exact ⟨_, _, X.ireturnOut K.1 K.2.2.2.2.2.1 rfl (Or.inl rfl) (hb K.2.1 hd) hr, hrun, hended, _, _, rfl, hQ, ⟨_, rfl⟩, hW, hsame.mono hc hn⟩
theorem k_retz (K : Fx p s m meth c by' ml own nm (some .boolean) Z) (X : Stand p l e R s m args below meth c T locs cells slots) {x : Int32} (eT : T.heap = h) (hd : decode by' pc = .ok (.ireturn, 1)) (hc : cells ≤ kc) (hn : slots ≤ kn) (hQ : Q (some (.int (nar .boolean x))) h locs) : Run p e below s kc kn Q T (mkF m pc Ls [.int x]) := by
  subst eT
  have hlk := K.2.2.2.2.2.2.1
  obtain ⟨fs, hr, hrun, hended, hW, hsame⟩ := X.leave (v := (some (.int (nar .boolean x)))) (fun z => by rw [K.2.2.2.2.2.1] at z; cases z)
  exact ⟨_, _, retN X K.1 K.2.2.2.2.2.1 (by simp) (hb K.2.1 hd) hr, hrun, hended, _, _, rfl, hQ, ⟨_, rfl⟩, hW, hsame.mono hc hn⟩
theorem k_retl (K : Fx p s m meth c by' ml own nm (some .long) Z) (X : Stand p l e R s m args below meth c T locs cells slots) {x : Int64} (eT : T.heap = h) (hd : decode by' pc = .ok (.lreturn, 1)) (hc : cells ≤ kc) (hn : slots ≤ kn) (hQ : Q (some (.long x)) h locs) : Run p e below s kc kn Q T (mkF m pc Ls [.long x]) := by
  subst eT
  have hlk := K.2.2.2.2.2.2.1
  obtain ⟨fs, hr, hrun, hended, hW, hsame⟩ := X.leave (v := (some (.long x))) (fun z => by rw [K.2.2.2.2.2.1] at z; cases z)
  exact ⟨_, _, X.lreturnOut K.1 K.2.2.2.2.2.1 (hb K.2.1 hd) hr, hrun, hended, _, _, rfl, hQ, ⟨_, rfl⟩, hW, hsame.mono hc hn⟩
theorem k_retv (K : Fx p s m meth c by' ml own nm none Z) (X : Stand p l e R s m args below meth c T locs cells slots)  (eT : T.heap = h) (hd : decode by' pc = .ok (.return_, 1)) (hc : cells ≤ kc) (hn : slots ≤ kn) (hQ : Q none h locs) : Run p e below s kc kn Q T (mkF m pc Ls []) := by
  subst eT
  have hlk := K.2.2.2.2.2.2.1
  obtain ⟨fs, hr, hrun, hended, hW, hsame⟩ := X.leave (v := none) (fun _ => rfl)
  exact ⟨_, _, X.returnOut K.1 K.2.2.2.2.2.1 (hb K.2.1 hd) hr, hrun, hended, _, _, rfl, hQ, ⟨_, rfl⟩, hW, hsame.mono hc hn⟩
/-- a contract: with these arguments over this heap the body returns as Q says, within the room -/
abbrev Met (l : Launch) (y : MethodName) (bytes : ByteArray) (maxL : Nat) (ret : Option FieldType) (ws : List Jvm.Cond) (rm : Room) (Z : State) (as' : Array Value) (h0 : Heap) (Q : Option Value → Heap → List Loc → Prop) : Prop :=
  MetFree l y (head1 (Jvm.Cond.code y bytes maxL ret :: ws) rm) (fun a U => a = as' ∧ Z.Warmed39 U.vm ∧ U.heap = h0) (fun _ _ _ _ _ => True) (fun _ U o U' => ∃ v L, o = .returned v ∧ Q v U'.heap L ∧ FrameEnd U o U' L rm.cells rm.slots)
theorem enter {y : MethodName} {bytes : ByteArray} {maxL : Nat} {ws : List Jvm.Cond} {rm : Room} {as' : Array Value} {h0 : Heap} (hpl : plainFor y = true) (hef : ∀ m, entryFrame m as' maxL = mkF m 0 Ls [])
    (body : ∀ p e s m below meth c T kc kn Q', rm.cells ≤ kc → rm.slots ≤ kn → (∀ v h L, Q v h L → Q' v h L) → Fx p s m meth c bytes maxL y.cls y.name ret Z → Stand p l e rm s m as' below meth c T [] 0 0 → T.heap = h0 → Run p e below s kc kn Q' T (mkF m 0 Ls [])) : Met l y bytes maxL ret ws rm Z as' h0 Q := by
  refine MetFree.of_bodySF hpl hisR ?_
  intro p e s m args below meth c s₁ Bd hml0 hP hK
  obtain ⟨rfl, hZ, hh⟩ := hP
  obtain ⟨t, o, h1, h2, h3, v, L, h4, h5, h6⟩ := body p e s m below meth c s₁ _ _ Q (Nat.le_refl _) (Nat.le_refl _) (fun _ _ _ z => z) ⟨Bd.exec, Bd.bytes, hml0, findClass_of_methodNamed Bd.named, hZ, Bd.returns, BodyLoose.notSynchronized Bd, (name_of_methodNamed Bd.named Bd.method).1⟩ (Stand.of_body Bd) (by rw [← hh, Bd.state]; rfl)
  exact ⟨t, o, castTop (hef m) h1, h2, h3, v, L, h4, h5, h6⟩
theorem k_static (K : Fx p s m meth c by' ml own nm ret Z) (X : Stand p l e R s m args below meth c T locs cells slots) (eT : T.heap = h) {y : MethodName} {bytes : ByteArray} {maxL i W : Nat} {rt : Option FieldType} {rm : Room} {as' : Array Value} {Q' : Option Value → Heap → List Loc → Prop}
    (hd : decode by' pc = .ok (.invokestatic i, 3)) (w1 : (Cond.methodLink own i y).before a0 Z = true) (w2 : (Cond.static y).before a0 Z = true) (w3 : (Cond.initialized y.cls).before a0 Z = true) (w4 : (Cond.code y bytes maxL rt).before a0 Z = true) (hy : y.cls ≠ "java/lang/invoke/MethodHandle" ∧ y.cls ≠ "java/lang/invoke/VarHandle")
    (hM : Met l y bytes maxL rt [] rm Z as' h Q') (hf : rm.frames + 1 ≤ R.frames) (hl : W + (maxL + 11) + rm.locals ≤ R.locals) (hc : cells + rm.cells ≤ R.cells) (hn : slots + rm.slots ≤ R.slots) (hsz : Ls.size = ml)
    {sig : MethodDescriptor} (hdesc : parseMethodDescriptor y.desc = some sig) {argsL rest : List Value} (ha : as' = argsL.toArray) (hlen : argsL.length = sig.parameters.length) (hst : st = argsL.reverse ++ rest) (hW : (rest.map fun v => v.category).sum ≤ W) (hq : pc + 3 = q)
    (k : ∀ v T' L, Stand p l e R s m args below meth c T' (locs ++ L) (cells + rm.cells) (slots + rm.slots) → Q' v T'.heap L → Run p e below s kc kn Q T' (mkF m q Ls (v.toList ++ rest))) : Run p e below s kc kn Q T (mkF m pc Ls st) := by
  have hZ := K.2.2.2.2.1
  subst hq
  obtain ⟨v, _, ⟨T2, L2, k2, n2⟩, -, X2, ⟨Lc, hQ2, l2, y2, z2⟩, st2⟩ := Jvm.LawKit.callS X K.1 (y := y) K.2.2.2.1 (mvT hZ w1) (mvT hZ w2) (mvT hZ w3) (mvT hZ w4) hy (backOf (W := W) hM hZ w4 w3 hf hl) (g := mkF m pc Ls st) rfl (by rw [K.2.2.1]; exact hsz) (argsL := argsL) (rest := rest) (fun sg hs => by cases hdesc.symm.trans hs; exact hlen) hst (by show 2 * 0 + _ ≤ _; omega) (hb K.2.1 hd) (fun _ _ => ⟨ha.symm, eT, hc, hn⟩)
  dsimp only [Pt.U, Pt.locs, Pt.cells, Pt.slots] at X2 l2 y2 z2 st2 hQ2
  subst l2 y2 z2
  exact (k v T2 Lc X2 hQ2).by st2
/-- a static callee that leaves the heap as it was -/
theorem k_staticP (K : Fx p s m meth c by' ml own nm ret Z) (X : Stand p l e R s m args below meth c T locs cells slots) (eT : T.heap = h) {y : MethodName} {bytes : ByteArray} {maxL i W fr lo : Nat} {rt : Option FieldType} {as' : Array Value} {w : Value}
    (hd : decode by' pc = .ok (.invokestatic i, 3)) (w1 : (Cond.methodLink own i y).before a0 Z = true) (w2 : (Cond.static y).before a0 Z = true) (w3 : (Cond.initialized y.cls).before a0 Z = true) (w4 : (Cond.code y bytes maxL rt).before a0 Z = true) (hy : y.cls ≠ "java/lang/invoke/MethodHandle" ∧ y.cls ≠ "java/lang/invoke/VarHandle")
    (hM : Met l y bytes maxL rt [] { frames := fr, cells := 0, slots := 0, locals := lo } Z as' h (fun v h' L => v = some w ∧ h' = h ∧ L = [])) (hf : fr + 1 ≤ R.frames) (hl : W + (maxL + 11) + lo ≤ R.locals) (hc : cells ≤ R.cells) (hn : slots ≤ R.slots) (hsz : Ls.size = ml)
    {sig : MethodDescriptor} (hdesc : parseMethodDescriptor y.desc = some sig) {argsL rest : List Value} (ha : as' = argsL.toArray) (hlen : argsL.length = sig.parameters.length) (hst : st = argsL.reverse ++ rest) (hW : (rest.map fun v => v.category).sum ≤ W) (hq : pc + 3 = q)
    (k : ∀ T', Stand p l e R s m args below meth c T' locs cells slots → T'.heap = h → Run p e below s kc kn Q T' (mkF m q Ls (w :: rest))) : Run p e below s kc kn Q T (mkF m pc Ls st) := by
  refine k_static K X eT hd w1 w2 w3 w4 hy hM hf hl hc hn hsz hdesc ha hlen hst hW hq ?_
  rintro v T' L X' ⟨rfl, h2, rfl⟩
  rw [List.append_nil] at X'
  exact k T' X' h2
theorem k_special (K : Fx p s m meth c by' ml own nm ret Z) (X : Stand p l e R s m args below meth c T locs cells slots) (eT : T.heap = h) {y : MethodName} {bytes : ByteArray} {maxL i W : Nat} {rm : Room} {as' : Array Value} {Q' : Option Value → Heap → List Loc → Prop} {a : Addr}
    (hd : decode by' pc = .ok (.invokespecial i, 3)) (hy1 : y.name = "<init>") (w1 : (Cond.methodLink own i y).before a0 Z = true) (w2 : (Cond.instanceMethod y).before a0 Z = true) (w3 : (Cond.initialized y.cls).before a0 Z = true) (w4 : (Cond.code y bytes maxL none).before a0 Z = true) (hy : y.cls ≠ "java/lang/invoke/MethodHandle" ∧ y.cls ≠ "java/lang/invoke/VarHandle")
    (hM : Met l y bytes maxL none [] rm Z as' h Q') (hf : rm.frames + 1 ≤ R.frames) (hl : W + (maxL + 11) + rm.locals ≤ R.locals) (hc : cells + rm.cells ≤ R.cells) (hn : slots + rm.slots ≤ R.slots) (hsz : Ls.size = ml)
    {sig : MethodDescriptor} (hdesc : parseMethodDescriptor y.desc = some sig) {argsL rest : List Value} (ha : as' = (.ref a :: argsL).toArray) (hlen : argsL.length = sig.parameters.length) (hst : st = argsL.reverse ++ .ref a :: rest) (hW : (rest.map fun v => v.category).sum ≤ W) (hq : pc + 3 = q)
    (k : ∀ v T' L, Stand p l e R s m args below meth c T' (locs ++ L) (cells + rm.cells) (slots + rm.slots) → Q' v T'.heap L → Run p e below s kc kn Q T' (mkF m q Ls (v.toList ++ rest))) : Run p e below s kc kn Q T (mkF m pc Ls st) := by
  have hZ := K.2.2.2.2.1
  subst hq
  obtain ⟨v, _, ⟨T2, L2, k2, n2⟩, -, X2, ⟨Lc, hQ2, l2, y2, z2⟩, st2⟩ := X.specialBack K.1 (y := y) hy1 K.2.2.2.1 (mvT hZ w1) (mvT hZ w2) (mvT hZ w4) hy (backOf (W := W) hM hZ w4 w3 hf hl) (g := mkF m pc Ls st) rfl (by rw [K.2.2.1]; exact hsz) (Steps.refl _) (a := a) (argsL := argsL) (rest := rest) (fun sg hs => by cases hdesc.symm.trans hs; exact hlen) hst (by show 2 * 0 + _ ≤ _; omega) (hb K.2.1 hd) (fun _ _ => ⟨ha.symm, eT, hc, hn⟩)
  dsimp only [Pt.U, Pt.locs, Pt.cells, Pt.slots] at X2 l2 y2 z2 st2 hQ2
  subst l2 y2 z2
  exact (k v T2 Lc X2 hQ2).on st2
theorem k_virtual (K : Fx p s m meth c by' ml own nm ret Z) (X : Stand p l e R s m args below meth c T locs cells slots) (eT : T.heap = h) {y : MethodName} {bytes : ByteArray} {maxL i W : Nat} {rt : Option FieldType} {rm : Room} {as' : Array Value} {Q' : Option Value → Heap → List Loc → Prop} {a : Addr}
    (hd : decode by' pc = .ok (.invokevirtual i, 3)) (w1 : (Cond.methodLink own i y).before a0 Z = true) (w2 : (Cond.declares y).before a0 Z = true) (w5 : (Cond.selects y.cls y y).before a0 Z = true) (w6 : (Cond.instanceMethod y).before a0 Z = true) (w3 : (Cond.initialized y.cls).before a0 Z = true) (w4 : (Cond.code y bytes maxL rt).before a0 Z = true) (hy : y.cls ≠ "java/lang/invoke/MethodHandle" ∧ y.cls ≠ "java/lang/invoke/VarHandle")
    (hE : Exa Z h a y.cls) (hM : Met l y bytes maxL rt [] rm Z as' h Q') (hf : rm.frames + 1 ≤ R.frames) (hl : W + (maxL + 11) + rm.locals ≤ R.locals) (hc : cells + rm.cells ≤ R.cells) (hn : slots + rm.slots ≤ R.slots) (hsz : Ls.size = ml)
    {sig : MethodDescriptor} (hdesc : parseMethodDescriptor y.desc = some sig) {argsL rest : List Value} (ha : as' = (.ref a :: argsL).toArray) (hlen : argsL.length = sig.parameters.length) (hst : st = argsL.reverse ++ .ref a :: rest) (hW : (rest.map fun v => v.category).sum ≤ W) (hq : pc + 3 = q)
    (k : ∀ v T' L, Stand p l e R s m args below meth c T' (locs ++ L) (cells + rm.cells) (slots + rm.slots) → Q' v T'.heap L → Run p e below s kc kn Q T' (mkF m q Ls (v.toList ++ rest))) : Run p e below s kc kn Q T (mkF m pc Ls st) := by
  have hZ := K.2.2.2.2.1
  subst hq
  obtain ⟨cq, kq, qa, qb, qc⟩ := isOf hZ eT hE
  obtain ⟨v, _, ⟨T2, L2, k2, n2⟩, -, X2, ⟨Lc, hQ2, l2, y2, z2⟩, st2⟩ := X.virtualBack K.1 (y := y) (z := y) K.2.2.2.1 (mvT hZ w1) (mvT hZ w2) (notFace_of_selects (args := #[]) (mvT hZ w5)) (mvT hZ w5) (mvT hZ w6) hy (backOf (W := W) hM hZ w4 w3 hf hl) qa qc (g := mkF m pc Ls st) rfl (by rw [K.2.2.1]; exact hsz) (Steps.refl _) (argsL := argsL) (rest := rest) (fun sg hs => by cases hdesc.symm.trans hs; exact hlen) hst (by show 2 * 0 + _ ≤ _; omega) (hb K.2.1 hd) (fun _ _ => ⟨ha.symm, eT, hc, hn⟩)
  dsimp only [Pt.U, Pt.locs, Pt.cells, Pt.slots] at X2 l2 y2 z2 st2 hQ2
  subst l2 y2 z2
  exact (k v T2 Lc X2 hQ2).on st2
theorem k_initO (K : Fx p s m meth c by' ml own nm ret Z) (X : Stand p l e R s m args below meth c T locs cells slots) (eT : T.heap = h) {i W : Nat} {a : Addr} (hd : decode by' pc = .ok (.invokespecial i, 3)) (w1 : (Cond.methodLink own i Lib.objectInit).before a0 Z = true) (w2 : (Cond.instanceMethod Lib.objectInit).before a0 Z = true) (w3 : (Cond.code Lib.objectInit ⟨#[0xb1]⟩ 1 none).before a0 Z = true)
    (hsz : Ls.size = ml) (hf : 1 ≤ R.frames) (hW : (st.map fun v => v.category).sum ≤ W) (hl : W + 12 ≤ R.locals) (hq : pc + 3 = q)
    (k : ∀ T', Stand p l e R s m args below meth c T' locs cells slots → T'.heap = h → Run p e below s kc kn Q T' (mkF m q Ls st)) : Run p e below s kc kn Q T (mkF m pc Ls (.ref a :: st)) := by
  subst hq
  obtain ⟨T2, X2, e2, st2⟩ := initO X K.1 K.2.2.2.2.1 K.2.2.2.1 w1 w2 w3 eT (g := mkF m pc Ls (.ref a :: st)) rfl (by rw [K.2.2.1]; exact hsz) rfl (hb K.2.1 hd) hf (W := W) (by show 2 * 0 + _ ≤ _; omega) hl
  exact (k T2 X2 e2).by st2
theorem k_new (K : Fx p s m meth c by' ml own nm ret Z) (X : Stand p l e R s m args below meth c T locs cells slots) (eT : T.heap = h) {i n : Nat} {C : String} (hd : decode by' pc = .ok (.new i, 3)) (w1 : (Cond.classLink own i C).before a0 Z = true) (w2 : (Cond.instantiable C n).before a0 Z = true) (w3 : (Cond.initialized C).before a0 Z = true) (hc : cells + 1 ≤ R.cells) (hn : slots + n ≤ R.slots) (hq : pc + 3 = q)
    (k : ∀ T' h' a, Stand p l e R s m args below meth c T' locs (cells + 1) (slots + n) → T'.heap = h' → a = h.size → Ext h h' → Exa Z h' a C → (∀ {O fn d : String} {ty : FieldType}, Laid Z a0 C O fn d → parseFieldDescriptor d = some ty → Fld Z h' a O fn d (defaultValue ty)) → Run p e below s kc kn Q T' (mkF m q Ls (.ref a :: st))) : Run p e below s kc kn Q T (mkF m pc Ls st) := by
  subst hq
  obtain ⟨T2, h2, X2, e2, E2, A2, D2, -, st2⟩ := newO X K.1 K.2.2.2.2.1 K.2.2.2.1 w1 w2 w3 eT (g := mkF m pc Ls st) rfl (hb K.2.1 hd) hc hn
  exact (k T2 h2 h.size X2 e2 rfl E2 A2 D2).by st2
theorem k_getfield (K : Fx p s m meth c by' ml own nm ret Z) (X : Stand p l e R s m args below meth c T locs cells slots) (eT : T.heap = h) {i : Nat} {O fn d : String} {a : Addr} {v : Value} (hd : decode by' pc = .ok (.getfield i, 3)) (w : (Cond.fieldLink own i O fn d).before a0 Z = true) (F : Fld Z h a O fn d v) (hq : pc + 3 = q)
    (k : ∀ T', Stand p l e R s m args below meth c T' locs cells slots → T'.heap = h → Run p e below s kc kn Q T' (mkF m q Ls (v :: st))) : Run p e below s kc kn Q T (mkF m pc Ls (.ref a :: st)) := by
  subst hq
  obtain ⟨T2, X2, e2, st2⟩ := getF X K.1 K.2.2.2.2.1 K.2.2.2.1 (host := "") (Or.inl w) Via.refl eT F (g := mkF m pc Ls (.ref a :: st)) rfl rfl (hb K.2.1 hd)
  exact (k T2 X2 e2).by st2
theorem k_putfield (K : Fx p s m meth c by' ml own nm ret Z) (X : Stand p l e R s m args below meth c T locs cells slots) (eT : T.heap = h) {i n : Nat} {O C fn d : String} {ty : FieldType} {a : Addr} {v old : Value} (hd : decode by' pc = .ok (.putfield i, 3)) (w : (Cond.fieldLink own i O fn d).before a0 Z = true) (F : Fld Z h a O fn d old) (E : Exa Z h a C) (L : (Cond.lays C O fn d).before a0 Z = true ∨ ((Cond.laysFinal C O fn d).before a0 Z = true ∧ own = O ∧ nm = "<init>")) (wi : (Cond.instantiable C n).before a0 Z = true)
    (hty : parseFieldDescriptor d = some ty) (hnar : narrow ty v = v) (hfit : fits ty v = true) (hq : pc + 3 = q)
    (k : ∀ T' h', Stand p l e R s m args below meth c T' (locs ++ [⟨a, Jvm.RoadKit.slotOf Z O fn d⟩]) cells slots → T'.heap = h' → Wr h h' a (Jvm.RoadKit.slotOf Z O fn d) v → Run p e below s kc kn Q T' (mkF m q Ls st)) : Run p e below s kc kn Q T (mkF m pc Ls (v :: .ref a :: st)) := by
  subst hq
  obtain ⟨T2, h2, X2, e2, W2, st2⟩ := putF X K.1 K.2.2.2.2.1 K.2.2.2.1 (host := "") (Or.inl w) Via.refl eT F E (L.imp id fun z => ⟨z.1, z.2.1, K.2.2.2.2.2.2.2.trans z.2.2⟩) wi hty hnar hfit (g := mkF m pc Ls (v :: .ref a :: st)) rfl rfl (hb K.2.1 hd)
  exact (k T2 h2 X2 e2 W2).by st2
theorem k_putfieldN (K : Fx p s m meth c by' ml own nm ret Z) (X : Stand p l e R s m args below meth c T locs cells slots) (eT : T.heap = h) {i n : Nat} {O C fn d : String} {ty : FieldType} {a : Addr} {v v' old : Value} (hd : decode by' pc = .ok (.putfield i, 3)) (w : (Cond.fieldLink own i O fn d).before a0 Z = true) (F : Fld Z h a O fn d old) (E : Exa Z h a C) (L : (Cond.lays C O fn d).before a0 Z = true ∨ ((Cond.laysFinal C O fn d).before a0 Z = true ∧ own = O ∧ nm = "<init>")) (wi : (Cond.instantiable C n).before a0 Z = true)
    (hty : parseFieldDescriptor d = some ty) (hnar : narrow ty v = v') (hfit : fits ty v' = true) (hq : pc + 3 = q)
    (k : ∀ T' h', Stand p l e R s m args below meth c T' (locs ++ [⟨a, Jvm.RoadKit.slotOf Z O fn d⟩]) cells slots → T'.heap = h' → Wr h h' a (Jvm.RoadKit.slotOf Z O fn d) v' → Run p e below s kc kn Q T' (mkF m q Ls st)) : Run p e below s kc kn Q T (mkF m pc Ls (v :: .ref a :: st)) := by
  subst hq
  obtain ⟨T2, h2, X2, e2, W2, st2⟩ := putFN X K.1 K.2.2.2.2.1 K.2.2.2.1 w Via.refl eT F E (L.imp id fun z => ⟨z.1, z.2.1, K.2.2.2.2.2.2.2.trans z.2.2⟩) wi hty hnar hfit (g := mkF m pc Ls (v :: .ref a :: st)) rfl rfl (hb K.2.1 hd)
  exact (k T2 h2 X2 e2 W2).by st2
/-- an instance method that leaves the heap as it was -/
theorem k_virtualP (K : Fx p s m meth c by' ml own nm ret Z) (X : Stand p l e R s m args below meth c T locs cells slots) (eT : T.heap = h) {y : MethodName} {bytes : ByteArray} {maxL i W fr lo : Nat} {rt : Option FieldType} {as' : Array Value} {w : Value} {a : Addr}
    (hd : decode by' pc = .ok (.invokevirtual i, 3)) (w1 : (Cond.methodLink own i y).before a0 Z = true) (w2 : (Cond.declares y).before a0 Z = true) (w5 : (Cond.selects y.cls y y).before a0 Z = true) (w6 : (Cond.instanceMethod y).before a0 Z = true) (w3 : (Cond.initialized y.cls).before a0 Z = true) (w4 : (Cond.code y bytes maxL rt).before a0 Z = true) (hy : y.cls ≠ "java/lang/invoke/MethodHandle" ∧ y.cls ≠ "java/lang/invoke/VarHandle")
    (hE : Exa Z h a y.cls) (hM : Met l y bytes maxL rt [] { frames := fr, cells := 0, slots := 0, locals := lo } Z as' h (fun v h' L => v = some w ∧ h' = h ∧ L = [])) (hf : fr + 1 ≤ R.frames) (hl : W + (maxL + 11) + lo ≤ R.locals) (hc : cells ≤ R.cells) (hn : slots ≤ R.slots) (hsz : Ls.size = ml)
    {sig : MethodDescriptor} (hdesc : parseMethodDescriptor y.desc = some sig) {argsL rest : List Value} (ha : as' = (.ref a :: argsL).toArray) (hlen : argsL.length = sig.parameters.length) (hst : st = argsL.reverse ++ .ref a :: rest) (hW : (rest.map fun v => v.category).sum ≤ W) (hq : pc + 3 = q)
    (k : ∀ T', Stand p l e R s m args below meth c T' locs cells slots → T'.heap = h → Run p e below s kc kn Q T' (mkF m q Ls (w :: rest))) : Run p e below s kc kn Q T (mkF m pc Ls st) := by
  refine k_virtual K X eT hd w1 w2 w5 w6 w3 w4 hy hE hM hf hl hc hn hsz hdesc ha hlen hst hW hq ?_
  rintro v T' L X' ⟨rfl, h2, rfl⟩
  rw [List.append_nil] at X'
  exact k T' X' h2
/-- a constructor that does nothing to the heap -/
theorem k_specialP (K : Fx p s m meth c by' ml own nm ret Z) (X : Stand p l e R s m args below meth c T locs cells slots) (eT : T.heap = h) {y : MethodName} {bytes : ByteArray} {maxL i W fr lo : Nat} {as' : Array Value} {a : Addr}
    (hd : decode by' pc = .ok (.invokespecial i, 3)) (hy1 : y.name = "<init>") (w1 : (Cond.methodLink own i y).before a0 Z = true) (w2 : (Cond.instanceMethod y).before a0 Z = true) (w3 : (Cond.initialized y.cls).before a0 Z = true) (w4 : (Cond.code y bytes maxL none).before a0 Z = true) (hy : y.cls ≠ "java/lang/invoke/MethodHandle" ∧ y.cls ≠ "java/lang/invoke/VarHandle")
    (hM : Met l y bytes maxL none [] { frames := fr, cells := 0, slots := 0, locals := lo } Z as' h (fun v h' L => v = none ∧ h' = h ∧ L = [])) (hf : fr + 1 ≤ R.frames) (hl : W + (maxL + 11) + lo ≤ R.locals) (hc : cells ≤ R.cells) (hn : slots ≤ R.slots) (hsz : Ls.size = ml)
    {sig : MethodDescriptor} (hdesc : parseMethodDescriptor y.desc = some sig) {argsL rest : List Value} (ha : as' = (.ref a :: argsL).toArray) (hlen : argsL.length = sig.parameters.length) (hst : st = argsL.reverse ++ .ref a :: rest) (hW : (rest.map fun v => v.category).sum ≤ W) (hq : pc + 3 = q)
    (k : ∀ T', Stand p l e R s m args below meth c T' locs cells slots → T'.heap = h → Run p e below s kc kn Q T' (mkF m q Ls rest)) : Run p e below s kc kn Q T (mkF m pc Ls st) := by
  refine k_special K X eT hd hy1 w1 w2 w3 w4 hy hM hf hl hc hn hsz hdesc ha hlen hst hW hq ?_
  rintro v T' L X' ⟨rfl, h2, rfl⟩
  rw [List.append_nil] at X'
  exact k T' X' h2
theorem setD {α β : Type} (f : α → β) (L : List α) (k : Nat) (x d : α) (hk : k < L.length) (i : Nat) : (if i = k then f x else f (L.getD i d)) = f ((L.set k x).getD i d) := by
  simp only [List.getD_eq_getElem?_getD]
  by_cases q : i = k
  · subst q; simp [hk]
  · rw [if_neg q, List.getElem?_set_ne (Ne.symm q)]
/-- an array of n places; place i holds g i -/
def Ary (Z : State) (h : Heap) (a : Addr) (ty : FieldType) (n : Nat) (g : Nat → Value) : Prop := ∃ c : Cell, Arr Z h a c ty ∧ c.slots.size = n ∧ n < 2147483648 ∧ (∀ i, i < n → c.slots[i]? = some (g i)) ∧ ∀ i, i < n → fits ty (g i) = true
theorem Ary.lt {a : Addr} {ty : FieldType} {n : Nat} {g : Nat → Value} (F : Ary Z h a ty n g) : a < h.size := by obtain ⟨c, A, -⟩ := F; exact A.lt
theorem Ary.ext {h' : Heap} {a : Addr} {ty : FieldType} {n : Nat} {g : Nat → Value} (F : Ary Z h a ty n g) (E : Ext h h') : Ary Z h' a ty n g := by obtain ⟨c, A, r⟩ := F; exact ⟨c, A.ext E, r⟩
theorem Ary.other {h' : Heap} {a b : Addr} {ty : FieldType} {n sl : Nat} {v : Value} {g : Nat → Value} (F : Ary Z h b ty n g) (W : Wr h h' a sl v) (q : b ≠ a) : Ary Z h' b ty n g := by obtain ⟨c, A, r⟩ := F; exact ⟨c, A.other W q, r⟩
theorem Ary.keep {h' : Heap} {a : Addr} {ty : FieldType} {n : Nat} {g : Nat → Value} {ws : List Addr} (F : Ary Z h a ty n g) (K : Keep h h' ws) (q : a ∉ ws) : Ary Z h' a ty n g := by obtain ⟨c, A, r⟩ := F; exact ⟨c, ⟨K.2.1 a c A.1 q, A.2⟩, r⟩
theorem Ary.eqv {a : Addr} {ty : FieldType} {n : Nat} {g g' : Nat → Value} (F : Ary Z h a ty n g) (q : ∀ i, i < n → g i = g' i) : Ary Z h a ty n g' := by
  obtain ⟨c, A, r1, r2, r3, r4⟩ := F; exact ⟨c, A, r1, r2, fun i hi => by rw [← q i hi]; exact r3 i hi, fun i hi => by rw [← q i hi]; exact r4 i hi⟩
theorem Ary.set {h' : Heap} {a : Addr} {ty : FieldType} {n i : Nat} {v : Value} {g : Nat → Value} (F : Ary Z h a ty n g) (W : Wr h h' a i v) (hv : fits ty v = true) : Ary Z h' a ty n (fun k => if k = i then v else g k) := by
  obtain ⟨c, A, r1, r2, r3, r4⟩ := F
  obtain ⟨c', w1, w2, w3, w4⟩ := W
  cases A.1.symm.trans w1
  refine ⟨_, A.same ⟨c, w1, w2, w3, w4⟩, by rw [sz_set]; exact r1, r2, fun k hk => ?_, fun k hk => ?_⟩
  · show (c.setSlot i v).slots[k]? = some (if k = i then v else g k)
    by_cases q : k = i
    · subst q; simp [Cell.setSlot, w3]
    · rw [if_neg q]
      show (c.slots.setIfInBounds i v)[k]? = _
      rw [Array.getElem?_setIfInBounds_ne (Ne.symm q)]; exact r3 k hk
  · show fits ty (if k = i then v else g k) = true
    by_cases q : k = i
    · rw [if_pos q]; exact hv
    · rw [if_neg q]; exact r4 k hk
/-- the int j is the place i -/
abbrev Ix (j : Int32) (i : Nat) : Prop := ¬ j < 0 ∧ j.toNatClampNeg = i
theorem Ix.of {j : Int32} {i : Nat} (h : j.toInt = i) : Ix j i := by
  refine ⟨?_, ?_⟩
  · rw [Int32.lt_iff_toInt_lt, h]; have : (0 : Int32).toInt = 0 := rfl
    omega
  · simp only [Int32.toNatClampNeg, h]; omega
theorem Ix.inb {j : Int32} {i n : Nat} (hi : Ix j i) (hn : i < n) {cl : Cell} (hs : cl.slots.size = n) : ¬ (j < 0 ∨ cl.slots.size ≤ j.toNatClampNeg) := fun z => z.elim hi.1 fun z => by rw [hs, hi.2] at z; omega
theorem k_baload (K : Fx p s m meth c by' ml own nm ret Z) (X : Stand p l e R s m args below meth c T locs cells slots) (eT : T.heap = h) {a : Addr} {n i : Nat} {g : Nat → Value} {j : Int32} {v : Value} (hd : decode by' pc = .ok (.baload, 1)) (A : Ary Z h a .byte n g) (hi : Ix j i) (hn : i < n) (hg : g i = v) (hq : pc + 1 = q) (k : Run p e below s kc kn Q T (mkF m q Ls (v :: st))) : Run p e below s kc kn Q T (mkF m pc Ls (.int j :: .ref a :: st)) := by
  subst hq hg
  obtain ⟨c', A, r1, r2, r3, -⟩ := A
  exact k.by fun t => X.baloadBytes K.1 (j := j) (v := g i) (by rw [eT]; exact A.1) (State.isArrayOf_alike K.2.2.2.2.1.alike A.2.1) A.2.2 (hi.inb hn r1) (by rw [hi.2]; exact r3 i hn) (g := mkF m pc Ls (.int j :: .ref a :: st)) rfl rfl (hb K.2.1 hd) t
theorem k_bastore (K : Fx p s m meth c by' ml own nm ret Z) (X : Stand p l e R s m args below meth c T locs cells slots) (eT : T.heap = h) {a : Addr} {n i : Nat} {g : Nat → Value} {j : Int32} {x : Int32} (hd : decode by' pc = .ok (.bastore, 1)) (A : Ary Z h a .byte n g) (hi : Ix j i) (hn : i < n) (hq : pc + 1 = q)
    (k : ∀ T' h', Stand p l e R s m args below meth c T' (locs ++ [⟨a, i⟩]) cells slots → T'.heap = h' → Wr h h' a i (.int (nar .byte x)) → Ary Z h' a .byte n (fun k => if k = i then .int (nar .byte x) else g k) → Run p e below s kc kn Q T' (mkF m q Ls st)) : Run p e below s kc kn Q T (mkF m pc Ls (.int x :: .int j :: .ref a :: st)) := by
  subst hq
  have A0 := A
  obtain ⟨c', A, r1, r2, r3, -⟩ := A
  obtain ⟨T2, h2, X2, e2, W2, st2⟩ := stB X K.1 K.2.2.2.2.1 eT A (j := j) (hi.inb hn r1) (g := mkF m pc Ls (.int x :: .int j :: .ref a :: st)) rfl rfl (hb K.2.1 hd)
  rw [hi.2] at X2 W2
  exact (k T2 h2 X2 e2 W2 (A0.set W2 (fits_nar_byte x))).by st2
theorem k_newarray (K : Fx p s m meth c by' ml own nm ret Z) (X : Stand p l e R s m args below meth c T locs cells slots) (eT : T.heap = h) {aty : ArrayType} {ty : FieldType} {z : Int32} {n cap : Nat} (hd : decode by' pc = .ok (.newarray aty, 2)) (hty : newarray.typeOf aty = ty) (w : (Cond.arrayClass ty).before a0 Z = true) (hz : Ix z n) (hcap : n ≤ cap) (h8 : cap * 8 ≤ 536870912) (hc : cells + 1 ≤ R.cells) (hn : slots + cap ≤ R.slots) (hq : pc + 2 = q)
    (k : ∀ T' h' a, Stand p l e R s m args below meth c T' locs (cells + 1) (slots + cap) → T'.heap = h' → a = h.size → Ext h h' → Ary Z h' a ty n (fun _ => defaultValue ty) → Run p e below s kc kn Q T' (mkF m q Ls (.ref a :: st))) : Run p e below s kc kn Q T (mkF m pc Ls (.int z :: st)) := by
  subst hq hty
  obtain ⟨T2, h2, cA, X2, e2, E2, A2, st2⟩ := newP X K.1 K.2.2.2.2.1 w eT (g := mkF m pc Ls (.int z :: st)) rfl (hb K.2.1 hd) rfl hz.1 (cap := cap) (by rw [hz.2]; exact hcap) h8 hc hn
  refine (k T2 h2 h.size X2 e2 rfl E2 ⟨_, A2, (sz_new _ _ _).trans hz.2, by omega, fun i hi => ?_, fun i _ => ?_⟩).by st2
  · rw [← hz.2] at hi; simp [newA, hi]
  · cases aty <;> rfl
theorem k_pop2 (K : Fx p s m meth c by' ml own nm ret Z) (X : Stand p l e R s m args below meth c T locs cells slots) {v : Int64} (hd : decode by' pc = .ok (.pop2, 1)) (hq : pc + 1 = q) (k : Run p e below s kc kn Q T (mkF m q Ls st)) : Run p e below s kc kn Q T (mkF m pc Ls (.long v :: st)) := by
  subst hq
  refine k.by fun t h1 => ?_
  jvm_step X.here [X.here.top, K.1, (hb K.2.1 hd), Value.category]
  exact h1
theorem k_private (K : Fx p s m meth c by' ml own nm ret Z) (X : Stand p l e R s m args below meth c T locs cells slots) (eT : T.heap = h) {y : MethodName} {bytes : ByteArray} {maxL i W : Nat} {rt : Option FieldType} {rm : Room} {as' : Array Value} {Q' : Option Value → Heap → List Loc → Prop} {a : Addr} {C : String} {ni : Nat}
    (hd : decode by' pc = .ok (.invokevirtual i, 3)) (w1 : (Cond.methodLink own i y).before a0 Z = true) (w2 : (Cond.privateMethod y).before a0 Z = true) (w5 : (Cond.instantiable y.cls ni).before a0 Z = true) (w6 : (Cond.instanceMethod y).before a0 Z = true) (w3 : (Cond.initialized y.cls).before a0 Z = true) (w4 : (Cond.code y bytes maxL rt).before a0 Z = true) (hy : y.cls ≠ "java/lang/invoke/MethodHandle" ∧ y.cls ≠ "java/lang/invoke/VarHandle")
    (hE : Exa Z h a C) (hM : Met l y bytes maxL rt [] rm Z as' h Q') (hf : rm.frames + 1 ≤ R.frames) (hl : W + (maxL + 11) + rm.locals ≤ R.locals) (hc : cells + rm.cells ≤ R.cells) (hn : slots + rm.slots ≤ R.slots) (hsz : Ls.size = ml)
    {sig : MethodDescriptor} (hdesc : parseMethodDescriptor y.desc = some sig) {argsL rest : List Value} (ha : as' = (.ref a :: argsL).toArray) (hlen : argsL.length = sig.parameters.length) (hst : st = argsL.reverse ++ .ref a :: rest) (hW : (rest.map fun v => v.category).sum ≤ W) (hq : pc + 3 = q)
    (k : ∀ v T' L, Stand p l e R s m args below meth c T' (locs ++ L) (cells + rm.cells) (slots + rm.slots) → Q' v T'.heap L → Run p e below s kc kn Q T' (mkF m q Ls (v.toList ++ rest))) : Run p e below s kc kn Q T (mkF m pc Ls st) := by
  have hZ := K.2.2.2.2.1
  subst hq
  obtain ⟨cq, qa, qb⟩ := hE.cell
  have hpv := Cond.privateMethod_at (mvP hZ w2 (args := #[]))
  have hin : (Cond.instanceMethod y).before args s = true := mvT hZ w6
  obtain ⟨c2, k2, i1, i2, i3, i4, -⟩ := Cond.instantiable_spec (args := #[]) (s := s) (mvT hZ w5)
  have hsl := Jvm.Stand.selects_self_of_private i1 i2 (Bool.or_eq_false_iff.mp i4).1 hpv hin hy
  obtain ⟨v, _, ⟨T2, L2, k2, n2⟩, -, X2, ⟨Lc, hQ2, l2, y2, z2⟩, st2⟩ := X.privateBack K.1 (y := y) K.2.2.2.1 (mvT hZ w1) hin hsl hpv (mvT hZ w4) hy (backOf (W := W) hM hZ w4 w3 hf hl) (g := mkF m pc Ls st) rfl (by rw [K.2.2.1]; exact hsz) (Steps.refl _) (a := a) (by rw [eT]; exact qa) qb (argsL := argsL) (rest := rest) (fun sg hs => by cases hdesc.symm.trans hs; exact hlen) hst (by show 2 * 0 + _ ≤ _; omega) (hb K.2.1 hd) (fun _ _ => ⟨ha.symm, eT, hc, hn⟩)
  dsimp only [Pt.U, Pt.locs, Pt.cells, Pt.slots] at X2 l2 y2 z2 st2 hQ2
  subst l2 y2 z2
  exact (k v T2 Lc X2 hQ2).on st2
/-- k times a step -/
def iterN {σ : Type} (u : σ → σ) : Nat → σ → σ
  | 0, s => s
  | k + 1, s => iterN u k (u s)
theorem iterN_s {σ : Type} (u : σ → σ) (k : Nat) (s : σ) : iterN u (k + 1) s = iterN u k (u s) := rfl
theorem iterN_z {σ : Type} (u : σ → σ) (s : σ) : iterN u 0 s = s := rfl
end OwnKit

theorem wd {Z : State} {az : Array Value} (hw : ∀ d ∈ tables_1, d.before az Z = true) (k : Nat) {d : Jvm.Cond} (h : tables_1[k]? = some d) : d.before az Z = true := hw _ (List.mem_of_getElem? h)
theorem d2_0 : decode prog_119_method_1_code 0 = .ok (.aload_n 0, 1) := by decide +kernel
theorem d2_1 : decode prog_119_method_1_code 1 = .ok (.invokespecial 3, 3) := by decide +kernel
theorem d2_4 : decode prog_119_method_1_code 4 = .ok (.return_, 1) := by decide +kernel
theorem ef_2 (a0 : Addr) : ∀ m : MethodId, entryFrame m #[(.ref a0)] 1 = mkF m 0 #[.val (.ref a0)] [] := by intro m; first | (simp [entryFrame, mkF, argsToLocals, Value.category]; done) | rfl
theorem pn_0 : plainName "com/example/tidelake/tidelake/hub/RangeCoder" = true := by first | (simp [plainName, overriddenIn]; done) | decide +kernel
set_option maxRecDepth 65536 in
set_option maxHeartbeats 40000000 in
theorem rm2 (l : Launch) (Z : State) (az : Array Value) (hw : ∀ d ∈ tables_1, d.before az Z = true) (ws : List Jvm.Cond) (a0 : Addr) (h0 : Heap) :
    Met l (⟨"com/example/tidelake/tidelake/hub/RangeCoder", "<init>", "()V"⟩ : MethodName) prog_119_method_1_code 1 none ws ({ frames := 1, cells := 0, slots := 0, locals := 12 } : Room) Z #[(.ref a0)] h0 (fun v h' L => v = none ∧ h' = h0 ∧ L = []) := by
  refine enter (plainFor_of_name pn_0) (ef_2 a0) ?_
  intro p e s m below meth c T0 kc kn Q hkc hkn hQ K' X0 e0
  have K : Fx p s m meth c prog_119_method_1_code 1 "com/example/tidelake/tidelake/hub/RangeCoder" "<init>" none Z := K'
  refine k_aloadN K X0 d2_0 rfl rfl (q := 1) rfl ?_
  refine k_initO K X0 e0 d2_1 (wd hw 13 rfl) (wd hw 14 rfl) (wd hw 15 rfl) rfl (by decide) (W := 0) (Nat.le_of_eq rfl) (by decide) (q := 4) rfl ?_
  intro T1 X2 e3
  exact k_retv K X2 e3 d2_4 (Nat.le_trans (by decide) hkc) (Nat.le_trans (by decide) hkn) (hQ _ _ _ ⟨rfl, rfl, rfl⟩)
theorem d8_0 : decode jdk_33_method_40_code 0 = .ok (.iload_n 0, 1) := by decide +kernel
theorem d8_1 : decode jdk_33_method_40_code 1 = .ok (.iload_n 1, 1) := by decide +kernel
theorem d8_2 : decode jdk_33_method_40_code 2 = .ok (.if_icmp .ge 7, 3) := by decide +kernel
theorem d8_19 : decode jdk_33_method_40_code 19 = .ok (.ireturn, 1) := by decide +kernel
theorem d8_9 : decode jdk_33_method_40_code 9 = .ok (.iload_n 0, 1) := by decide +kernel
theorem d8_10 : decode jdk_33_method_40_code 10 = .ok (.iload_n 1, 1) := by decide +kernel
theorem d8_11 : decode jdk_33_method_40_code 11 = .ok (.if_icmp .ne 7, 3) := by decide +kernel
theorem d8_18 : decode jdk_33_method_40_code 18 = .ok (.iconst 1, 1) := by decide +kernel
theorem d8_14 : decode jdk_33_method_40_code 14 = .ok (.iconst 0, 1) := by decide +kernel
theorem d8_15 : decode jdk_33_method_40_code 15 = .ok (.goto 4, 3) := by decide +kernel
theorem d8_5 : decode jdk_33_method_40_code 5 = .ok (.iconst (-1), 1) := by decide +kernel
theorem d8_6 : decode jdk_33_method_40_code 6 = .ok (.goto 13, 3) := by decide +kernel
theorem ef_8 (p0 : Int32) (p1 : Int32) : ∀ m : MethodId, entryFrame m #[(.int p0), (.int p1)] 2 = mkF m 0 #[.val (.int p0), .val (.int p1)] [] := by intro m; first | (simp [entryFrame, mkF, argsToLocals, Value.category]; done) | rfl
theorem pn_1 : plainName "java/lang/Integer" = true := by first | (simp [plainName, overriddenIn]; done) | decide +kernel
def F_compare (p0 : Int32) (p1 : Int32) : Int32 :=
  let d6 : Int32 := (if p0 < p1 then (-1 : Int32) else (if p0 = p1 then (0 : Int32) else (1 : Int32)))
  d6
set_option maxRecDepth 65536 in
set_option maxHeartbeats 40000000 in
theorem rm8 (l : Launch) (Z : State) (az : Array Value) (hw : ∀ d ∈ tables_1, d.before az Z = true) (ws : List Jvm.Cond) (p0 : Int32) (p1 : Int32) (h0 : Heap) :
    Met l (⟨"java/lang/Integer", "compare", "(II)I"⟩ : MethodName) jdk_33_method_40_code 2 (some .int) ws ({ frames := 0, cells := 0, slots := 0, locals := 0 } : Room) Z #[(.int p0), (.int p1)] h0 (fun v h' L => v = some (Value.int (F_compare p0 p1)) ∧ h' = h0 ∧ L = []) := by
  refine enter (plainFor_of_name pn_1) (ef_8 p0 p1) ?_
  intro p e s m below meth c T0 kc kn Q hkc hkn hQ K' X0 e0
  have K : Fx p s m meth c jdk_33_method_40_code 2 "java/lang/Integer" "compare" (some .int) Z := K'
  refine k_iloadN K X0 d8_0 rfl (q := 1) rfl ?_
  refine k_iloadN K X0 d8_1 rfl (q := 2) rfl ?_
  have J7 : ∀ (d6 : Int32), (if p0 < p1 then (-1 : Int32) else (if p0 = p1 then (0 : Int32) else (1 : Int32))) = d6 → Run p e below s kc kn Q T0 (mkF m 19 #[.val (.int p0), .val (.int p1)] [(.int d6)]) := by
    intro d6 hv_d6
    exact k_reti K X0 e0 d8_19 (Nat.le_trans (by decide) hkc) (Nat.le_trans (by decide) hkn) (hQ _ _ _ ⟨(by show some (Value.int d6) = some (Value.int (F_compare p0 p1)); first | (simp only [F_compare, hv_d6]; done) | (subst hv_d6; simp only [F_compare])), rfl, rfl⟩)
  refine k_icmp_ge K X0 d8_2 (by decide) (q := 9) rfl (q' := 5) rfl ?_ ?_
  · intro hc8
    refine k_iloadN K X0 d8_9 rfl (q := 10) rfl ?_
    refine k_iloadN K X0 d8_10 rfl (q := 11) rfl ?_
    refine k_icmp_ne K X0 d8_11 (by decide) (q := 18) rfl (q' := 14) rfl ?_ ?_
    · intro hc9
      refine k_iconst K X0 d8_18 (v := (1 : Int32)) rfl (q := 19) rfl ?_
      exact J7 _ (by first | (simp only [if_neg hc8, if_neg hc9]; done) | rfl)
    · intro hc9
      refine k_iconst K X0 d8_14 (v := (0 : Int32)) rfl (q := 15) rfl ?_
      refine k_goto K X0 d8_15 (by decide) (q := 19) rfl ?_
      exact J7 _ (by first | (simp only [if_neg hc8, if_pos hc9]; done) | rfl)
  · intro hc8
    refine k_iconst K X0 d8_5 (v := (-1 : Int32)) rfl (q := 6) rfl ?_
    refine k_goto K X0 d8_6 (by decide) (q := 19) rfl ?_
    exact J7 _ (by first | (simp only [if_pos hc8]; done) | rfl)
theorem d7_0 : decode jdk_33_method_41_code 0 = .ok (.iload_n 0, 1) := by decide +kernel
theorem d7_1 : decode jdk_33_method_41_code 1 = .ok (.ldc 127, 2) := by decide +kernel
theorem d7_3 : decode jdk_33_method_41_code 3 = .ok (.iadd, 1) := by decide +kernel
theorem d7_4 : decode jdk_33_method_41_code 4 = .ok (.iload_n 1, 1) := by decide +kernel
theorem d7_5 : decode jdk_33_method_41_code 5 = .ok (.ldc 127, 2) := by decide +kernel
theorem d7_7 : decode jdk_33_method_41_code 7 = .ok (.iadd, 1) := by decide +kernel
theorem d7_8 : decode jdk_33_method_41_code 8 = .ok (.invokestatic 259, 3) := by decide +kernel
theorem pd_0 : parseMethodDescriptor "(II)I" = some ⟨[.int, .int], some .int⟩ := by decide +kernel
theorem d7_11 : decode jdk_33_method_41_code 11 = .ok (.ireturn, 1) := by decide +kernel
theorem ef_7 (p0 : Int32) (p1 : Int32) : ∀ m : MethodId, entryFrame m #[(.int p0), (.int p1)] 2 = mkF m 0 #[.val (.int p0), .val (.int p1)] [] := by intro m; first | (simp [entryFrame, mkF, argsToLocals, Value.category]; done) | rfl
def F_compareUnsigned (p0 : Int32) (p1 : Int32) : Int32 :=
  (F_compare (p0 + (-2147483648 : Int32)) (p1 + (-2147483648 : Int32)))
set_option maxRecDepth 65536 in
set_option maxHeartbeats 40000000 in
theorem rm7 (l : Launch) (Z : State) (az : Array Value) (hw : ∀ d ∈ tables_1, d.before az Z = true) (ws : List Jvm.Cond) (p0 : Int32) (p1 : Int32) (h0 : Heap) :
    Met l (⟨"java/lang/Integer", "compareUnsigned", "(II)I"⟩ : MethodName) jdk_33_method_41_code 2 (some .int) ws ({ frames := 1, cells := 0, slots := 0, locals := 13 } : Room) Z #[(.int p0), (.int p1)] h0 (fun v h' L => v = some (Value.int (F_compareUnsigned p0 p1)) ∧ h' = h0 ∧ L = []) := by
  refine enter (plainFor_of_name pn_1) (ef_7 p0 p1) ?_
  intro p e s m below meth c T0 kc kn Q hkc hkn hQ K' X0 e0
  have K : Fx p s m meth c jdk_33_method_41_code 2 "java/lang/Integer" "compareUnsigned" (some .int) Z := K'
  refine k_iloadN K X0 d7_0 rfl (q := 1) rfl ?_
  refine k_ldc K X0 d7_1 (wd hw 46 rfl) (q := 3) rfl ?_
  refine k_iadd K X0 d7_3 (q := 4) rfl ?_
  refine k_iloadN K X0 d7_4 rfl (q := 5) rfl ?_
  refine k_ldc K X0 d7_5 (wd hw 46 rfl) (q := 7) rfl ?_
  refine k_iadd K X0 d7_7 (q := 8) rfl ?_
  refine k_staticP K X0 e0 d7_8 (wd hw 47 rfl) (wd hw 48 rfl) (wd hw 44 rfl) (wd hw 49 rfl) (by decide) (rm8 l Z az hw [] (p0 + (-2147483648 : Int32)) (p1 + (-2147483648 : Int32)) h0) (W := 0) (by decide) (by decide) (by decide) (by decide) rfl pd_0 (argsL := [(.int (p0 + (-2147483648 : Int32))), (.int (p1 + (-2147483648 : Int32)))]) (rest := []) rfl rfl rfl (Nat.le_of_eq rfl) (q := 11) rfl ?_
  intro T10 X11 e12
  exact k_reti K X11 e12 d7_11 (Nat.le_trans (by decide) hkc) (Nat.le_trans (by decide) hkn) (hQ _ _ _ ⟨(by show some (Value.int (F_compare (p0 + (-2147483648 : Int32)) (p1 + (-2147483648 : Int32)))) = some (Value.int (F_compareUnsigned p0 p1)); first | (simp only [F_compareUnsigned]; done) | (simp only [F_compareUnsigned])), rfl, rfl⟩)
theorem d4_0 : decode prog_121_method_8_code 0 = .ok (.aload_n 0, 1) := by decide +kernel
theorem d4_1 : decode prog_121_method_8_code 1 = .ok (.getfield 17, 3) := by decide +kernel
theorem d4_4 : decode prog_121_method_8_code 4 = .ok (.aload_n 0, 1) := by decide +kernel
theorem d4_5 : decode prog_121_method_8_code 5 = .ok (.getfield 20, 3) := by decide +kernel
theorem d4_8 : decode prog_121_method_8_code 8 = .ok (.if_icmp .ge 19, 3) := by decide +kernel
theorem d4_28 : decode prog_121_method_8_code 28 = .ok (.istore_n 1, 1) := by decide +kernel
theorem d4_29 : decode prog_121_method_8_code 29 = .ok (.aload_n 0, 1) := by decide +kernel
theorem d4_30 : decode prog_121_method_8_code 30 = .ok (.dup, 1) := by decide +kernel
theorem d4_31 : decode prog_121_method_8_code 31 = .ok (.getfield 17, 3) := by decide +kernel
theorem d4_34 : decode prog_121_method_8_code 34 = .ok (.iconst 1, 1) := by decide +kernel
theorem d4_35 : decode prog_121_method_8_code 35 = .ok (.iadd, 1) := by decide +kernel
theorem d4_36 : decode prog_121_method_8_code 36 = .ok (.putfield 17, 3) := by decide +kernel
theorem d4_39 : decode prog_121_method_8_code 39 = .ok (.iload_n 1, 1) := by decide +kernel
theorem d4_40 : decode prog_121_method_8_code 40 = .ok (.ireturn, 1) := by decide +kernel
theorem d4_27 : decode prog_121_method_8_code 27 = .ok (.iconst 0, 1) := by decide +kernel
theorem d4_11 : decode prog_121_method_8_code 11 = .ok (.aload_n 0, 1) := by decide +kernel
theorem d4_12 : decode prog_121_method_8_code 12 = .ok (.getfield 13, 3) := by decide +kernel
theorem d4_15 : decode prog_121_method_8_code 15 = .ok (.aload_n 0, 1) := by decide +kernel
theorem d4_16 : decode prog_121_method_8_code 16 = .ok (.getfield 17, 3) := by decide +kernel
theorem d4_19 : decode prog_121_method_8_code 19 = .ok (.baload, 1) := by decide +kernel
theorem d4_20 : decode prog_121_method_8_code 20 = .ok (.sipush 255, 3) := by decide +kernel
theorem d4_23 : decode prog_121_method_8_code 23 = .ok (.iand, 1) := by decide +kernel
theorem d4_24 : decode prog_121_method_8_code 24 = .ok (.goto 4, 3) := by decide +kernel
theorem ef_4 (a0 : Addr) : ∀ m : MethodId, entryFrame m #[(.ref a0)] 2 = mkF m 0 #[.val (.ref a0), .unset] [] := by intro m; first | (simp [entryFrame, mkF, argsToLocals, Value.category]; done) | rfl
theorem pn_2 : plainName "com/example/tidelake/tidelake/hub/RangeCoder$Decoder" = true := by first | (simp [plainName, overriddenIn]; done) | decide +kernel
def F_next (w_a0_position : Int32) (w_a0_end : Int32) (n_w_a0_bytes : Nat) (g_w_a0_bytes : Nat → Int32) (w_a0_range : Int32) (w_a0_code : Int32) (w_a0_damaged : Int32) : Int32 :=
  let d258 : Int32 := (if w_a0_position < w_a0_end then ((g_w_a0_bytes (Int32.toNatClampNeg w_a0_position)) &&& (255 : Int32)) else (0 : Int32))
  d258
def F_next_a0_position (w_a0_position : Int32) (w_a0_end : Int32) (n_w_a0_bytes : Nat) (g_w_a0_bytes : Nat → Int32) (w_a0_range : Int32) (w_a0_code : Int32) (w_a0_damaged : Int32) : Int32 :=
  let d258 : Int32 := (if w_a0_position < w_a0_end then ((g_w_a0_bytes (Int32.toNatClampNeg w_a0_position)) &&& (255 : Int32)) else (0 : Int32))
  (w_a0_position + (1 : Int32))
set_option maxRecDepth 65536 in
set_option maxHeartbeats 40000000 in
theorem rm4 (l : Launch) (Z : State) (az : Array Value) (hw : ∀ d ∈ tables_1, d.before az Z = true) (ws : List Jvm.Cond) (a0 : Addr) (w_a0_position : Int32) (w_a0_end : Int32) (w_a0_bytes : Addr) (n_w_a0_bytes : Nat) (g_w_a0_bytes : Nat → Int32) (w_a0_range : Int32) (w_a0_code : Int32) (w_a0_damaged : Int32) (h0 : Heap) (n0 : Nat) (Z0 : n0 ≤ h0.size) (F_a0_position : Fld Z h0 a0 "com/example/tidelake/tidelake/hub/RangeCoder$Decoder" "position" "I" (.int w_a0_position)) (F_a0_end : Fld Z h0 a0 "com/example/tidelake/tidelake/hub/RangeCoder$Decoder" "end" "I" (.int w_a0_end)) (F_a0_bytes : Fld Z h0 a0 "com/example/tidelake/tidelake/hub/RangeCoder$Decoder" "bytes" "[B" (.ref w_a0_bytes)) (A_w_a0_bytes : Ary Z h0 w_a0_bytes .byte n_w_a0_bytes (fun i => Value.int (g_w_a0_bytes i))) (E_a0 : Exa Z h0 a0 "com/example/tidelake/tidelake/hub/RangeCoder$Decoder") (ge_a0 : n0 ≤ a0) (ne_w_a0_bytes_a0 : w_a0_bytes ≠ a0) (F_a0_range : Fld Z h0 a0 "com/example/tidelake/tidelake/hub/RangeCoder$Decoder" "range" "I" (.int w_a0_range)) (F_a0_code : Fld Z h0 a0 "com/example/tidelake/tidelake/hub/RangeCoder$Decoder" "code" "I" (.int w_a0_code)) (F_a0_damaged : Fld Z h0 a0 "com/example/tidelake/tidelake/hub/RangeCoder$Decoder" "damaged" "Z" (.int w_a0_damaged)) (ob_0 : w_a0_position < w_a0_end → ¬ w_a0_position < (0 : Int32) ∧ Int32.toNatClampNeg w_a0_position < n_w_a0_bytes) :
    Met l (⟨"com/example/tidelake/tidelake/hub/RangeCoder$Decoder", "next", "()I"⟩ : MethodName) prog_121_method_8_code 2 (some .int) ws ({ frames := 0, cells := 0, slots := 0, locals := 0 } : Room) Z #[(.ref a0)] h0 (fun v h' L => v = some (Value.int (F_next w_a0_position w_a0_end n_w_a0_bytes g_w_a0_bytes w_a0_range w_a0_code w_a0_damaged)) ∧ Fr n0 L ∧ Keep h0 h' [a0] ∧ Fld Z h' a0 "com/example/tidelake/tidelake/hub/RangeCoder$Decoder" "bytes" "[B" (.ref w_a0_bytes) ∧ Fld Z h' a0 "com/example/tidelake/tidelake/hub/RangeCoder$Decoder" "code" "I" (.int w_a0_code) ∧ Fld Z h' a0 "com/example/tidelake/tidelake/hub/RangeCoder$Decoder" "damaged" "Z" (.int w_a0_damaged) ∧ Fld Z h' a0 "com/example/tidelake/tidelake/hub/RangeCoder$Decoder" "end" "I" (.int w_a0_end) ∧ Fld Z h' a0 "com/example/tidelake/tidelake/hub/RangeCoder$Decoder" "position" "I" (.int (F_next_a0_position w_a0_position w_a0_end n_w_a0_bytes g_w_a0_bytes w_a0_range w_a0_code w_a0_damaged)) ∧ Fld Z h' a0 "com/example/tidelake/tidelake/hub/RangeCoder$Decoder" "range" "I" (.int w_a0_range)) := by
  refine enter (plainFor_of_name pn_2) (ef_4 a0) ?_
  intro p e s m below meth c T0 kc kn Q hkc hkn hQ K' X0 e0
  have K : Fx p s m meth c prog_121_method_8_code 2 "com/example/tidelake/tidelake/hub/RangeCoder$Decoder" "next" (some .int) Z := K'
  have N0 := Fr.nil n0
  have K0 : Keep h0 h0 [a0] := Keep.refl _ _
  refine k_aloadN K X0 d4_0 rfl rfl (q := 1) rfl ?_
  refine k_getfield K X0 e0 d4_1 (wd hw 20 rfl) F_a0_position (q := 4) rfl ?_
  intro T245 X246 e247
  refine k_aloadN K X246 d4_4 rfl rfl (q := 5) rfl ?_
  refine k_getfield K X246 e247 d4_5 (wd hw 22 rfl) F_a0_end (q := 8) rfl ?_
  intro T248 X249 e250
  have J259 : ∀ (T260 : State) (Lc263 : List Loc) (d258 : Int32), Stand p l e ({ frames := 0, cells := 0, slots := 0, locals := 0 } : Room) s m #[(.ref a0)] below meth c T260 Lc263 0 0 → Fr n0 Lc263 → T260.heap = h0 → (if w_a0_position < w_a0_end then ((g_w_a0_bytes (Int32.toNatClampNeg w_a0_position)) &&& (255 : Int32)) else (0 : Int32)) = d258 → Run p e below s kc kn Q T260 (mkF m 28 #[.val (.ref a0), .unset] [(.int d258)]) := by
    intro T260 Lc263 d258 X261 N264 e262 hv_d258
    refine k_istoreN K X261 d4_28 rfl (Ls' := #[.val (.ref a0), .val (.int d258)]) rfl (q := 29) rfl ?_
    refine k_aloadN K X261 d4_29 rfl rfl (q := 30) rfl ?_
    refine k_dup K X261 d4_30 rfl (q := 31) rfl ?_
    refine k_getfield K X261 e262 d4_31 (wd hw 20 rfl) F_a0_position (q := 34) rfl ?_
    intro T265 X266 e267
    refine k_iconst K X266 d4_34 (v := (1 : Int32)) rfl (q := 35) rfl ?_
    refine k_iadd K X266 d4_35 (q := 36) rfl ?_
    refine k_putfield K X266 e267 d4_36 (wd hw 20 rfl) F_a0_position E_a0 (Or.inl (wd hw 21 rfl)) (wd hw 3 rfl) (ty := .int) (by decide) rfl rfl (q := 39) rfl ?_
    intro T268 h269 X270 e271 W272
    have f273 := Fld.same W272 F_a0_position
    have f274 := Fld.other W272 F_a0_end (Or.inr (slot_ne (Or.inr (wd hw 23 rfl)) (Or.inl (wd hw 21 rfl)) (by decide) (t := .int) (t' := .int) (by decide) (by decide)))
    have f275 := Fld.other W272 F_a0_bytes (Or.inr (slot_ne (Or.inr (wd hw 19 rfl)) (Or.inl (wd hw 21 rfl)) (by decide) (t := (.array .byte)) (t' := .int) (by decide) (by decide)))
    have f276 := Ary.other A_w_a0_bytes W272 ne_w_a0_bytes_a0
    have f277 := Exa.wr W272 E_a0
    have f278 := Fld.other W272 F_a0_range (Or.inr (slot_ne (Or.inl (wd hw 17 rfl)) (Or.inl (wd hw 21 rfl)) (by decide) (t := .int) (t' := .int) (by decide) (by decide)))
    have f279 := Fld.other W272 F_a0_code (Or.inr (slot_ne (Or.inl (wd hw 25 rfl)) (Or.inl (wd hw 21 rfl)) (by decide) (t := .int) (t' := .int) (by decide) (by decide)))
    have f280 := Fld.other W272 F_a0_damaged (Or.inr (slot_ne (Or.inl (wd hw 36 rfl)) (Or.inl (wd hw 21 rfl)) (by decide) (t := .boolean) (t' := .int) (by decide) (by decide)))
    have N281 := Fr.snoc X270 N264 ge_a0
    have K282 := Keep.wr K0 W272 (Or.inl (List.mem_of_getElem? (i := 0) rfl))
    have Z283 := Nat.le_trans Z0 (Nat.le_of_eq (Wr.size W272).symm)
    refine k_iloadN K X270 d4_39 rfl (q := 40) rfl ?_
    exact k_reti K X270 e271 d4_40 (Nat.le_trans (by decide) hkc) (Nat.le_trans (by decide) hkn) (hQ _ _ _ ⟨(by show some (Value.int d258) = some (Value.int (F_next w_a0_position w_a0_end n_w_a0_bytes g_w_a0_bytes w_a0_range w_a0_code w_a0_damaged)); first | (simp only [F_next, hv_d258]; done) | (subst hv_d258; simp only [F_next])), N281, K282, f275, f279, f280, f274, (by rw [(show F_next_a0_position w_a0_position w_a0_end n_w_a0_bytes g_w_a0_bytes w_a0_range w_a0_code w_a0_damaged = (w_a0_position + (1 : Int32)) from by first | (simp only [F_next_a0_position, hv_d258]; done) | (subst hv_d258; simp only [F_next_a0_position]))]; exact f273), f278⟩)
  refine k_icmp_ge K X249 d4_8 (by decide) (q := 27) rfl (q' := 11) rfl ?_ ?_
  · intro hc284
    refine k_iconst K X249 d4_27 (v := (0 : Int32)) rfl (q := 28) rfl ?_
    exact J259 T248 _ _ X249 N0 e250 (by first | (simp only [if_neg hc284]; done) | rfl)
  · intro hc284
    refine k_aloadN K X249 d4_11 rfl rfl (q := 12) rfl ?_
    refine k_getfield K X249 e250 d4_12 (wd hw 18 rfl) F_a0_bytes (q := 15) rfl ?_
    intro T285 X286 e287
    refine k_aloadN K X286 d4_15 rfl rfl (q := 16) rfl ?_
    refine k_getfield K X286 e287 d4_16 (wd hw 20 rfl) F_a0_position (q := 19) rfl ?_
    intro T288 X289 e290
    refine k_baload K X289 e290 d4_19 A_w_a0_bytes (i := (Int32.toNatClampNeg w_a0_position)) (v := (.int (g_w_a0_bytes (Int32.toNatClampNeg w_a0_position)))) ⟨((ob_0 hc284)).1, rfl⟩ ((ob_0 hc284)).2 rfl (q := 20) rfl ?_
    refine k_sipush K X289 d4_20 (v := (255 : Int32)) rfl (q := 23) rfl ?_
    refine k_iand K X289 d4_23 (q := 24) rfl ?_
    refine k_goto K X289 d4_24 (by decide) (q := 28) rfl ?_
    exact J259 T288 _ _ X289 N0 e290 (by first | (simp only [if_pos hc284]; done) | rfl)
theorem d5_0 : decode prog_121_method_7_code 0 = .ok (.aload_n 0, 1) := by decide +kernel
theorem d5_1 : decode prog_121_method_7_code 1 = .ok (.getfield 44, 3) := by decide +kernel
theorem d5_4 : decode prog_121_method_7_code 4 = .ok (.ifCond .ne 18, 3) := by decide +kernel
theorem d5_23 : decode prog_121_method_7_code 23 = .ok (.ireturn, 1) := by decide +kernel
theorem d5_22 : decode prog_121_method_7_code 22 = .ok (.iconst 0, 1) := by decide +kernel
theorem d5_7 : decode prog_121_method_7_code 7 = .ok (.aload_n 0, 1) := by decide +kernel
theorem d5_8 : decode prog_121_method_7_code 8 = .ok (.getfield 17, 3) := by decide +kernel
theorem d5_11 : decode prog_121_method_7_code 11 = .ok (.aload_n 0, 1) := by decide +kernel
theorem d5_12 : decode prog_121_method_7_code 12 = .ok (.getfield 20, 3) := by decide +kernel
theorem d5_15 : decode prog_121_method_7_code 15 = .ok (.if_icmp .gt 7, 3) := by decide +kernel
theorem d5_18 : decode prog_121_method_7_code 18 = .ok (.iconst 1, 1) := by decide +kernel
theorem d5_19 : decode prog_121_method_7_code 19 = .ok (.goto 4, 3) := by decide +kernel
theorem ef_5 (a0 : Addr) : ∀ m : MethodId, entryFrame m #[(.ref a0)] 1 = mkF m 0 #[.val (.ref a0)] [] := by intro m; first | (simp [entryFrame, mkF, argsToLocals, Value.category]; done) | rfl
def F_whole (w_a0_damaged : Int32) (w_a0_position : Int32) (w_a0_end : Int32) : Int32 :=
  let d313 : Int32 := (if w_a0_damaged = (0 : Int32) then (if w_a0_end < w_a0_position then (0 : Int32) else (1 : Int32)) else (0 : Int32))
  (nar .boolean d313)
set_option maxRecDepth 65536 in
set_option maxHeartbeats 40000000 in
theorem rm5 (l : Launch) (Z : State) (az : Array Value) (hw : ∀ d ∈ tables_1, d.before az Z = true) (ws : List Jvm.Cond) (a0 : Addr) (w_a0_damaged : Int32) (w_a0_position : Int32) (w_a0_end : Int32) (h0 : Heap) (F_a0_damaged : Fld Z h0 a0 "com/example/tidelake/tidelake/hub/RangeCoder$Decoder" "damaged" "Z" (.int w_a0_damaged)) (F_a0_position : Fld Z h0 a0 "com/example/tidelake/tidelake/hub/RangeCoder$Decoder" "position" "I" (.int w_a0_position)) (F_a0_end : Fld Z h0 a0 "com/example/tidelake/tidelake/hub/RangeCoder$Decoder" "end" "I" (.int w_a0_end)) :
    Met l (⟨"com/example/tidelake/tidelake/hub/RangeCoder$Decoder", "whole", "()Z"⟩ : MethodName) prog_121_method_7_code 1 (some .boolean) ws ({ frames := 0, cells := 0, slots := 0, locals := 0 } : Room) Z #[(.ref a0)] h0 (fun v h' L => v = some (Value.int (F_whole w_a0_damaged w_a0_position w_a0_end)) ∧ h' = h0 ∧ L = []) := by
  refine enter (plainFor_of_name pn_2) (ef_5 a0) ?_
  intro p e s m below meth c T0 kc kn Q hkc hkn hQ K' X0 e0
  have K : Fx p s m meth c prog_121_method_7_code 1 "com/example/tidelake/tidelake/hub/RangeCoder$Decoder" "whole" (some .boolean) Z := K'
  refine k_aloadN K X0 d5_0 rfl rfl (q := 1) rfl ?_
  refine k_getfield K X0 e0 d5_1 (wd hw 35 rfl) F_a0_damaged (q := 4) rfl ?_
  intro T302 X303 e304
  have J314 : ∀ (T315 : State) (d313 : Int32), Stand p l e ({ frames := 0, cells := 0, slots := 0, locals := 0 } : Room) s m #[(.ref a0)] below meth c T315 [] 0 0 → T315.heap = h0 → (if w_a0_damaged = (0 : Int32) then (if w_a0_end < w_a0_position then (0 : Int32) else (1 : Int32)) else (0 : Int32)) = d313 → Run p e below s kc kn Q T315 (mkF m 23 #[.val (.ref a0)] [(.int d313)]) := by
    intro T315 d313 X316 e317 hv_d313
    exact k_retz K X316 e317 d5_23 (Nat.le_trans (by decide) hkc) (Nat.le_trans (by decide) hkn) (hQ _ _ _ ⟨(by show some (Value.int (nar .boolean d313)) = some (Value.int (F_whole w_a0_damaged w_a0_position w_a0_end)); first | (simp only [F_whole, hv_d313]; done) | (subst hv_d313; simp only [F_whole])), rfl, rfl⟩)
  refine k_if_ne K X303 d5_4 (by decide) (q := 22) rfl (q' := 7) rfl ?_ ?_
  · intro hc318
    refine k_iconst K X303 d5_22 (v := (0 : Int32)) rfl (q := 23) rfl ?_
    exact J314 T302 _ X303 e304 (by first | (simp only [if_neg hc318]; done) | rfl)
  · intro hc318
    refine k_aloadN K X303 d5_7 rfl rfl (q := 8) rfl ?_
    refine k_getfield K X303 e304 d5_8 (wd hw 20 rfl) F_a0_position (q := 11) rfl ?_
    intro T319 X320 e321
    refine k_aloadN K X320 d5_11 rfl rfl (q := 12) rfl ?_
    refine k_getfield K X320 e321 d5_12 (wd hw 22 rfl) F_a0_end (q := 15) rfl ?_
    intro T322 X323 e324
    refine k_icmp_gt K X323 d5_15 (by decide) (q := 22) rfl (q' := 18) rfl ?_ ?_
    · intro hc325
      refine k_iconst K X323 d5_22 (v := (0 : Int32)) rfl (q := 23) rfl ?_
      exact J314 T322 _ X323 e324 (by first | (simp only [if_pos hc318, if_pos hc325]; done) | rfl)
    · intro hc325
      refine k_iconst K X323 d5_18 (v := (1 : Int32)) rfl (q := 19) rfl ?_
      refine k_goto K X323 d5_19 (by decide) (q := 23) rfl ?_
      exact J314 T322 _ X323 e324 (by first | (simp only [if_pos hc318, if_neg hc325]; done) | rfl)
theorem d9_0 : decode prog_121_method_5_code 0 = .ok (.aload_n 0, 1) := by decide +kernel
theorem d9_1 : decode prog_121_method_5_code 1 = .ok (.iconst 1, 1) := by decide +kernel
theorem d9_2 : decode prog_121_method_5_code 2 = .ok (.putfield 44, 3) := by decide +kernel
theorem d9_5 : decode prog_121_method_5_code 5 = .ok (.return_, 1) := by decide +kernel
theorem ef_9 (a0 : Addr) : ∀ m : MethodId, entryFrame m #[(.ref a0)] 1 = mkF m 0 #[.val (.ref a0)] [] := by intro m; first | (simp [entryFrame, mkF, argsToLocals, Value.category]; done) | rfl
set_option maxRecDepth 65536 in
set_option maxHeartbeats 40000000 in
theorem rm9 (l : Launch) (Z : State) (az : Array Value) (hw : ∀ d ∈ tables_1, d.before az Z = true) (ws : List Jvm.Cond) (a0 : Addr) (w_a0_damaged : Int32) (w_a0_range : Int32) (w_a0_bytes : Value) (w_a0_position : Int32) (w_a0_end : Int32) (w_a0_code : Int32) (h0 : Heap) (n0 : Nat) (Z0 : n0 ≤ h0.size) (E_a0 : Exa Z h0 a0 "com/example/tidelake/tidelake/hub/RangeCoder$Decoder") (F_a0_damaged : Fld Z h0 a0 "com/example/tidelake/tidelake/hub/RangeCoder$Decoder" "damaged" "Z" (.int w_a0_damaged)) (ge_a0 : n0 ≤ a0) (F_a0_range : Fld Z h0 a0 "com/example/tidelake/tidelake/hub/RangeCoder$Decoder" "range" "I" (.int w_a0_range)) (F_a0_bytes : Fld Z h0 a0 "com/example/tidelake/tidelake/hub/RangeCoder$Decoder" "bytes" "[B" w_a0_bytes) (F_a0_position : Fld Z h0 a0 "com/example/tidelake/tidelake/hub/RangeCoder$Decoder" "position" "I" (.int w_a0_position)) (F_a0_end : Fld Z h0 a0 "com/example/tidelake/tidelake/hub/RangeCoder$Decoder" "end" "I" (.int w_a0_end)) (F_a0_code : Fld Z h0 a0 "com/example/tidelake/tidelake/hub/RangeCoder$Decoder" "code" "I" (.int w_a0_code)) :
    Met l (⟨"com/example/tidelake/tidelake/hub/RangeCoder$Decoder", "damaged", "()V"⟩ : MethodName) prog_121_method_5_code 1 none ws ({ frames := 0, cells := 0, slots := 0, locals := 0 } : Room) Z #[(.ref a0)] h0 (fun v h' L => v = none ∧ Fr n0 L ∧ Keep h0 h' [a0] ∧ Fld Z h' a0 "com/example/tidelake/tidelake/hub/RangeCoder$Decoder" "bytes" "[B" w_a0_bytes ∧ Fld Z h' a0 "com/example/tidelake/tidelake/hub/RangeCoder$Decoder" "code" "I" (.int w_a0_code) ∧ Fld Z h' a0 "com/example/tidelake/tidelake/hub/RangeCoder$Decoder" "damaged" "Z" (.int (1 : Int32)) ∧ Fld Z h' a0 "com/example/tidelake/tidelake/hub/RangeCoder$Decoder" "end" "I" (.int w_a0_end) ∧ Fld Z h' a0 "com/example/tidelake/tidelake/hub/RangeCoder$Decoder" "position" "I" (.int w_a0_position) ∧ Fld Z h' a0 "com/example/tidelake/tidelake/hub/RangeCoder$Decoder" "range" "I" (.int w_a0_range)) := by
  refine enter (plainFor_of_name pn_2) (ef_9 a0) ?_
  intro p e s m below meth c T0 kc kn Q hkc hkn hQ K' X0 e0
  have K : Fx p s m meth c prog_121_method_5_code 1 "com/example/tidelake/tidelake/hub/RangeCoder$Decoder" "damaged" none Z := K'
  have N0 := Fr.nil n0
  have K0 : Keep h0 h0 [a0] := Keep.refl _ _
  refine k_aloadN K X0 d9_0 rfl rfl (q := 1) rfl ?_
  refine k_iconst K X0 d9_1 (v := (1 : Int32)) rfl (q := 2) rfl ?_
  refine k_putfieldN K X0 e0 d9_2 (wd hw 35 rfl) F_a0_damaged E_a0 (Or.inl (wd hw 36 rfl)) (wd hw 3 rfl) (ty := .boolean) (v' := (.int (1 : Int32))) (by decide) rfl rfl (q := 5) rfl ?_
  intro T386 h387 X388 e389 W390
  have f391 := Fld.same W390 F_a0_damaged
  have f392 := Exa.wr W390 E_a0
  have f393 := Fld.other W390 F_a0_range (Or.inr (slot_ne (Or.inl (wd hw 17 rfl)) (Or.inl (wd hw 36 rfl)) (by decide) (t := .int) (t' := .boolean) (by decide) (by decide)))
  have f394 := Fld.other W390 F_a0_bytes (Or.inr (slot_ne (Or.inr (wd hw 19 rfl)) (Or.inl (wd hw 36 rfl)) (by decide) (t := (.array .byte)) (t' := .boolean) (by decide) (by decide)))
  have f395 := Fld.other W390 F_a0_position (Or.inr (slot_ne (Or.inl (wd hw 21 rfl)) (Or.inl (wd hw 36 rfl)) (by decide) (t := .int) (t' := .boolean) (by decide) (by decide)))
  have f396 := Fld.other W390 F_a0_end (Or.inr (slot_ne (Or.inr (wd hw 23 rfl)) (Or.inl (wd hw 36 rfl)) (by decide) (t := .int) (t' := .boolean) (by decide) (by decide)))
  have f397 := Fld.other W390 F_a0_code (Or.inr (slot_ne (Or.inl (wd hw 25 rfl)) (Or.inl (wd hw 36 rfl)) (by decide) (t := .int) (t' := .boolean) (by decide) (by decide)))
  have N398 := Fr.snoc X388 N0 ge_a0
  have K399 := Keep.wr K0 W390 (Or.inl (List.mem_of_getElem? (i := 0) rfl))
  have Z400 := Nat.le_trans Z0 (Nat.le_of_eq (Wr.size W390).symm)
  exact k_retv K X388 e389 d9_5 (Nat.le_trans (by decide) hkc) (Nat.le_trans (by decide) hkn) (hQ _ _ _ ⟨rfl, N398, K399, f394, f397, f391, f396, f395, f393⟩)
theorem d1_0 : decode prog_121_method_1_code 0 = .ok (.aload_n 0, 1) := by decide +kernel
theorem d1_1 : decode prog_121_method_1_code 1 = .ok (.invokespecial 3, 3) := by decide +kernel
theorem pd_1 : parseMethodDescriptor "()V" = some ⟨[], none⟩ := by decide +kernel
theorem d1_4 : decode prog_121_method_1_code 4 = .ok (.aload_n 0, 1) := by decide +kernel
theorem d1_5 : decode prog_121_method_1_code 5 = .ok (.iconst (-1), 1) := by decide +kernel
theorem d1_6 : decode prog_121_method_1_code 6 = .ok (.putfield 7, 3) := by decide +kernel
theorem d1_9 : decode prog_121_method_1_code 9 = .ok (.aload_n 0, 1) := by decide +kernel
theorem d1_10 : decode prog_121_method_1_code 10 = .ok (.aload_n 1, 1) := by decide +kernel
theorem d1_11 : decode prog_121_method_1_code 11 = .ok (.putfield 13, 3) := by decide +kernel
theorem d1_14 : decode prog_121_method_1_code 14 = .ok (.aload_n 0, 1) := by decide +kernel
theorem d1_15 : decode prog_121_method_1_code 15 = .ok (.iload_n 2, 1) := by decide +kernel
theorem d1_16 : decode prog_121_method_1_code 16 = .ok (.putfield 17, 3) := by decide +kernel
theorem d1_19 : decode prog_121_method_1_code 19 = .ok (.aload_n 0, 1) := by decide +kernel
theorem d1_20 : decode prog_121_method_1_code 20 = .ok (.iload_n 2, 1) := by decide +kernel
theorem d1_21 : decode prog_121_method_1_code 21 = .ok (.iload_n 3, 1) := by decide +kernel
theorem d1_22 : decode prog_121_method_1_code 22 = .ok (.iadd, 1) := by decide +kernel
theorem d1_23 : decode prog_121_method_1_code 23 = .ok (.putfield 20, 3) := by decide +kernel
theorem d1_26 : decode prog_121_method_1_code 26 = .ok (.iconst 0, 1) := by decide +kernel
theorem d1_27 : decode prog_121_method_1_code 27 = .ok (.istore 4, 2) := by decide +kernel
theorem d1_29 : decode prog_121_method_1_code 29 = .ok (.iload 4, 2) := by decide +kernel
theorem d1_31 : decode prog_121_method_1_code 31 = .ok (.iconst 5, 1) := by decide +kernel
theorem d1_32 : decode prog_121_method_1_code 32 = .ok (.if_icmp .ge 25, 3) := by decide +kernel
theorem d1_35 : decode prog_121_method_1_code 35 = .ok (.aload_n 0, 1) := by decide +kernel
theorem d1_36 : decode prog_121_method_1_code 36 = .ok (.aload_n 0, 1) := by decide +kernel
theorem d1_37 : decode prog_121_method_1_code 37 = .ok (.getfield 23, 3) := by decide +kernel
theorem d1_40 : decode prog_121_method_1_code 40 = .ok (.bipush 8, 2) := by decide +kernel
theorem d1_42 : decode prog_121_method_1_code 42 = .ok (.ishl, 1) := by decide +kernel
theorem d1_43 : decode prog_121_method_1_code 43 = .ok (.aload_n 0, 1) := by decide +kernel
theorem d1_44 : decode prog_121_method_1_code 44 = .ok (.invokevirtual 26, 3) := by decide +kernel
theorem pd_2 : parseMethodDescriptor "()I" = some ⟨[], some .int⟩ := by decide +kernel
theorem d1_47 : decode prog_121_method_1_code 47 = .ok (.ior, 1) := by decide +kernel
theorem d1_48 : decode prog_121_method_1_code 48 = .ok (.putfield 23, 3) := by decide +kernel
theorem d1_51 : decode prog_121_method_1_code 51 = .ok (.iinc 4 1, 3) := by decide +kernel
theorem d1_54 : decode prog_121_method_1_code 54 = .ok (.goto (-25), 3) := by decide +kernel
theorem d1_57 : decode prog_121_method_1_code 57 = .ok (.return_, 1) := by decide +kernel
theorem ef_1 (a0 : Addr) (a1 : Addr) (p2 : Int32) (p3 : Int32) : ∀ m : MethodId, entryFrame m #[(.ref a0), (.ref a1), (.int p2), (.int p3)] 5 = mkF m 0 #[.val (.ref a0), .val (.ref a1), .val (.int p2), .val (.int p3), .unset] [] := by intro m; first | (simp [entryFrame, mkF, argsToLocals, Value.category]; done) | rfl
def F_init_a0_code (p2 : Int32) (p3 : Int32) (w_a0_range : Int32) (w_a0_position : Int32) (w_a0_end : Int32) (w_a0_code : Int32) (n_a1 : Nat) (g_a1 : Nat → Int32) (w_a0_damaged : Int32) : Int32 :=
  let v771 : Int32 := (p2 + p3)
  let v772 : Int32 := (F_next_a0_position p2 (p2 + p3) n_a1 g_a1 (-1 : Int32) w_a0_code w_a0_damaged)
  let v809 : Int32 := ((shlI w_a0_code (8 : Int32)) ||| (F_next p2 (p2 + p3) n_a1 g_a1 (-1 : Int32) w_a0_code w_a0_damaged))
  let v810 : Int32 := (F_next_a0_position v772 v771 n_a1 g_a1 (-1 : Int32) ((shlI w_a0_code (8 : Int32)) ||| (F_next p2 (p2 + p3) n_a1 g_a1 (-1 : Int32) w_a0_code w_a0_damaged)) w_a0_damaged)
  let v847 : Int32 := ((shlI ((shlI w_a0_code (8 : Int32)) ||| (F_next p2 (p2 + p3) n_a1 g_a1 (-1 : Int32) w_a0_code w_a0_damaged)) (8 : Int32)) ||| (F_next v772 v771 n_a1 g_a1 (-1 : Int32) ((shlI w_a0_code (8 : Int32)) ||| (F_next p2 (p2 + p3) n_a1 g_a1 (-1 : Int32) w_a0_code w_a0_damaged)) w_a0_damaged))
  let v848 : Int32 := (F_next_a0_position v810 v771 n_a1 g_a1 (-1 : Int32) ((shlI ((shlI w_a0_code (8 : Int32)) ||| (F_next p2 (p2 + p3) n_a1 g_a1 (-1 : Int32) w_a0_code w_a0_damaged)) (8 : Int32)) ||| (F_next v772 v771 n_a1 g_a1 (-1 : Int32) ((shlI w_a0_code (8 : Int32)) ||| (F_next p2 (p2 + p3) n_a1 g_a1 (-1 : Int32) w_a0_code w_a0_damaged)) w_a0_damaged)) w_a0_damaged)
  let v885 : Int32 := ((shlI ((shlI ((shlI w_a0_code (8 : Int32)) ||| (F_next p2 (p2 + p3) n_a1 g_a1 (-1 : Int32) w_a0_code w_a0_damaged)) (8 : Int32)) ||| (F_next v772 v771 n_a1 g_a1 (-1 : Int32) ((shlI w_a0_code (8 : Int32)) ||| (F_next p2 (p2 + p3) n_a1 g_a1 (-1 : Int32) w_a0_code w_a0_damaged)) w_a0_damaged)) (8 : Int32)) ||| (F_next v810 v771 n_a1 g_a1 (-1 : Int32) ((shlI ((shlI w_a0_code (8 : Int32)) ||| (F_next p2 (p2 + p3) n_a1 g_a1 (-1 : Int32) w_a0_code w_a0_damaged)) (8 : Int32)) ||| (F_next v772 v771 n_a1 g_a1 (-1 : Int32) ((shlI w_a0_code (8 : Int32)) ||| (F_next p2 (p2 + p3) n_a1 g_a1 (-1 : Int32) w_a0_code w_a0_damaged)) w_a0_damaged)) w_a0_damaged))
  let v886 : Int32 := (F_next_a0_position v848 v771 n_a1 g_a1 (-1 : Int32) ((shlI ((shlI ((shlI w_a0_code (8 : Int32)) ||| (F_next p2 (p2 + p3) n_a1 g_a1 (-1 : Int32) w_a0_code w_a0_damaged)) (8 : Int32)) ||| (F_next v772 v771 n_a1 g_a1 (-1 : Int32) ((shlI w_a0_code (8 : Int32)) ||| (F_next p2 (p2 + p3) n_a1 g_a1 (-1 : Int32) w_a0_code w_a0_damaged)) w_a0_damaged)) (8 : Int32)) ||| (F_next v810 v771 n_a1 g_a1 (-1 : Int32) ((shlI ((shlI w_a0_code (8 : Int32)) ||| (F_next p2 (p2 + p3) n_a1 g_a1 (-1 : Int32) w_a0_code w_a0_damaged)) (8 : Int32)) ||| (F_next v772 v771 n_a1 g_a1 (-1 : Int32) ((shlI w_a0_code (8 : Int32)) ||| (F_next p2 (p2 + p3) n_a1 g_a1 (-1 : Int32) w_a0_code w_a0_damaged)) w_a0_damaged)) w_a0_damaged)) w_a0_damaged)
  let v923 : Int32 := ((shlI ((shlI ((shlI ((shlI w_a0_code (8 : Int32)) ||| (F_next p2 (p2 + p3) n_a1 g_a1 (-1 : Int32) w_a0_code w_a0_damaged)) (8 : Int32)) ||| (F_next v772 v771 n_a1 g_a1 (-1 : Int32) ((shlI w_a0_code (8 : Int32)) ||| (F_next p2 (p2 + p3) n_a1 g_a1 (-1 : Int32) w_a0_code w_a0_damaged)) w_a0_damaged)) (8 : Int32)) ||| (F_next v810 v771 n_a1 g_a1 (-1 : Int32) ((shlI ((shlI w_a0_code (8 : Int32)) ||| (F_next p2 (p2 + p3) n_a1 g_a1 (-1 : Int32) w_a0_code w_a0_damaged)) (8 : Int32)) ||| (F_next v772 v771 n_a1 g_a1 (-1 : Int32) ((shlI w_a0_code (8 : Int32)) ||| (F_next p2 (p2 + p3) n_a1 g_a1 (-1 : Int32) w_a0_code w_a0_damaged)) w_a0_damaged)) w_a0_damaged)) (8 : Int32)) ||| (F_next v848 v771 n_a1 g_a1 (-1 : Int32) ((shlI ((shlI ((shlI w_a0_code (8 : Int32)) ||| (F_next p2 (p2 + p3) n_a1 g_a1 (-1 : Int32) w_a0_code w_a0_damaged)) (8 : Int32)) ||| (F_next v772 v771 n_a1 g_a1 (-1 : Int32) ((shlI w_a0_code (8 : Int32)) ||| (F_next p2 (p2 + p3) n_a1 g_a1 (-1 : Int32) w_a0_code w_a0_damaged)) w_a0_damaged)) (8 : Int32)) ||| (F_next v810 v771 n_a1 g_a1 (-1 : Int32) ((shlI ((shlI w_a0_code (8 : Int32)) ||| (F_next p2 (p2 + p3) n_a1 g_a1 (-1 : Int32) w_a0_code w_a0_damaged)) (8 : Int32)) ||| (F_next v772 v771 n_a1 g_a1 (-1 : Int32) ((shlI w_a0_code (8 : Int32)) ||| (F_next p2 (p2 + p3) n_a1 g_a1 (-1 : Int32) w_a0_code w_a0_damaged)) w_a0_damaged)) w_a0_damaged)) w_a0_damaged))
  let v924 : Int32 := (F_next_a0_position v886 v771 n_a1 g_a1 (-1 : Int32) ((shlI ((shlI ((shlI ((shlI w_a0_code (8 : Int32)) ||| (F_next p2 (p2 + p3) n_a1 g_a1 (-1 : Int32) w_a0_code w_a0_damaged)) (8 : Int32)) ||| (F_next v772 v771 n_a1 g_a1 (-1 : Int32) ((shlI w_a0_code (8 : Int32)) ||| (F_next p2 (p2 + p3) n_a1 g_a1 (-1 : Int32) w_a0_code w_a0_damaged)) w_a0_damaged)) (8 : Int32)) ||| (F_next v810 v771 n_a1 g_a1 (-1 : Int32) ((shlI ((shlI w_a0_code (8 : Int32)) ||| (F_next p2 (p2 + p3) n_a1 g_a1 (-1 : Int32) w_a0_code w_a0_damaged)) (8 : Int32)) ||| (F_next v772 v771 n_a1 g_a1 (-1 : Int32) ((shlI w_a0_code (8 : Int32)) ||| (F_next p2 (p2 + p3) n_a1 g_a1 (-1 : Int32) w_a0_code w_a0_damaged)) w_a0_damaged)) w_a0_damaged)) (8 : Int32)) ||| (F_next v848 v771 n_a1 g_a1 (-1 : Int32) ((shlI ((shlI ((shlI w_a0_code (8 : Int32)) ||| (F_next p2 (p2 + p3) n_a1 g_a1 (-1 : Int32) w_a0_code w_a0_damaged)) (8 : Int32)) ||| (F_next v772 v771 n_a1 g_a1 (-1 : Int32) ((shlI w_a0_code (8 : Int32)) ||| (F_next p2 (p2 + p3) n_a1 g_a1 (-1 : Int32) w_a0_code w_a0_damaged)) w_a0_damaged)) (8 : Int32)) ||| (F_next v810 v771 n_a1 g_a1 (-1 : Int32) ((shlI ((shlI w_a0_code (8 : Int32)) ||| (F_next p2 (p2 + p3) n_a1 g_a1 (-1 : Int32) w_a0_code w_a0_damaged)) (8 : Int32)) ||| (F_next v772 v771 n_a1 g_a1 (-1 : Int32) ((shlI w_a0_code (8 : Int32)) ||| (F_next p2 (p2 + p3) n_a1 g_a1 (-1 : Int32) w_a0_code w_a0_damaged)) w_a0_damaged)) w_a0_damaged)) w_a0_damaged)) w_a0_damaged)
  ((shlI ((shlI ((shlI ((shlI ((shlI w_a0_code (8 : Int32)) ||| (F_next p2 (p2 + p3) n_a1 g_a1 (-1 : Int32) w_a0_code w_a0_damaged)) (8 : Int32)) ||| (F_next v772 v771 n_a1 g_a1 (-1 : Int32) ((shlI w_a0_code (8 : Int32)) ||| (F_next p2 (p2 + p3) n_a1 g_a1 (-1 : Int32) w_a0_code w_a0_damaged)) w_a0_damaged)) (8 : Int32)) ||| (F_next v810 v771 n_a1 g_a1 (-1 : Int32) ((shlI ((shlI w_a0_code (8 : Int32)) ||| (F_next p2 (p2 + p3) n_a1 g_a1 (-1 : Int32) w_a0_code w_a0_damaged)) (8 : Int32)) ||| (F_next v772 v771 n_a1 g_a1 (-1 : Int32) ((shlI w_a0_code (8 : Int32)) ||| (F_next p2 (p2 + p3) n_a1 g_a1 (-1 : Int32) w_a0_code w_a0_damaged)) w_a0_damaged)) w_a0_damaged)) (8 : Int32)) ||| (F_next v848 v771 n_a1 g_a1 (-1 : Int32) ((shlI ((shlI ((shlI w_a0_code (8 : Int32)) ||| (F_next p2 (p2 + p3) n_a1 g_a1 (-1 : Int32) w_a0_code w_a0_damaged)) (8 : Int32)) ||| (F_next v772 v771 n_a1 g_a1 (-1 : Int32) ((shlI w_a0_code (8 : Int32)) ||| (F_next p2 (p2 + p3) n_a1 g_a1 (-1 : Int32) w_a0_code w_a0_damaged)) w_a0_damaged)) (8 : Int32)) ||| (F_next v810 v771 n_a1 g_a1 (-1 : Int32) ((shlI ((shlI w_a0_code (8 : Int32)) ||| (F_next p2 (p2 + p3) n_a1 g_a1 (-1 : Int32) w_a0_code w_a0_damaged)) (8 : Int32)) ||| (F_next v772 v771 n_a1 g_a1 (-1 : Int32) ((shlI w_a0_code (8 : Int32)) ||| (F_next p2 (p2 + p3) n_a1 g_a1 (-1 : Int32) w_a0_code w_a0_damaged)) w_a0_damaged)) w_a0_damaged)) w_a0_damaged)) (8 : Int32)) ||| (F_next v886 v771 n_a1 g_a1 (-1 : Int32) ((shlI ((shlI ((shlI ((shlI w_a0_code (8 : Int32)) ||| (F_next p2 (p2 + p3) n_a1 g_a1 (-1 : Int32) w_a0_code w_a0_damaged)) (8 : Int32)) ||| (F_next v772 v771 n_a1 g_a1 (-1 : Int32) ((shlI w_a0_code (8 : Int32)) ||| (F_next p2 (p2 + p3) n_a1 g_a1 (-1 : Int32) w_a0_code w_a0_damaged)) w_a0_damaged)) (8 : Int32)) ||| (F_next v810 v771 n_a1 g_a1 (-1 : Int32) ((shlI ((shlI w_a0_code (8 : Int32)) ||| (F_next p2 (p2 + p3) n_a1 g_a1 (-1 : Int32) w_a0_code w_a0_damaged)) (8 : Int32)) ||| (F_next v772 v771 n_a1 g_a1 (-1 : Int32) ((shlI w_a0_code (8 : Int32)) ||| (F_next p2 (p2 + p3) n_a1 g_a1 (-1 : Int32) w_a0_code w_a0_damaged)) w_a0_damaged)) w_a0_damaged)) (8 : Int32)) ||| (F_next v848 v771 n_a1 g_a1 (-1 : Int32) ((shlI ((shlI ((shlI w_a0_code (8 : Int32)) ||| (F_next p2 (p2 + p3) n_a1 g_a1 (-1 : Int32) w_a0_code w_a0_damaged)) (8 : Int32)) ||| (F_next v772 v771 n_a1 g_a1 (-1 : Int32) ((shlI w_a0_code (8 : Int32)) ||| (F_next p2 (p2 + p3) n_a1 g_a1 (-1 : Int32) w_a0_code w_a0_damaged)) w_a0_damaged)) (8 : Int32)) ||| (F_next v810 v771 n_a1 g_a1 (-1 : Int32) ((shlI ((shlI w_a0_code (8 : Int32)) ||| (F_next p2 (p2 + p3) n_a1 g_a1 (-1 : Int32) w_a0_code w_a0_damaged)) (8 : Int32)) ||| (F_next v772 v771 n_a1 g_a1 (-1 : Int32) ((shlI w_a0_code (8 : Int32)) ||| (F_next p2 (p2 + p3) n_a1 g_a1 (-1 : Int32) w_a0_code w_a0_damaged)) w_a0_damaged)) w_a0_damaged)) w_a0_damaged)) w_a0_damaged))
def F_init_a0_end (p2 : Int32) (p3 : Int32) (w_a0_range : Int32) (w_a0_position : Int32) (w_a0_end : Int32) (w_a0_code : Int32) (n_a1 : Nat) (g_a1 : Nat → Int32) (w_a0_damaged : Int32) : Int32 :=
  let v771 : Int32 := (p2 + p3)
  let v772 : Int32 := (F_next_a0_position p2 (p2 + p3) n_a1 g_a1 (-1 : Int32) w_a0_code w_a0_damaged)
  let v809 : Int32 := ((shlI w_a0_code (8 : Int32)) ||| (F_next p2 (p2 + p3) n_a1 g_a1 (-1 : Int32) w_a0_code w_a0_damaged))
  let v810 : Int32 := (F_next_a0_position v772 v771 n_a1 g_a1 (-1 : Int32) ((shlI w_a0_code (8 : Int32)) ||| (F_next p2 (p2 + p3) n_a1 g_a1 (-1 : Int32) w_a0_code w_a0_damaged)) w_a0_damaged)
  let v847 : Int32 := ((shlI ((shlI w_a0_code (8 : Int32)) ||| (F_next p2 (p2 + p3) n_a1 g_a1 (-1 : Int32) w_a0_code w_a0_damaged)) (8 : Int32)) ||| (F_next v772 v771 n_a1 g_a1 (-1 : Int32) ((shlI w_a0_code (8 : Int32)) ||| (F_next p2 (p2 + p3) n_a1 g_a1 (-1 : Int32) w_a0_code w_a0_damaged)) w_a0_damaged))
  let v848 : Int32 := (F_next_a0_position v810 v771 n_a1 g_a1 (-1 : Int32) ((shlI ((shlI w_a0_code (8 : Int32)) ||| (F_next p2 (p2 + p3) n_a1 g_a1 (-1 : Int32) w_a0_code w_a0_damaged)) (8 : Int32)) ||| (F_next v772 v771 n_a1 g_a1 (-1 : Int32) ((shlI w_a0_code (8 : Int32)) ||| (F_next p2 (p2 + p3) n_a1 g_a1 (-1 : Int32) w_a0_code w_a0_damaged)) w_a0_damaged)) w_a0_damaged)
  let v885 : Int32 := ((shlI ((shlI ((shlI w_a0_code (8 : Int32)) ||| (F_next p2 (p2 + p3) n_a1 g_a1 (-1 : Int32) w_a0_code w_a0_damaged)) (8 : Int32)) ||| (F_next v772 v771 n_a1 g_a1 (-1 : Int32) ((shlI w_a0_code (8 : Int32)) ||| (F_next p2 (p2 + p3) n_a1 g_a1 (-1 : Int32) w_a0_code w_a0_damaged)) w_a0_damaged)) (8 : Int32)) ||| (F_next v810 v771 n_a1 g_a1 (-1 : Int32) ((shlI ((shlI w_a0_code (8 : Int32)) ||| (F_next p2 (p2 + p3) n_a1 g_a1 (-1 : Int32) w_a0_code w_a0_damaged)) (8 : Int32)) ||| (F_next v772 v771 n_a1 g_a1 (-1 : Int32) ((shlI w_a0_code (8 : Int32)) ||| (F_next p2 (p2 + p3) n_a1 g_a1 (-1 : Int32) w_a0_code w_a0_damaged)) w_a0_damaged)) w_a0_damaged))
  let v886 : Int32 := (F_next_a0_position v848 v771 n_a1 g_a1 (-1 : Int32) ((shlI ((shlI ((shlI w_a0_code (8 : Int32)) ||| (F_next p2 (p2 + p3) n_a1 g_a1 (-1 : Int32) w_a0_code w_a0_damaged)) (8 : Int32)) ||| (F_next v772 v771 n_a1 g_a1 (-1 : Int32) ((shlI w_a0_code (8 : Int32)) ||| (F_next p2 (p2 + p3) n_a1 g_a1 (-1 : Int32) w_a0_code w_a0_damaged)) w_a0_damaged)) (8 : Int32)) ||| (F_next v810 v771 n_a1 g_a1 (-1 : Int32) ((shlI ((shlI w_a0_code (8 : Int32)) ||| (F_next p2 (p2 + p3) n_a1 g_a1 (-1 : Int32) w_a0_code w_a0_damaged)) (8 : Int32)) ||| (F_next v772 v771 n_a1 g_a1 (-1 : Int32) ((shlI w_a0_code (8 : Int32)) ||| (F_next p2 (p2 + p3) n_a1 g_a1 (-1 : Int32) w_a0_code w_a0_damaged)) w_a0_damaged)) w_a0_damaged)) w_a0_damaged)
  let v923 : Int32 := ((shlI ((shlI ((shlI ((shlI w_a0_code (8 : Int32)) ||| (F_next p2 (p2 + p3) n_a1 g_a1 (-1 : Int32) w_a0_code w_a0_damaged)) (8 : Int32)) ||| (F_next v772 v771 n_a1 g_a1 (-1 : Int32) ((shlI w_a0_code (8 : Int32)) ||| (F_next p2 (p2 + p3) n_a1 g_a1 (-1 : Int32) w_a0_code w_a0_damaged)) w_a0_damaged)) (8 : Int32)) ||| (F_next v810 v771 n_a1 g_a1 (-1 : Int32) ((shlI ((shlI w_a0_code (8 : Int32)) ||| (F_next p2 (p2 + p3) n_a1 g_a1 (-1 : Int32) w_a0_code w_a0_damaged)) (8 : Int32)) ||| (F_next v772 v771 n_a1 g_a1 (-1 : Int32) ((shlI w_a0_code (8 : Int32)) ||| (F_next p2 (p2 + p3) n_a1 g_a1 (-1 : Int32) w_a0_code w_a0_damaged)) w_a0_damaged)) w_a0_damaged)) (8 : Int32)) ||| (F_next v848 v771 n_a1 g_a1 (-1 : Int32) ((shlI ((shlI ((shlI w_a0_code (8 : Int32)) ||| (F_next p2 (p2 + p3) n_a1 g_a1 (-1 : Int32) w_a0_code w_a0_damaged)) (8 : Int32)) ||| (F_next v772 v771 n_a1 g_a1 (-1 : Int32) ((shlI w_a0_code (8 : Int32)) ||| (F_next p2 (p2 + p3) n_a1 g_a1 (-1 : Int32) w_a0_code w_a0_damaged)) w_a0_damaged)) (8 : Int32)) ||| (F_next v810 v771 n_a1 g_a1 (-1 : Int32) ((shlI ((shlI w_a0_code (8 : Int32)) ||| (F_next p2 (p2 + p3) n_a1 g_a1 (-1 : Int32) w_a0_code w_a0_damaged)) (8 : Int32)) ||| (F_next v772 v771 n_a1 g_a1 (-1 : Int32) ((shlI w_a0_code (8 : Int32)) ||| (F_next p2 (p2 + p3) n_a1 g_a1 (-1 : Int32) w_a0_code w_a0_damaged)) w_a0_damaged)) w_a0_damaged)) w_a0_damaged))
  let v924 : Int32 := (F_next_a0_position v886 v771 n_a1 g_a1 (-1 : Int32) ((shlI ((shlI ((shlI ((shlI w_a0_code (8 : Int32)) ||| (F_next p2 (p2 + p3) n_a1 g_a1 (-1 : Int32) w_a0_code w_a0_damaged)) (8 : Int32)) ||| (F_next v772 v771 n_a1 g_a1 (-1 : Int32) ((shlI w_a0_code (8 : Int32)) ||| (F_next p2 (p2 + p3) n_a1 g_a1 (-1 : Int32) w_a0_code w_a0_damaged)) w_a0_damaged)) (8 : Int32)) ||| (F_next v810 v771 n_a1 g_a1 (-1 : Int32) ((shlI ((shlI w_a0_code (8 : Int32)) ||| (F_next p2 (p2 + p3) n_a1 g_a1 (-1 : Int32) w_a0_code w_a0_damaged)) (8 : Int32)) ||| (F_next v772 v771 n_a1 g_a1 (-1 : Int32) ((shlI w_a0_code (8 : Int32)) ||| (F_next p2 (p2 + p3) n_a1 g_a1 (-1 : Int32) w_a0_code w_a0_damaged)) w_a0_damaged)) w_a0_damaged)) (8 : Int32)) ||| (F_next v848 v771 n_a1 g_a1 (-1 : Int32) ((shlI ((shlI ((shlI w_a0_code (8 : Int32)) ||| (F_next p2 (p2 + p3) n_a1 g_a1 (-1 : Int32) w_a0_code w_a0_damaged)) (8 : Int32)) ||| (F_next v772 v771 n_a1 g_a1 (-1 : Int32) ((shlI w_a0_code (8 : Int32)) ||| (F_next p2 (p2 + p3) n_a1 g_a1 (-1 : Int32) w_a0_code w_a0_damaged)) w_a0_damaged)) (8 : Int32)) ||| (F_next v810 v771 n_a1 g_a1 (-1 : Int32) ((shlI ((shlI w_a0_code (8 : Int32)) ||| (F_next p2 (p2 + p3) n_a1 g_a1 (-1 : Int32) w_a0_code w_a0_damaged)) (8 : Int32)) ||| (F_next v772 v771 n_a1 g_a1 (-1 : Int32) ((shlI w_a0_code (8 : Int32)) ||| (F_next p2 (p2 + p3) n_a1 g_a1 (-1 : Int32) w_a0_code w_a0_damaged)) w_a0_damaged)) w_a0_damaged)) w_a0_damaged)) w_a0_damaged)
  v771
def F_init_a0_position (p2 : Int32) (p3 : Int32) (w_a0_range : Int32) (w_a0_position : Int32) (w_a0_end : Int32) (w_a0_code : Int32) (n_a1 : Nat) (g_a1 : Nat → Int32) (w_a0_damaged : Int32) : Int32 :=
  let v771 : Int32 := (p2 + p3)
  let v772 : Int32 := (F_next_a0_position p2 (p2 + p3) n_a1 g_a1 (-1 : Int32) w_a0_code w_a0_damaged)
  let v809 : Int32 := ((shlI w_a0_code (8 : Int32)) ||| (F_next p2 (p2 + p3) n_a1 g_a1 (-1 : Int32) w_a0_code w_a0_damaged))
  let v810 : Int32 := (F_next_a0_position v772 v771 n_a1 g_a1 (-1 : Int32) ((shlI w_a0_code (8 : Int32)) ||| (F_next p2 (p2 + p3) n_a1 g_a1 (-1 : Int32) w_a0_code w_a0_damaged)) w_a0_damaged)
  let v847 : Int32 := ((shlI ((shlI w_a0_code (8 : Int32)) ||| (F_next p2 (p2 + p3) n_a1 g_a1 (-1 : Int32) w_a0_code w_a0_damaged)) (8 : Int32)) ||| (F_next v772 v771 n_a1 g_a1 (-1 : Int32) ((shlI w_a0_code (8 : Int32)) ||| (F_next p2 (p2 + p3) n_a1 g_a1 (-1 : Int32) w_a0_code w_a0_damaged)) w_a0_damaged))
  let v848 : Int32 := (F_next_a0_position v810 v771 n_a1 g_a1 (-1 : Int32) ((shlI ((shlI w_a0_code (8 : Int32)) ||| (F_next p2 (p2 + p3) n_a1 g_a1 (-1 : Int32) w_a0_code w_a0_damaged)) (8 : Int32)) ||| (F_next v772 v771 n_a1 g_a1 (-1 : Int32) ((shlI w_a0_code (8 : Int32)) ||| (F_next p2 (p2 + p3) n_a1 g_a1 (-1 : Int32) w_a0_code w_a0_damaged)) w_a0_damaged)) w_a0_damaged)
  let v885 : Int32 := ((shlI ((shlI ((shlI w_a0_code (8 : Int32)) ||| (F_next p2 (p2 + p3) n_a1 g_a1 (-1 : Int32) w_a0_code w_a0_damaged)) (8 : Int32)) ||| (F_next v772 v771 n_a1 g_a1 (-1 : Int32) ((shlI w_a0_code (8 : Int32)) ||| (F_next p2 (p2 + p3) n_a1 g_a1 (-1 : Int32) w_a0_code w_a0_damaged)) w_a0_damaged)) (8 : Int32)) ||| (F_next v810 v771 n_a1 g_a1 (-1 : Int32) ((shlI ((shlI w_a0_code (8 : Int32)) ||| (F_next p2 (p2 + p3) n_a1 g_a1 (-1 : Int32) w_a0_code w_a0_damaged)) (8 : Int32)) ||| (F_next v772 v771 n_a1 g_a1 (-1 : Int32) ((shlI w_a0_code (8 : Int32)) ||| (F_next p2 (p2 + p3) n_a1 g_a1 (-1 : Int32) w_a0_code w_a0_damaged)) w_a0_damaged)) w_a0_damaged))
  let v886 : Int32 := (F_next_a0_position v848 v771 n_a1 g_a1 (-1 : Int32) ((shlI ((shlI ((shlI w_a0_code (8 : Int32)) ||| (F_next p2 (p2 + p3) n_a1 g_a1 (-1 : Int32) w_a0_code w_a0_damaged)) (8 : Int32)) ||| (F_next v772 v771 n_a1 g_a1 (-1 : Int32) ((shlI w_a0_code (8 : Int32)) ||| (F_next p2 (p2 + p3) n_a1 g_a1 (-1 : Int32) w_a0_code w_a0_damaged)) w_a0_damaged)) (8 : Int32)) ||| (F_next v810 v771 n_a1 g_a1 (-1 : Int32) ((shlI ((shlI w_a0_code (8 : Int32)) ||| (F_next p2 (p2 + p3) n_a1 g_a1 (-1 : Int32) w_a0_code w_a0_damaged)) (8 : Int32)) ||| (F_next v772 v771 n_a1 g_a1 (-1 : Int32) ((shlI w_a0_code (8 : Int32)) ||| (F_next p2 (p2 + p3) n_a1 g_a1 (-1 : Int32) w_a0_code w_a0_damaged)) w_a0_damaged)) w_a0_damaged)) w_a0_damaged)
  let v923 : Int32 := ((shlI ((shlI ((shlI ((shlI w_a0_code (8 : Int32)) ||| (F_next p2 (p2 + p3) n_a1 g_a1 (-1 : Int32) w_a0_code w_a0_damaged)) (8 : Int32)) ||| (F_next v772 v771 n_a1 g_a1 (-1 : Int32) ((shlI w_a0_code (8 : Int32)) ||| (F_next p2 (p2 + p3) n_a1 g_a1 (-1 : Int32) w_a0_code w_a0_damaged)) w_a0_damaged)) (8 : Int32)) ||| (F_next v810 v771 n_a1 g_a1 (-1 : Int32) ((shlI ((shlI w_a0_code (8 : Int32)) ||| (F_next p2 (p2 + p3) n_a1 g_a1 (-1 : Int32) w_a0_code w_a0_damaged)) (8 : Int32)) ||| (F_next v772 v771 n_a1 g_a1 (-1 : Int32) ((shlI w_a0_code (8 : Int32)) ||| (F_next p2 (p2 + p3) n_a1 g_a1 (-1 : Int32) w_a0_code w_a0_damaged)) w_a0_damaged)) w_a0_damaged)) (8 : Int32)) ||| (F_next v848 v771 n_a1 g_a1 (-1 : Int32) ((shlI ((shlI ((shlI w_a0_code (8 : Int32)) ||| (F_next p2 (p2 + p3) n_a1 g_a1 (-1 : Int32) w_a0_code w_a0_damaged)) (8 : Int32)) ||| (F_next v772 v771 n_a1 g_a1 (-1 : Int32) ((shlI w_a0_code (8 : Int32)) ||| (F_next p2 (p2 + p3) n_a1 g_a1 (-1 : Int32) w_a0_code w_a0_damaged)) w_a0_damaged)) (8 : Int32)) ||| (F_next v810 v771 n_a1 g_a1 (-1 : Int32) ((shlI ((shlI w_a0_code (8 : Int32)) ||| (F_next p2 (p2 + p3) n_a1 g_a1 (-1 : Int32) w_a0_code w_a0_damaged)) (8 : Int32)) ||| (F_next v772 v771 n_a1 g_a1 (-1 : Int32) ((shlI w_a0_code (8 : Int32)) ||| (F_next p2 (p2 + p3) n_a1 g_a1 (-1 : Int32) w_a0_code w_a0_damaged)) w_a0_damaged)) w_a0_damaged)) w_a0_damaged))
  let v924 : Int32 := (F_next_a0_position v886 v771 n_a1 g_a1 (-1 : Int32) ((shlI ((shlI ((shlI ((shlI w_a0_code (8 : Int32)) ||| (F_next p2 (p2 + p3) n_a1 g_a1 (-1 : Int32) w_a0_code w_a0_damaged)) (8 : Int32)) ||| (F_next v772 v771 n_a1 g_a1 (-1 : Int32) ((shlI w_a0_code (8 : Int32)) ||| (F_next p2 (p2 + p3) n_a1 g_a1 (-1 : Int32) w_a0_code w_a0_damaged)) w_a0_damaged)) (8 : Int32)) ||| (F_next v810 v771 n_a1 g_a1 (-1 : Int32) ((shlI ((shlI w_a0_code (8 : Int32)) ||| (F_next p2 (p2 + p3) n_a1 g_a1 (-1 : Int32) w_a0_code w_a0_damaged)) (8 : Int32)) ||| (F_next v772 v771 n_a1 g_a1 (-1 : Int32) ((shlI w_a0_code (8 : Int32)) ||| (F_next p2 (p2 + p3) n_a1 g_a1 (-1 : Int32) w_a0_code w_a0_damaged)) w_a0_damaged)) w_a0_damaged)) (8 : Int32)) ||| (F_next v848 v771 n_a1 g_a1 (-1 : Int32) ((shlI ((shlI ((shlI w_a0_code (8 : Int32)) ||| (F_next p2 (p2 + p3) n_a1 g_a1 (-1 : Int32) w_a0_code w_a0_damaged)) (8 : Int32)) ||| (F_next v772 v771 n_a1 g_a1 (-1 : Int32) ((shlI w_a0_code (8 : Int32)) ||| (F_next p2 (p2 + p3) n_a1 g_a1 (-1 : Int32) w_a0_code w_a0_damaged)) w_a0_damaged)) (8 : Int32)) ||| (F_next v810 v771 n_a1 g_a1 (-1 : Int32) ((shlI ((shlI w_a0_code (8 : Int32)) ||| (F_next p2 (p2 + p3) n_a1 g_a1 (-1 : Int32) w_a0_code w_a0_damaged)) (8 : Int32)) ||| (F_next v772 v771 n_a1 g_a1 (-1 : Int32) ((shlI w_a0_code (8 : Int32)) ||| (F_next p2 (p2 + p3) n_a1 g_a1 (-1 : Int32) w_a0_code w_a0_damaged)) w_a0_damaged)) w_a0_damaged)) w_a0_damaged)) w_a0_damaged)
  v924
def F_init_a0_range (p2 : Int32) (p3 : Int32) (w_a0_range : Int32) (w_a0_position : Int32) (w_a0_end : Int32) (w_a0_code : Int32) (n_a1 : Nat) (g_a1 : Nat → Int32) (w_a0_damaged : Int32) : Int32 :=
  let v771 : Int32 := (p2 + p3)
  let v772 : Int32 := (F_next_a0_position p2 (p2 + p3) n_a1 g_a1 (-1 : Int32) w_a0_code w_a0_damaged)
  let v809 : Int32 := ((shlI w_a0_code (8 : Int32)) ||| (F_next p2 (p2 + p3) n_a1 g_a1 (-1 : Int32) w_a0_code w_a0_damaged))
  let v810 : Int32 := (F_next_a0_position v772 v771 n_a1 g_a1 (-1 : Int32) ((shlI w_a0_code (8 : Int32)) ||| (F_next p2 (p2 + p3) n_a1 g_a1 (-1 : Int32) w_a0_code w_a0_damaged)) w_a0_damaged)
  let v847 : Int32 := ((shlI ((shlI w_a0_code (8 : Int32)) ||| (F_next p2 (p2 + p3) n_a1 g_a1 (-1 : Int32) w_a0_code w_a0_damaged)) (8 : Int32)) ||| (F_next v772 v771 n_a1 g_a1 (-1 : Int32) ((shlI w_a0_code (8 : Int32)) ||| (F_next p2 (p2 + p3) n_a1 g_a1 (-1 : Int32) w_a0_code w_a0_damaged)) w_a0_damaged))
  let v848 : Int32 := (F_next_a0_position v810 v771 n_a1 g_a1 (-1 : Int32) ((shlI ((shlI w_a0_code (8 : Int32)) ||| (F_next p2 (p2 + p3) n_a1 g_a1 (-1 : Int32) w_a0_code w_a0_damaged)) (8 : Int32)) ||| (F_next v772 v771 n_a1 g_a1 (-1 : Int32) ((shlI w_a0_code (8 : Int32)) ||| (F_next p2 (p2 + p3) n_a1 g_a1 (-1 : Int32) w_a0_code w_a0_damaged)) w_a0_damaged)) w_a0_damaged)
  let v885 : Int32 := ((shlI ((shlI ((shlI w_a0_code (8 : Int32)) ||| (F_next p2 (p2 + p3) n_a1 g_a1 (-1 : Int32) w_a0_code w_a0_damaged)) (8 : Int32)) ||| (F_next v772 v771 n_a1 g_a1 (-1 : Int32) ((shlI w_a0_code (8 : Int32)) ||| (F_next p2 (p2 + p3) n_a1 g_a1 (-1 : Int32) w_a0_code w_a0_damaged)) w_a0_damaged)) (8 : Int32)) ||| (F_next v810 v771 n_a1 g_a1 (-1 : Int32) ((shlI ((shlI w_a0_code (8 : Int32)) ||| (F_next p2 (p2 + p3) n_a1 g_a1 (-1 : Int32) w_a0_code w_a0_damaged)) (8 : Int32)) ||| (F_next v772 v771 n_a1 g_a1 (-1 : Int32) ((shlI w_a0_code (8 : Int32)) ||| (F_next p2 (p2 + p3) n_a1 g_a1 (-1 : Int32) w_a0_code w_a0_damaged)) w_a0_damaged)) w_a0_damaged))
  let v886 : Int32 := (F_next_a0_position v848 v771 n_a1 g_a1 (-1 : Int32) ((shlI ((shlI ((shlI w_a0_code (8 : Int32)) ||| (F_next p2 (p2 + p3) n_a1 g_a1 (-1 : Int32) w_a0_code w_a0_damaged)) (8 : Int32)) ||| (F_next v772 v771 n_a1 g_a1 (-1 : Int32) ((shlI w_a0_code (8 : Int32)) ||| (F_next p2 (p2 + p3) n_a1 g_a1 (-1 : Int32) w_a0_code w_a0_damaged)) w_a0_damaged)) (8 : Int32)) ||| (F_next v810 v771 n_a1 g_a1 (-1 : Int32) ((shlI ((shlI w_a0_code (8 : Int32)) ||| (F_next p2 (p2 + p3) n_a1 g_a1 (-1 : Int32) w_a0_code w_a0_damaged)) (8 : Int32)) ||| (F_next v772 v771 n_a1 g_a1 (-1 : Int32) ((shlI w_a0_code (8 : Int32)) ||| (F_next p2 (p2 + p3) n_a1 g_a1 (-1 : Int32) w_a0_code w_a0_damaged)) w_a0_damaged)) w_a0_damaged)) w_a0_damaged)
  let v923 : Int32 := ((shlI ((shlI ((shlI ((shlI w_a0_code (8 : Int32)) ||| (F_next p2 (p2 + p3) n_a1 g_a1 (-1 : Int32) w_a0_code w_a0_damaged)) (8 : Int32)) ||| (F_next v772 v771 n_a1 g_a1 (-1 : Int32) ((shlI w_a0_code (8 : Int32)) ||| (F_next p2 (p2 + p3) n_a1 g_a1 (-1 : Int32) w_a0_code w_a0_damaged)) w_a0_damaged)) (8 : Int32)) ||| (F_next v810 v771 n_a1 g_a1 (-1 : Int32) ((shlI ((shlI w_a0_code (8 : Int32)) ||| (F_next p2 (p2 + p3) n_a1 g_a1 (-1 : Int32) w_a0_code w_a0_damaged)) (8 : Int32)) ||| (F_next v772 v771 n_a1 g_a1 (-1 : Int32) ((shlI w_a0_code (8 : Int32)) ||| (F_next p2 (p2 + p3) n_a1 g_a1 (-1 : Int32) w_a0_code w_a0_damaged)) w_a0_damaged)) w_a0_damaged)) (8 : Int32)) ||| (F_next v848 v771 n_a1 g_a1 (-1 : Int32) ((shlI ((shlI ((shlI w_a0_code (8 : Int32)) ||| (F_next p2 (p2 + p3) n_a1 g_a1 (-1 : Int32) w_a0_code w_a0_damaged)) (8 : Int32)) ||| (F_next v772 v771 n_a1 g_a1 (-1 : Int32) ((shlI w_a0_code (8 : Int32)) ||| (F_next p2 (p2 + p3) n_a1 g_a1 (-1 : Int32) w_a0_code w_a0_damaged)) w_a0_damaged)) (8 : Int32)) ||| (F_next v810 v771 n_a1 g_a1 (-1 : Int32) ((shlI ((shlI w_a0_code (8 : Int32)) ||| (F_next p2 (p2 + p3) n_a1 g_a1 (-1 : Int32) w_a0_code w_a0_damaged)) (8 : Int32)) ||| (F_next v772 v771 n_a1 g_a1 (-1 : Int32) ((shlI w_a0_code (8 : Int32)) ||| (F_next p2 (p2 + p3) n_a1 g_a1 (-1 : Int32) w_a0_code w_a0_damaged)) w_a0_damaged)) w_a0_damaged)) w_a0_damaged))
  let v924 : Int32 := (F_next_a0_position v886 v771 n_a1 g_a1 (-1 : Int32) ((shlI ((shlI ((shlI ((shlI w_a0_code (8 : Int32)) ||| (F_next p2 (p2 + p3) n_a1 g_a1 (-1 : Int32) w_a0_code w_a0_damaged)) (8 : Int32)) ||| (F_next v772 v771 n_a1 g_a1 (-1 : Int32) ((shlI w_a0_code (8 : Int32)) ||| (F_next p2 (p2 + p3) n_a1 g_a1 (-1 : Int32) w_a0_code w_a0_damaged)) w_a0_damaged)) (8 : Int32)) ||| (F_next v810 v771 n_a1 g_a1 (-1 : Int32) ((shlI ((shlI w_a0_code (8 : Int32)) ||| (F_next p2 (p2 + p3) n_a1 g_a1 (-1 : Int32) w_a0_code w_a0_damaged)) (8 : Int32)) ||| (F_next v772 v771 n_a1 g_a1 (-1 : Int32) ((shlI w_a0_code (8 : Int32)) ||| (F_next p2 (p2 + p3) n_a1 g_a1 (-1 : Int32) w_a0_code w_a0_damaged)) w_a0_damaged)) w_a0_damaged)) (8 : Int32)) ||| (F_next v848 v771 n_a1 g_a1 (-1 : Int32) ((shlI ((shlI ((shlI w_a0_code (8 : Int32)) ||| (F_next p2 (p2 + p3) n_a1 g_a1 (-1 : Int32) w_a0_code w_a0_damaged)) (8 : Int32)) ||| (F_next v772 v771 n_a1 g_a1 (-1 : Int32) ((shlI w_a0_code (8 : Int32)) ||| (F_next p2 (p2 + p3) n_a1 g_a1 (-1 : Int32) w_a0_code w_a0_damaged)) w_a0_damaged)) (8 : Int32)) ||| (F_next v810 v771 n_a1 g_a1 (-1 : Int32) ((shlI ((shlI w_a0_code (8 : Int32)) ||| (F_next p2 (p2 + p3) n_a1 g_a1 (-1 : Int32) w_a0_code w_a0_damaged)) (8 : Int32)) ||| (F_next v772 v771 n_a1 g_a1 (-1 : Int32) ((shlI w_a0_code (8 : Int32)) ||| (F_next p2 (p2 + p3) n_a1 g_a1 (-1 : Int32) w_a0_code w_a0_damaged)) w_a0_damaged)) w_a0_damaged)) w_a0_damaged)) w_a0_damaged)
  (-1 : Int32)
set_option maxRecDepth 65536 in
set_option maxHeartbeats 40000000 in
theorem rm1 (l : Launch) (Z : State) (az : Array Value) (hw : ∀ d ∈ tables_1, d.before az Z = true) (ws : List Jvm.Cond) (a0 : Addr) (a1 : Addr) (p2 : Int32) (p3 : Int32) (w_a0_range : Int32) (w_a0_bytes : Value) (w_a0_position : Int32) (w_a0_end : Int32) (w_a0_code : Int32) (n_a1 : Nat) (g_a1 : Nat → Int32) (w_a0_damaged : Int32) (h0 : Heap) (n0 : Nat) (Z0 : n0 ≤ h0.size) (E_a0 : Exa Z h0 a0 "com/example/tidelake/tidelake/hub/RangeCoder$Decoder") (F_a0_range : Fld Z h0 a0 "com/example/tidelake/tidelake/hub/RangeCoder$Decoder" "range" "I" (.int w_a0_range)) (ge_a0 : n0 ≤ a0) (F_a0_bytes : Fld Z h0 a0 "com/example/tidelake/tidelake/hub/RangeCoder$Decoder" "bytes" "[B" w_a0_bytes) (F_a0_position : Fld Z h0 a0 "com/example/tidelake/tidelake/hub/RangeCoder$Decoder" "position" "I" (.int w_a0_position)) (F_a0_end : Fld Z h0 a0 "com/example/tidelake/tidelake/hub/RangeCoder$Decoder" "end" "I" (.int w_a0_end)) (F_a0_code : Fld Z h0 a0 "com/example/tidelake/tidelake/hub/RangeCoder$Decoder" "code" "I" (.int w_a0_code)) (A_a1 : Ary Z h0 a1 .byte n_a1 (fun i => Value.int (g_a1 i))) (ne_a1_a0 : a1 ≠ a0) (F_a0_damaged : Fld Z h0 a0 "com/example/tidelake/tidelake/hub/RangeCoder$Decoder" "damaged" "Z" (.int w_a0_damaged)) (ob_0 : (p2 < (p2 + p3) → ¬ p2 < (0 : Int32) ∧ Int32.toNatClampNeg p2 < n_a1)) (ob_1 : ∀ (v771 : Int32) (v772 : Int32), (p2 + p3) = v771 → (F_next_a0_position p2 (p2 + p3) n_a1 g_a1 (-1 : Int32) w_a0_code w_a0_damaged) = v772 → (v772 < v771 → ¬ v772 < (0 : Int32) ∧ Int32.toNatClampNeg v772 < n_a1)) (ob_2 : ∀ (v771 : Int32) (v772 : Int32) (v810 : Int32), (p2 + p3) = v771 → (F_next_a0_position p2 (p2 + p3) n_a1 g_a1 (-1 : Int32) w_a0_code w_a0_damaged) = v772 → (F_next_a0_position v772 v771 n_a1 g_a1 (-1 : Int32) ((shlI w_a0_code (8 : Int32)) ||| (F_next p2 (p2 + p3) n_a1 g_a1 (-1 : Int32) w_a0_code w_a0_damaged)) w_a0_damaged) = v810 → (v810 < v771 → ¬ v810 < (0 : Int32) ∧ Int32.toNatClampNeg v810 < n_a1)) (ob_3 : ∀ (v771 : Int32) (v772 : Int32) (v810 : Int32) (v848 : Int32), (p2 + p3) = v771 → (F_next_a0_position p2 (p2 + p3) n_a1 g_a1 (-1 : Int32) w_a0_code w_a0_damaged) = v772 → (F_next_a0_position v772 v771 n_a1 g_a1 (-1 : Int32) ((shlI w_a0_code (8 : Int32)) ||| (F_next p2 (p2 + p3) n_a1 g_a1 (-1 : Int32) w_a0_code w_a0_damaged)) w_a0_damaged) = v810 → (F_next_a0_position v810 v771 n_a1 g_a1 (-1 : Int32) ((shlI ((shlI w_a0_code (8 : Int32)) ||| (F_next p2 (p2 + p3) n_a1 g_a1 (-1 : Int32) w_a0_code w_a0_damaged)) (8 : Int32)) ||| (F_next v772 v771 n_a1 g_a1 (-1 : Int32) ((shlI w_a0_code (8 : Int32)) ||| (F_next p2 (p2 + p3) n_a1 g_a1 (-1 : Int32) w_a0_code w_a0_damaged)) w_a0_damaged)) w_a0_damaged) = v848 → (v848 < v771 → ¬ v848 < (0 : Int32) ∧ Int32.toNatClampNeg v848 < n_a1)) (ob_4 : ∀ (v771 : Int32) (v772 : Int32) (v810 : Int32) (v848 : Int32) (v886 : Int32), (p2 + p3) = v771 → (F_next_a0_position p2 (p2 + p3) n_a1 g_a1 (-1 : Int32) w_a0_code w_a0_damaged) = v772 → (F_next_a0_position v772 v771 n_a1 g_a1 (-1 : Int32) ((shlI w_a0_code (8 : Int32)) ||| (F_next p2 (p2 + p3) n_a1 g_a1 (-1 : Int32) w_a0_code w_a0_damaged)) w_a0_damaged) = v810 → (F_next_a0_position v810 v771 n_a1 g_a1 (-1 : Int32) ((shlI ((shlI w_a0_code (8 : Int32)) ||| (F_next p2 (p2 + p3) n_a1 g_a1 (-1 : Int32) w_a0_code w_a0_damaged)) (8 : Int32)) ||| (F_next v772 v771 n_a1 g_a1 (-1 : Int32) ((shlI w_a0_code (8 : Int32)) ||| (F_next p2 (p2 + p3) n_a1 g_a1 (-1 : Int32) w_a0_code w_a0_damaged)) w_a0_damaged)) w_a0_damaged) = v848 → (F_next_a0_position v848 v771 n_a1 g_a1 (-1 : Int32) ((shlI ((shlI ((shlI w_a0_code (8 : Int32)) ||| (F_next p2 (p2 + p3) n_a1 g_a1 (-1 : Int32) w_a0_code w_a0_damaged)) (8 : Int32)) ||| (F_next v772 v771 n_a1 g_a1 (-1 : Int32) ((shlI w_a0_code (8 : Int32)) ||| (F_next p2 (p2 + p3) n_a1 g_a1 (-1 : Int32) w_a0_code w_a0_damaged)) w_a0_damaged)) (8 : Int32)) ||| (F_next v810 v771 n_a1 g_a1 (-1 : Int32) ((shlI ((shlI w_a0_code (8 : Int32)) ||| (F_next p2 (p2 + p3) n_a1 g_a1 (-1 : Int32) w_a0_code w_a0_damaged)) (8 : Int32)) ||| (F_next v772 v771 n_a1 g_a1 (-1 : Int32) ((shlI w_a0_code (8 : Int32)) ||| (F_next p2 (p2 + p3) n_a1 g_a1 (-1 : Int32) w_a0_code w_a0_damaged)) w_a0_damaged)) w_a0_damaged)) w_a0_damaged) = v886 → (v886 < v771 → ¬ v886 < (0 : Int32) ∧ Int32.toNatClampNeg v886 < n_a1)) :
    Met l (⟨"com/example/tidelake/tidelake/hub/RangeCoder$Decoder", "<init>", "([BII)V"⟩ : MethodName) prog_121_method_1_code 5 none ws ({ frames := 2, cells := 0, slots := 0, locals := 24 } : Room) Z #[(.ref a0), (.ref a1), (.int p2), (.int p3)] h0 (fun v h' L => v = none ∧ Fr n0 L ∧ Keep h0 h' [a0] ∧ Fld Z h' a0 "com/example/tidelake/tidelake/hub/RangeCoder$Decoder" "bytes" "[B" (.ref a1) ∧ Fld Z h' a0 "com/example/tidelake/tidelake/hub/RangeCoder$Decoder" "code" "I" (.int (F_init_a0_code p2 p3 w_a0_range w_a0_position w_a0_end w_a0_code n_a1 g_a1 w_a0_damaged)) ∧ Fld Z h' a0 "com/example/tidelake/tidelake/hub/RangeCoder$Decoder" "damaged" "Z" (.int w_a0_damaged) ∧ Fld Z h' a0 "com/example/tidelake/tidelake/hub/RangeCoder$Decoder" "end" "I" (.int (F_init_a0_end p2 p3 w_a0_range w_a0_position w_a0_end w_a0_code n_a1 g_a1 w_a0_damaged)) ∧ Fld Z h' a0 "com/example/tidelake/tidelake/hub/RangeCoder$Decoder" "position" "I" (.int (F_init_a0_position p2 p3 w_a0_range w_a0_position w_a0_end w_a0_code n_a1 g_a1 w_a0_damaged)) ∧ Fld Z h' a0 "com/example/tidelake/tidelake/hub/RangeCoder$Decoder" "range" "I" (.int (F_init_a0_range p2 p3 w_a0_range w_a0_position w_a0_end w_a0_code n_a1 g_a1 w_a0_damaged))) := by
  refine enter (plainFor_of_name pn_2) (ef_1 a0 a1 p2 p3) ?_
  intro p e s m below meth c T0 kc kn Q hkc hkn hQ K' X0 e0
  have K : Fx p s m meth c prog_121_method_1_code 5 "com/example/tidelake/tidelake/hub/RangeCoder$Decoder" "<init>" none Z := K'
  have N0 := Fr.nil n0
  have K0 : Keep h0 h0 [a0] := Keep.refl _ _
  refine k_aloadN K X0 d1_0 rfl rfl (q := 1) rfl ?_
  refine k_specialP K X0 e0 d1_1 rfl (wd hw 8 rfl) (wd hw 9 rfl) (wd hw 11 rfl) (wd hw 12 rfl) (by decide) (rm2 l Z az hw [] a0 h0) (W := 0) (by decide) (by decide) (by decide) (by decide) rfl pd_1 (argsL := []) (rest := []) rfl rfl rfl (Nat.le_of_eq rfl) (q := 4) rfl ?_
  intro T684 X685 e686
  refine k_aloadN K X685 d1_4 rfl rfl (q := 5) rfl ?_
  refine k_iconst K X685 d1_5 (v := (-1 : Int32)) rfl (q := 6) rfl ?_
  refine k_putfield K X685 e686 d1_6 (wd hw 16 rfl) F_a0_range E_a0 (Or.inl (wd hw 17 rfl)) (wd hw 3 rfl) (ty := .int) (by decide) rfl rfl (q := 9) rfl ?_
  intro T687 h688 X689 e690 W691
  have f692 := Fld.same W691 F_a0_range
  have f693 := Exa.wr W691 E_a0
  have f694 := Fld.other W691 F_a0_bytes (Or.inr (slot_ne (Or.inr (wd hw 19 rfl)) (Or.inl (wd hw 17 rfl)) (by decide) (t := (.array .byte)) (t' := .int) (by decide) (by decide)))
  have f695 := Fld.other W691 F_a0_position (Or.inr (slot_ne (Or.inl (wd hw 21 rfl)) (Or.inl (wd hw 17 rfl)) (by decide) (t := .int) (t' := .int) (by decide) (by decide)))
  have f696 := Fld.other W691 F_a0_end (Or.inr (slot_ne (Or.inr (wd hw 23 rfl)) (Or.inl (wd hw 17 rfl)) (by decide) (t := .int) (t' := .int) (by decide) (by decide)))
  have f697 := Fld.other W691 F_a0_code (Or.inr (slot_ne (Or.inl (wd hw 25 rfl)) (Or.inl (wd hw 17 rfl)) (by decide) (t := .int) (t' := .int) (by decide) (by decide)))
  have f698 := Ary.other A_a1 W691 ne_a1_a0
  have f699 := Fld.other W691 F_a0_damaged (Or.inr (slot_ne (Or.inl (wd hw 36 rfl)) (Or.inl (wd hw 17 rfl)) (by decide) (t := .boolean) (t' := .int) (by decide) (by decide)))
  have N700 := Fr.snoc X689 N0 ge_a0
  have K701 := Keep.wr K0 W691 (Or.inl (List.mem_of_getElem? (i := 0) rfl))
  have Z702 := Nat.le_trans Z0 (Nat.le_of_eq (Wr.size W691).symm)
  refine k_aloadN K X689 d1_9 rfl rfl (q := 10) rfl ?_
  refine k_aloadN K X689 d1_10 rfl rfl (q := 11) rfl ?_
  refine k_putfield K X689 e690 d1_11 (wd hw 18 rfl) f694 f693 (Or.inr ⟨(wd hw 19 rfl), rfl, rfl⟩) (wd hw 3 rfl) (ty := (.array .byte)) (by decide) rfl rfl (q := 14) rfl ?_
  intro T703 h704 X705 e706 W707
  have f708 := Fld.same W707 f694
  have f709 := Exa.wr W707 f693
  have f710 := Fld.other W707 f695 (Or.inr (slot_ne (Or.inl (wd hw 21 rfl)) (Or.inr (wd hw 19 rfl)) (by decide) (t := .int) (t' := (.array .byte)) (by decide) (by decide)))
  have f711 := Fld.other W707 f696 (Or.inr (slot_ne (Or.inr (wd hw 23 rfl)) (Or.inr (wd hw 19 rfl)) (by decide) (t := .int) (t' := (.array .byte)) (by decide) (by decide)))
  have f712 := Fld.other W707 f697 (Or.inr (slot_ne (Or.inl (wd hw 25 rfl)) (Or.inr (wd hw 19 rfl)) (by decide) (t := .int) (t' := (.array .byte)) (by decide) (by decide)))
  have f713 := Ary.other f698 W707 ne_a1_a0
  have f714 := Fld.other W707 f699 (Or.inr (slot_ne (Or.inl (wd hw 36 rfl)) (Or.inr (wd hw 19 rfl)) (by decide) (t := .boolean) (t' := (.array .byte)) (by decide) (by decide)))
  have f715 := Fld.other W707 f692 (Or.inr (slot_ne (Or.inl (wd hw 17 rfl)) (Or.inr (wd hw 19 rfl)) (by decide) (t := .int) (t' := (.array .byte)) (by decide) (by decide)))
  have N716 := Fr.snoc X705 N700 ge_a0
  have K717 := Keep.wr K701 W707 (Or.inl (List.mem_of_getElem? (i := 0) rfl))
  have Z718 := Nat.le_trans Z702 (Nat.le_of_eq (Wr.size W707).symm)
  refine k_aloadN K X705 d1_14 rfl rfl (q := 15) rfl ?_
  refine k_iloadN K X705 d1_15 rfl (q := 16) rfl ?_
  refine k_putfield K X705 e706 d1_16 (wd hw 20 rfl) f710 f709 (Or.inl (wd hw 21 rfl)) (wd hw 3 rfl) (ty := .int) (by decide) rfl rfl (q := 19) rfl ?_
  intro T719 h720 X721 e722 W723
  have f724 := Fld.same W723 f710
  have f725 := Exa.wr W723 f709
  have f726 := Fld.other W723 f711 (Or.inr (slot_ne (Or.inr (wd hw 23 rfl)) (Or.inl (wd hw 21 rfl)) (by decide) (t := .int) (t' := .int) (by decide) (by decide)))
  have f727 := Fld.other W723 f712 (Or.inr (slot_ne (Or.inl (wd hw 25 rfl)) (Or.inl (wd hw 21 rfl)) (by decide) (t := .int) (t' := .int) (by decide) (by decide)))
  have f728 := Ary.other f713 W723 ne_a1_a0
  have f729 := Fld.other W723 f714 (Or.inr (slot_ne (Or.inl (wd hw 36 rfl)) (Or.inl (wd hw 21 rfl)) (by decide) (t := .boolean) (t' := .int) (by decide) (by decide)))
  have f730 := Fld.other W723 f715 (Or.inr (slot_ne (Or.inl (wd hw 17 rfl)) (Or.inl (wd hw 21 rfl)) (by decide) (t := .int) (t' := .int) (by decide) (by decide)))
  have f731 := Fld.other W723 f708 (Or.inr (slot_ne (Or.inr (wd hw 19 rfl)) (Or.inl (wd hw 21 rfl)) (by decide) (t := (.array .byte)) (t' := .int) (by decide) (by decide)))
  have N732 := Fr.snoc X721 N716 ge_a0
  have K733 := Keep.wr K717 W723 (Or.inl (List.mem_of_getElem? (i := 0) rfl))
  have Z734 := Nat.le_trans Z718 (Nat.le_of_eq (Wr.size W723).symm)
  refine k_aloadN K X721 d1_19 rfl rfl (q := 20) rfl ?_
  refine k_iloadN K X721 d1_20 rfl (q := 21) rfl ?_
  refine k_iloadN K X721 d1_21 rfl (q := 22) rfl ?_
  refine k_iadd K X721 d1_22 (q := 23) rfl ?_
  refine k_putfield K X721 e722 d1_23 (wd hw 22 rfl) f726 f725 (Or.inr ⟨(wd hw 23 rfl), rfl, rfl⟩) (wd hw 3 rfl) (ty := .int) (by decide) rfl rfl (q := 26) rfl ?_
  intro T735 h736 X737 e738 W739
  have f740 := Fld.same W739 f726
  have f741 := Exa.wr W739 f725
  have f742 := Fld.other W739 f727 (Or.inr (slot_ne (Or.inl (wd hw 25 rfl)) (Or.inr (wd hw 23 rfl)) (by decide) (t := .int) (t' := .int) (by decide) (by decide)))
  have f743 := Ary.other f728 W739 ne_a1_a0
  have f744 := Fld.other W739 f729 (Or.inr (slot_ne (Or.inl (wd hw 36 rfl)) (Or.inr (wd hw 23 rfl)) (by decide) (t := .boolean) (t' := .int) (by decide) (by decide)))
  have f745 := Fld.other W739 f730 (Or.inr (slot_ne (Or.inl (wd hw 17 rfl)) (Or.inr (wd hw 23 rfl)) (by decide) (t := .int) (t' := .int) (by decide) (by decide)))
  have f746 := Fld.other W739 f731 (Or.inr (slot_ne (Or.inr (wd hw 19 rfl)) (Or.inr (wd hw 23 rfl)) (by decide) (t := (.array .byte)) (t' := .int) (by decide) (by decide)))
  have f747 := Fld.other W739 f724 (Or.inr (slot_ne (Or.inl (wd hw 21 rfl)) (Or.inr (wd hw 23 rfl)) (by decide) (t := .int) (t' := .int) (by decide) (by decide)))
  have N748 := Fr.snoc X737 N732 ge_a0
  have K749 := Keep.wr K733 W739 (Or.inl (List.mem_of_getElem? (i := 0) rfl))
  have Z750 := Nat.le_trans Z734 (Nat.le_of_eq (Wr.size W739).symm)
  refine k_iconst K X737 d1_26 (v := (0 : Int32)) rfl (q := 27) rfl ?_
  refine k_istore K X737 d1_27 rfl (Ls' := #[.val (.ref a0), .val (.ref a1), .val (.int p2), .val (.int p3), .val (.int (0 : Int32))]) rfl (q := 29) rfl ?_
  refine k_iload K X737 d1_29 rfl (q := 31) rfl ?_
  refine k_iconst K X737 d1_31 (v := (5 : Int32)) rfl (q := 32) rfl ?_
  refine k_icmp_ge_n K X737 d1_32 (by decide) (q := 35) rfl ?_
  refine k_aloadN K X737 d1_35 rfl rfl (q := 36) rfl ?_
  refine k_aloadN K X737 d1_36 rfl rfl (q := 37) rfl ?_
  refine k_getfield K X737 e738 d1_37 (wd hw 24 rfl) f742 (q := 40) rfl ?_
  intro T751 X752 e753
  refine k_bipush K X752 d1_40 (v := (8 : Int32)) rfl (q := 42) rfl ?_
  refine k_ishl K X752 d1_42 (q := 43) rfl ?_
  refine k_aloadN K X752 d1_43 rfl rfl (q := 44) rfl ?_
  refine k_private K X752 e753 d1_44 (wd hw 26 rfl) (wd hw 28 rfl) (wd hw 3 rfl) (wd hw 27 rfl) (wd hw 4 rfl) (wd hw 29 rfl) (by decide) f741 (rm4 l Z az hw [] a0 p2 (p2 + p3) a1 n_a1 g_a1 (-1 : Int32) w_a0_code w_a0_damaged h736 n0 Z750 f747 f740 f746 f743 f741 ge_a0 ne_a1_a0 f745 f742 f744 (ob_0)) (W := 2) (by decide) (by decide) (by decide) (by decide) rfl pd_2 (argsL := []) (rest := [(.int (shlI w_a0_code (8 : Int32))), (.ref a0)]) rfl rfl rfl (Nat.le_of_eq rfl) (q := 47) rfl ?_
  rintro _ T754 L755 X756 ⟨rfl, N757, K758, f760, f761, f762, f763, f764, f765⟩
  have f766 := Exa.keep f741 K758
  have f767 := Ary.keep f743 K758 (ninS ne_a1_a0 nin0)
  have N768 := Fr.app N748 N757
  have K769 := Keep.trans K749 K758 (allS (Or.inl (List.mem_of_getElem? (i := 0) rfl)) all0)
  have Z770 := Nat.le_trans Z750 K758.1
  obtain ⟨v771, hv_v771⟩ : ∃ z : Int32, (p2 + p3) = z := ⟨_, rfl⟩
  rw [hv_v771] at f763
  obtain ⟨v772, hv_v772⟩ : ∃ z : Int32, (F_next_a0_position p2 (p2 + p3) n_a1 g_a1 (-1 : Int32) w_a0_code w_a0_damaged) = z := ⟨_, rfl⟩
  rw [hv_v772] at f764
  refine k_ior K X756 d1_47 (q := 48) rfl ?_
  refine k_putfield K X756 rfl d1_48 (wd hw 24 rfl) f761 f766 (Or.inl (wd hw 25 rfl)) (wd hw 3 rfl) (ty := .int) (by decide) rfl rfl (q := 51) rfl ?_
  intro T773 h774 X775 e776 W777
  have f778 := Fld.same W777 f761
  have f779 := Exa.wr W777 f766
  have f780 := Ary.other f767 W777 ne_a1_a0
  have f781 := Fld.other W777 f760 (Or.inr (slot_ne (Or.inr (wd hw 19 rfl)) (Or.inl (wd hw 25 rfl)) (by decide) (t := (.array .byte)) (t' := .int) (by decide) (by decide)))
  have f782 := Fld.other W777 f762 (Or.inr (slot_ne (Or.inl (wd hw 36 rfl)) (Or.inl (wd hw 25 rfl)) (by decide) (t := .boolean) (t' := .int) (by decide) (by decide)))
  have f783 := Fld.other W777 f763 (Or.inr (slot_ne (Or.inr (wd hw 23 rfl)) (Or.inl (wd hw 25 rfl)) (by decide) (t := .int) (t' := .int) (by decide) (by decide)))
  have f784 := Fld.other W777 f764 (Or.inr (slot_ne (Or.inl (wd hw 21 rfl)) (Or.inl (wd hw 25 rfl)) (by decide) (t := .int) (t' := .int) (by decide) (by decide)))
  have f785 := Fld.other W777 f765 (Or.inr (slot_ne (Or.inl (wd hw 17 rfl)) (Or.inl (wd hw 25 rfl)) (by decide) (t := .int) (t' := .int) (by decide) (by decide)))
  have N786 := Fr.snoc X775 N768 ge_a0
  have K787 := Keep.wr K769 W777 (Or.inl (List.mem_of_getElem? (i := 0) rfl))
  have Z788 := Nat.le_trans Z770 (Nat.le_of_eq (Wr.size W777).symm)
  refine k_iinc K X775 d1_51 rfl (by decide) (Ls' := #[.val (.ref a0), .val (.ref a1), .val (.int p2), .val (.int p3), .val (.int (1 : Int32))]) rfl (q := 54) rfl ?_
  refine k_goto K X775 d1_54 (by decide) (q := 29) rfl ?_
  refine k_iload K X775 d1_29 rfl (q := 31) rfl ?_
  refine k_iconst K X775 d1_31 (v := (5 : Int32)) rfl (q := 32) rfl ?_
  refine k_icmp_ge_n K X775 d1_32 (by decide) (q := 35) rfl ?_
  refine k_aloadN K X775 d1_35 rfl rfl (q := 36) rfl ?_
  refine k_aloadN K X775 d1_36 rfl rfl (q := 37) rfl ?_
  refine k_getfield K X775 e776 d1_37 (wd hw 24 rfl) f778 (q := 40) rfl ?_
  intro T789 X790 e791
  refine k_bipush K X790 d1_40 (v := (8 : Int32)) rfl (q := 42) rfl ?_
  refine k_ishl K X790 d1_42 (q := 43) rfl ?_
  refine k_aloadN K X790 d1_43 rfl rfl (q := 44) rfl ?_
  refine k_private K X790 e791 d1_44 (wd hw 26 rfl) (wd hw 28 rfl) (wd hw 3 rfl) (wd hw 27 rfl) (wd hw 4 rfl) (wd hw 29 rfl) (by decide) f779 (rm4 l Z az hw [] a0 v772 v771 a1 n_a1 g_a1 (-1 : Int32) ((shlI w_a0_code (8 : Int32)) ||| (F_next p2 (p2 + p3) n_a1 g_a1 (-1 : Int32) w_a0_code w_a0_damaged)) w_a0_damaged h774 n0 Z788 f784 f783 f781 f780 f779 ge_a0 ne_a1_a0 f785 f778 f782 (ob_1 v771 v772 hv_v771 hv_v772)) (W := 2) (by decide) (by decide) (by decide) (by decide) rfl pd_2 (argsL := []) (rest := [(.int (shlI ((shlI w_a0_code (8 : Int32)) ||| (F_next p2 (p2 + p3) n_a1 g_a1 (-1 : Int32) w_a0_code w_a0_damaged)) (8 : Int32))), (.ref a0)]) rfl rfl rfl (Nat.le_of_eq rfl) (q := 47) rfl ?_
  rintro _ T792 L793 X794 ⟨rfl, N795, K796, f798, f799, f800, f801, f802, f803⟩
  have f804 := Exa.keep f779 K796
  have f805 := Ary.keep f780 K796 (ninS ne_a1_a0 nin0)
  have N806 := Fr.app N786 N795
  have K807 := Keep.trans K787 K796 (allS (Or.inl (List.mem_of_getElem? (i := 0) rfl)) all0)
  have Z808 := Nat.le_trans Z788 K796.1
  obtain ⟨v809, hv_v809⟩ : ∃ z : Int32, ((shlI w_a0_code (8 : Int32)) ||| (F_next p2 (p2 + p3) n_a1 g_a1 (-1 : Int32) w_a0_code w_a0_damaged)) = z := ⟨_, rfl⟩
  rw [hv_v809] at f799
  obtain ⟨v810, hv_v810⟩ : ∃ z : Int32, (F_next_a0_position v772 v771 n_a1 g_a1 (-1 : Int32) ((shlI w_a0_code (8 : Int32)) ||| (F_next p2 (p2 + p3) n_a1 g_a1 (-1 : Int32) w_a0_code w_a0_damaged)) w_a0_damaged) = z := ⟨_, rfl⟩
  rw [hv_v810] at f802
  refine k_ior K X794 d1_47 (q := 48) rfl ?_
  refine k_putfield K X794 rfl d1_48 (wd hw 24 rfl) f799 f804 (Or.inl (wd hw 25 rfl)) (wd hw 3 rfl) (ty := .int) (by decide) rfl rfl (q := 51) rfl ?_
  intro T811 h812 X813 e814 W815
  have f816 := Fld.same W815 f799
  have f817 := Exa.wr W815 f804
  have f818 := Ary.other f805 W815 ne_a1_a0
  have f819 := Fld.other W815 f798 (Or.inr (slot_ne (Or.inr (wd hw 19 rfl)) (Or.inl (wd hw 25 rfl)) (by decide) (t := (.array .byte)) (t' := .int) (by decide) (by decide)))
  have f820 := Fld.other W815 f800 (Or.inr (slot_ne (Or.inl (wd hw 36 rfl)) (Or.inl (wd hw 25 rfl)) (by decide) (t := .boolean) (t' := .int) (by decide) (by decide)))
  have f821 := Fld.other W815 f801 (Or.inr (slot_ne (Or.inr (wd hw 23 rfl)) (Or.inl (wd hw 25 rfl)) (by decide) (t := .int) (t' := .int) (by decide) (by decide)))
  have f822 := Fld.other W815 f802 (Or.inr (slot_ne (Or.inl (wd hw 21 rfl)) (Or.inl (wd hw 25 rfl)) (by decide) (t := .int) (t' := .int) (by decide) (by decide)))
  have f823 := Fld.other W815 f803 (Or.inr (slot_ne (Or.inl (wd hw 17 rfl)) (Or.inl (wd hw 25 rfl)) (by decide) (t := .int) (t' := .int) (by decide) (by decide)))
  have N824 := Fr.snoc X813 N806 ge_a0
  have K825 := Keep.wr K807 W815 (Or.inl (List.mem_of_getElem? (i := 0) rfl))
  have Z826 := Nat.le_trans Z808 (Nat.le_of_eq (Wr.size W815).symm)
  refine k_iinc K X813 d1_51 rfl (by decide) (Ls' := #[.val (.ref a0), .val (.ref a1), .val (.int p2), .val (.int p3), .val (.int (2 : Int32))]) rfl (q := 54) rfl ?_
  refine k_goto K X813 d1_54 (by decide) (q := 29) rfl ?_
  refine k_iload K X813 d1_29 rfl (q := 31) rfl ?_
  refine k_iconst K X813 d1_31 (v := (5 : Int32)) rfl (q := 32) rfl ?_
  refine k_icmp_ge_n K X813 d1_32 (by decide) (q := 35) rfl ?_
  refine k_aloadN K X813 d1_35 rfl rfl (q := 36) rfl ?_
  refine k_aloadN K X813 d1_36 rfl rfl (q := 37) rfl ?_
  refine k_getfield K X813 e814 d1_37 (wd hw 24 rfl) f816 (q := 40) rfl ?_
  intro T827 X828 e829
  refine k_bipush K X828 d1_40 (v := (8 : Int32)) rfl (q := 42) rfl ?_
  refine k_ishl K X828 d1_42 (q := 43) rfl ?_
  refine k_aloadN K X828 d1_43 rfl rfl (q := 44) rfl ?_
  refine k_private K X828 e829 d1_44 (wd hw 26 rfl) (wd hw 28 rfl) (wd hw 3 rfl) (wd hw 27 rfl) (wd hw 4 rfl) (wd hw 29 rfl) (by decide) f817 (rm4 l Z az hw [] a0 v810 v771 a1 n_a1 g_a1 (-1 : Int32) ((shlI ((shlI w_a0_code (8 : Int32)) ||| (F_next p2 (p2 + p3) n_a1 g_a1 (-1 : Int32) w_a0_code w_a0_damaged)) (8 : Int32)) ||| (F_next v772 v771 n_a1 g_a1 (-1 : Int32) ((shlI w_a0_code (8 : Int32)) ||| (F_next p2 (p2 + p3) n_a1 g_a1 (-1 : Int32) w_a0_code w_a0_damaged)) w_a0_damaged)) w_a0_damaged h812 n0 Z826 f822 f821 f819 f818 f817 ge_a0 ne_a1_a0 f823 f816 f820 (ob_2 v771 v772 v810 hv_v771 hv_v772 hv_v810)) (W := 2) (by decide) (by decide) (by decide) (by decide) rfl pd_2 (argsL := []) (rest := [(.int (shlI ((shlI ((shlI w_a0_code (8 : Int32)) ||| (F_next p2 (p2 + p3) n_a1 g_a1 (-1 : Int32) w_a0_code w_a0_damaged)) (8 : Int32)) ||| (F_next v772 v771 n_a1 g_a1 (-1 : Int32) ((shlI w_a0_code (8 : Int32)) ||| (F_next p2 (p2 + p3) n_a1 g_a1 (-1 : Int32) w_a0_code w_a0_damaged)) w_a0_damaged)) (8 : Int32))), (.ref a0)]) rfl rfl rfl (Nat.le_of_eq rfl) (q := 47) rfl ?_
  rintro _ T830 L831 X832 ⟨rfl, N833, K834, f836, f837, f838, f839, f840, f841⟩
  have f842 := Exa.keep f817 K834
  have f843 := Ary.keep f818 K834 (ninS ne_a1_a0 nin0)
  have N844 := Fr.app N824 N833
  have K845 := Keep.trans K825 K834 (allS (Or.inl (List.mem_of_getElem? (i := 0) rfl)) all0)
  have Z846 := Nat.le_trans Z826 K834.1
  obtain ⟨v847, hv_v847⟩ : ∃ z : Int32, ((shlI ((shlI w_a0_code (8 : Int32)) ||| (F_next p2 (p2 + p3) n_a1 g_a1 (-1 : Int32) w_a0_code w_a0_damaged)) (8 : Int32)) ||| (F_next v772 v771 n_a1 g_a1 (-1 : Int32) ((shlI w_a0_code (8 : Int32)) ||| (F_next p2 (p2 + p3) n_a1 g_a1 (-1 : Int32) w_a0_code w_a0_damaged)) w_a0_damaged)) = z := ⟨_, rfl⟩
  rw [hv_v847] at f837
  obtain ⟨v848, hv_v848⟩ : ∃ z : Int32, (F_next_a0_position v810 v771 n_a1 g_a1 (-1 : Int32) ((shlI ((shlI w_a0_code (8 : Int32)) ||| (F_next p2 (p2 + p3) n_a1 g_a1 (-1 : Int32) w_a0_code w_a0_damaged)) (8 : Int32)) ||| (F_next v772 v771 n_a1 g_a1 (-1 : Int32) ((shlI w_a0_code (8 : Int32)) ||| (F_next p2 (p2 + p3) n_a1 g_a1 (-1 : Int32) w_a0_code w_a0_damaged)) w_a0_damaged)) w_a0_damaged) = z := ⟨_, rfl⟩
  rw [hv_v848] at f840
  refine k_ior K X832 d1_47 (q := 48) rfl ?_
  refine k_putfield K X832 rfl d1_48 (wd hw 24 rfl) f837 f842 (Or.inl (wd hw 25 rfl)) (wd hw 3 rfl) (ty := .int) (by decide) rfl rfl (q := 51) rfl ?_
  intro T849 h850 X851 e852 W853
  have f854 := Fld.same W853 f837
  have f855 := Exa.wr W853 f842
  have f856 := Ary.other f843 W853 ne_a1_a0
  have f857 := Fld.other W853 f836 (Or.inr (slot_ne (Or.inr (wd hw 19 rfl)) (Or.inl (wd hw 25 rfl)) (by decide) (t := (.array .byte)) (t' := .int) (by decide) (by decide)))
  have f858 := Fld.other W853 f838 (Or.inr (slot_ne (Or.inl (wd hw 36 rfl)) (Or.inl (wd hw 25 rfl)) (by decide) (t := .boolean) (t' := .int) (by decide) (by decide)))
  have f859 := Fld.other W853 f839 (Or.inr (slot_ne (Or.inr (wd hw 23 rfl)) (Or.inl (wd hw 25 rfl)) (by decide) (t := .int) (t' := .int) (by decide) (by decide)))
  have f860 := Fld.other W853 f840 (Or.inr (slot_ne (Or.inl (wd hw 21 rfl)) (Or.inl (wd hw 25 rfl)) (by decide) (t := .int) (t' := .int) (by decide) (by decide)))
  have f861 := Fld.other W853 f841 (Or.inr (slot_ne (Or.inl (wd hw 17 rfl)) (Or.inl (wd hw 25 rfl)) (by decide) (t := .int) (t' := .int) (by decide) (by decide)))
  have N862 := Fr.snoc X851 N844 ge_a0
  have K863 := Keep.wr K845 W853 (Or.inl (List.mem_of_getElem? (i := 0) rfl))
  have Z864 := Nat.le_trans Z846 (Nat.le_of_eq (Wr.size W853).symm)
  refine k_iinc K X851 d1_51 rfl (by decide) (Ls' := #[.val (.ref a0), .val (.ref a1), .val (.int p2), .val (.int p3), .val (.int (3 : Int32))]) rfl (q := 54) rfl ?_
  refine k_goto K X851 d1_54 (by decide) (q := 29) rfl ?_
  refine k_iload K X851 d1_29 rfl (q := 31) rfl ?_
  refine k_iconst K X851 d1_31 (v := (5 : Int32)) rfl (q := 32) rfl ?_
  refine k_icmp_ge_n K X851 d1_32 (by decide) (q := 35) rfl ?_
  refine k_aloadN K X851 d1_35 rfl rfl (q := 36) rfl ?_
  refine k_aloadN K X851 d1_36 rfl rfl (q := 37) rfl ?_
  refine k_getfield K X851 e852 d1_37 (wd hw 24 rfl) f854 (q := 40) rfl ?_
  intro T865 X866 e867
  refine k_bipush K X866 d1_40 (v := (8 : Int32)) rfl (q := 42) rfl ?_
  refine k_ishl K X866 d1_42 (q := 43) rfl ?_
  refine k_aloadN K X866 d1_43 rfl rfl (q := 44) rfl ?_
  refine k_private K X866 e867 d1_44 (wd hw 26 rfl) (wd hw 28 rfl) (wd hw 3 rfl) (wd hw 27 rfl) (wd hw 4 rfl) (wd hw 29 rfl) (by decide) f855 (rm4 l Z az hw [] a0 v848 v771 a1 n_a1 g_a1 (-1 : Int32) ((shlI ((shlI ((shlI w_a0_code (8 : Int32)) ||| (F_next p2 (p2 + p3) n_a1 g_a1 (-1 : Int32) w_a0_code w_a0_damaged)) (8 : Int32)) ||| (F_next v772 v771 n_a1 g_a1 (-1 : Int32) ((shlI w_a0_code (8 : Int32)) ||| (F_next p2 (p2 + p3) n_a1 g_a1 (-1 : Int32) w_a0_code w_a0_damaged)) w_a0_damaged)) (8 : Int32)) ||| (F_next v810 v771 n_a1 g_a1 (-1 : Int32) ((shlI ((shlI w_a0_code (8 : Int32)) ||| (F_next p2 (p2 + p3) n_a1 g_a1 (-1 : Int32) w_a0_code w_a0_damaged)) (8 : Int32)) ||| (F_next v772 v771 n_a1 g_a1 (-1 : Int32) ((shlI w_a0_code (8 : Int32)) ||| (F_next p2 (p2 + p3) n_a1 g_a1 (-1 : Int32) w_a0_code w_a0_damaged)) w_a0_damaged)) w_a0_damaged)) w_a0_damaged h850 n0 Z864 f860 f859 f857 f856 f855 ge_a0 ne_a1_a0 f861 f854 f858 (ob_3 v771 v772 v810 v848 hv_v771 hv_v772 hv_v810 hv_v848)) (W := 2) (by decide) (by decide) (by decide) (by decide) rfl pd_2 (argsL := []) (rest := [(.int (shlI ((shlI ((shlI ((shlI w_a0_code (8 : Int32)) ||| (F_next p2 (p2 + p3) n_a1 g_a1 (-1 : Int32) w_a0_code w_a0_damaged)) (8 : Int32)) ||| (F_next v772 v771 n_a1 g_a1 (-1 : Int32) ((shlI w_a0_code (8 : Int32)) ||| (F_next p2 (p2 + p3) n_a1 g_a1 (-1 : Int32) w_a0_code w_a0_damaged)) w_a0_damaged)) (8 : Int32)) ||| (F_next v810 v771 n_a1 g_a1 (-1 : Int32) ((shlI ((shlI w_a0_code (8 : Int32)) ||| (F_next p2 (p2 + p3) n_a1 g_a1 (-1 : Int32) w_a0_code w_a0_damaged)) (8 : Int32)) ||| (F_next v772 v771 n_a1 g_a1 (-1 : Int32) ((shlI w_a0_code (8 : Int32)) ||| (F_next p2 (p2 + p3) n_a1 g_a1 (-1 : Int32) w_a0_code w_a0_damaged)) w_a0_damaged)) w_a0_damaged)) (8 : Int32))), (.ref a0)]) rfl rfl rfl (Nat.le_of_eq rfl) (q := 47) rfl ?_
  rintro _ T868 L869 X870 ⟨rfl, N871, K872, f874, f875, f876, f877, f878, f879⟩
  have f880 := Exa.keep f855 K872
  have f881 := Ary.keep f856 K872 (ninS ne_a1_a0 nin0)
  have N882 := Fr.app N862 N871
  have K883 := Keep.trans K863 K872 (allS (Or.inl (List.mem_of_getElem? (i := 0) rfl)) all0)
  have Z884 := Nat.le_trans Z864 K872.1
  obtain ⟨v885, hv_v885⟩ : ∃ z : Int32, ((shlI ((shlI ((shlI w_a0_code (8 : Int32)) ||| (F_next p2 (p2 + p3) n_a1 g_a1 (-1 : Int32) w_a0_code w_a0_damaged)) (8 : Int32)) ||| (F_next v772 v771 n_a1 g_a1 (-1 : Int32) ((shlI w_a0_code (8 : Int32)) ||| (F_next p2 (p2 + p3) n_a1 g_a1 (-1 : Int32) w_a0_code w_a0_damaged)) w_a0_damaged)) (8 : Int32)) ||| (F_next v810 v771 n_a1 g_a1 (-1 : Int32) ((shlI ((shlI w_a0_code (8 : Int32)) ||| (F_next p2 (p2 + p3) n_a1 g_a1 (-1 : Int32) w_a0_code w_a0_damaged)) (8 : Int32)) ||| (F_next v772 v771 n_a1 g_a1 (-1 : Int32) ((shlI w_a0_code (8 : Int32)) ||| (F_next p2 (p2 + p3) n_a1 g_a1 (-1 : Int32) w_a0_code w_a0_damaged)) w_a0_damaged)) w_a0_damaged)) = z := ⟨_, rfl⟩
  rw [hv_v885] at f875
  obtain ⟨v886, hv_v886⟩ : ∃ z : Int32, (F_next_a0_position v848 v771 n_a1 g_a1 (-1 : Int32) ((shlI ((shlI ((shlI w_a0_code (8 : Int32)) ||| (F_next p2 (p2 + p3) n_a1 g_a1 (-1 : Int32) w_a0_code w_a0_damaged)) (8 : Int32)) ||| (F_next v772 v771 n_a1 g_a1 (-1 : Int32) ((shlI w_a0_code (8 : Int32)) ||| (F_next p2 (p2 + p3) n_a1 g_a1 (-1 : Int32) w_a0_code w_a0_damaged)) w_a0_damaged)) (8 : Int32)) ||| (F_next v810 v771 n_a1 g_a1 (-1 : Int32) ((shlI ((shlI w_a0_code (8 : Int32)) ||| (F_next p2 (p2 + p3) n_a1 g_a1 (-1 : Int32) w_a0_code w_a0_damaged)) (8 : Int32)) ||| (F_next v772 v771 n_a1 g_a1 (-1 : Int32) ((shlI w_a0_code (8 : Int32)) ||| (F_next p2 (p2 + p3) n_a1 g_a1 (-1 : Int32) w_a0_code w_a0_damaged)) w_a0_damaged)) w_a0_damaged)) w_a0_damaged) = z := ⟨_, rfl⟩
  rw [hv_v886] at f878
  refine k_ior K X870 d1_47 (q := 48) rfl ?_
  refine k_putfield K X870 rfl d1_48 (wd hw 24 rfl) f875 f880 (Or.inl (wd hw 25 rfl)) (wd hw 3 rfl) (ty := .int) (by decide) rfl rfl (q := 51) rfl ?_
  intro T887 h888 X889 e890 W891
  have f892 := Fld.same W891 f875
  have f893 := Exa.wr W891 f880
  have f894 := Ary.other f881 W891 ne_a1_a0
  have f895 := Fld.other W891 f874 (Or.inr (slot_ne (Or.inr (wd hw 19 rfl)) (Or.inl (wd hw 25 rfl)) (by decide) (t := (.array .byte)) (t' := .int) (by decide) (by decide)))
  have f896 := Fld.other W891 f876 (Or.inr (slot_ne (Or.inl (wd hw 36 rfl)) (Or.inl (wd hw 25 rfl)) (by decide) (t := .boolean) (t' := .int) (by decide) (by decide)))
  have f897 := Fld.other W891 f877 (Or.inr (slot_ne (Or.inr (wd hw 23 rfl)) (Or.inl (wd hw 25 rfl)) (by decide) (t := .int) (t' := .int) (by decide) (by decide)))
  have f898 := Fld.other W891 f878 (Or.inr (slot_ne (Or.inl (wd hw 21 rfl)) (Or.inl (wd hw 25 rfl)) (by decide) (t := .int) (t' := .int) (by decide) (by decide)))
  have f899 := Fld.other W891 f879 (Or.inr (slot_ne (Or.inl (wd hw 17 rfl)) (Or.inl (wd hw 25 rfl)) (by decide) (t := .int) (t' := .int) (by decide) (by decide)))
  have N900 := Fr.snoc X889 N882 ge_a0
  have K901 := Keep.wr K883 W891 (Or.inl (List.mem_of_getElem? (i := 0) rfl))
  have Z902 := Nat.le_trans Z884 (Nat.le_of_eq (Wr.size W891).symm)
  refine k_iinc K X889 d1_51 rfl (by decide) (Ls' := #[.val (.ref a0), .val (.ref a1), .val (.int p2), .val (.int p3), .val (.int (4 : Int32))]) rfl (q := 54) rfl ?_
  refine k_goto K X889 d1_54 (by decide) (q := 29) rfl ?_
  refine k_iload K X889 d1_29 rfl (q := 31) rfl ?_
  refine k_iconst K X889 d1_31 (v := (5 : Int32)) rfl (q := 32) rfl ?_
  refine k_icmp_ge_n K X889 d1_32 (by decide) (q := 35) rfl ?_
  refine k_aloadN K X889 d1_35 rfl rfl (q := 36) rfl ?_
  refine k_aloadN K X889 d1_36 rfl rfl (q := 37) rfl ?_
  refine k_getfield K X889 e890 d1_37 (wd hw 24 rfl) f892 (q := 40) rfl ?_
  intro T903 X904 e905
  refine k_bipush K X904 d1_40 (v := (8 : Int32)) rfl (q := 42) rfl ?_
  refine k_ishl K X904 d1_42 (q := 43) rfl ?_
  refine k_aloadN K X904 d1_43 rfl rfl (q := 44) rfl ?_
  refine k_private K X904 e905 d1_44 (wd hw 26 rfl) (wd hw 28 rfl) (wd hw 3 rfl) (wd hw 27 rfl) (wd hw 4 rfl) (wd hw 29 rfl) (by decide) f893 (rm4 l Z az hw [] a0 v886 v771 a1 n_a1 g_a1 (-1 : Int32) ((shlI ((shlI ((shlI ((shlI w_a0_code (8 : Int32)) ||| (F_next p2 (p2 + p3) n_a1 g_a1 (-1 : Int32) w_a0_code w_a0_damaged)) (8 : Int32)) ||| (F_next v772 v771 n_a1 g_a1 (-1 : Int32) ((shlI w_a0_code (8 : Int32)) ||| (F_next p2 (p2 + p3) n_a1 g_a1 (-1 : Int32) w_a0_code w_a0_damaged)) w_a0_damaged)) (8 : Int32)) ||| (F_next v810 v771 n_a1 g_a1 (-1 : Int32) ((shlI ((shlI w_a0_code (8 : Int32)) ||| (F_next p2 (p2 + p3) n_a1 g_a1 (-1 : Int32) w_a0_code w_a0_damaged)) (8 : Int32)) ||| (F_next v772 v771 n_a1 g_a1 (-1 : Int32) ((shlI w_a0_code (8 : Int32)) ||| (F_next p2 (p2 + p3) n_a1 g_a1 (-1 : Int32) w_a0_code w_a0_damaged)) w_a0_damaged)) w_a0_damaged)) (8 : Int32)) ||| (F_next v848 v771 n_a1 g_a1 (-1 : Int32) ((shlI ((shlI ((shlI w_a0_code (8 : Int32)) ||| (F_next p2 (p2 + p3) n_a1 g_a1 (-1 : Int32) w_a0_code w_a0_damaged)) (8 : Int32)) ||| (F_next v772 v771 n_a1 g_a1 (-1 : Int32) ((shlI w_a0_code (8 : Int32)) ||| (F_next p2 (p2 + p3) n_a1 g_a1 (-1 : Int32) w_a0_code w_a0_damaged)) w_a0_damaged)) (8 : Int32)) ||| (F_next v810 v771 n_a1 g_a1 (-1 : Int32) ((shlI ((shlI w_a0_code (8 : Int32)) ||| (F_next p2 (p2 + p3) n_a1 g_a1 (-1 : Int32) w_a0_code w_a0_damaged)) (8 : Int32)) ||| (F_next v772 v771 n_a1 g_a1 (-1 : Int32) ((shlI w_a0_code (8 : Int32)) ||| (F_next p2 (p2 + p3) n_a1 g_a1 (-1 : Int32) w_a0_code w_a0_damaged)) w_a0_damaged)) w_a0_damaged)) w_a0_damaged)) w_a0_damaged h888 n0 Z902 f898 f897 f895 f894 f893 ge_a0 ne_a1_a0 f899 f892 f896 (ob_4 v771 v772 v810 v848 v886 hv_v771 hv_v772 hv_v810 hv_v848 hv_v886)) (W := 2) (by decide) (by decide) (by decide) (by decide) rfl pd_2 (argsL := []) (rest := [(.int (shlI ((shlI ((shlI ((shlI ((shlI w_a0_code (8 : Int32)) ||| (F_next p2 (p2 + p3) n_a1 g_a1 (-1 : Int32) w_a0_code w_a0_damaged)) (8 : Int32)) ||| (F_next v772 v771 n_a1 g_a1 (-1 : Int32) ((shlI w_a0_code (8 : Int32)) ||| (F_next p2 (p2 + p3) n_a1 g_a1 (-1 : Int32) w_a0_code w_a0_damaged)) w_a0_damaged)) (8 : Int32)) ||| (F_next v810 v771 n_a1 g_a1 (-1 : Int32) ((shlI ((shlI w_a0_code (8 : Int32)) ||| (F_next p2 (p2 + p3) n_a1 g_a1 (-1 : Int32) w_a0_code w_a0_damaged)) (8 : Int32)) ||| (F_next v772 v771 n_a1 g_a1 (-1 : Int32) ((shlI w_a0_code (8 : Int32)) ||| (F_next p2 (p2 + p3) n_a1 g_a1 (-1 : Int32) w_a0_code w_a0_damaged)) w_a0_damaged)) w_a0_damaged)) (8 : Int32)) ||| (F_next v848 v771 n_a1 g_a1 (-1 : Int32) ((shlI ((shlI ((shlI w_a0_code (8 : Int32)) ||| (F_next p2 (p2 + p3) n_a1 g_a1 (-1 : Int32) w_a0_code w_a0_damaged)) (8 : Int32)) ||| (F_next v772 v771 n_a1 g_a1 (-1 : Int32) ((shlI w_a0_code (8 : Int32)) ||| (F_next p2 (p2 + p3) n_a1 g_a1 (-1 : Int32) w_a0_code w_a0_damaged)) w_a0_damaged)) (8 : Int32)) ||| (F_next v810 v771 n_a1 g_a1 (-1 : Int32) ((shlI ((shlI w_a0_code (8 : Int32)) ||| (F_next p2 (p2 + p3) n_a1 g_a1 (-1 : Int32) w_a0_code w_a0_damaged)) (8 : Int32)) ||| (F_next v772 v771 n_a1 g_a1 (-1 : Int32) ((shlI w_a0_code (8 : Int32)) ||| (F_next p2 (p2 + p3) n_a1 g_a1 (-1 : Int32) w_a0_code w_a0_damaged)) w_a0_damaged)) w_a0_damaged)) w_a0_damaged)) (8 : Int32))), (.ref a0)]) rfl rfl rfl (Nat.le_of_eq rfl) (q := 47) rfl ?_
  rintro _ T906 L907 X908 ⟨rfl, N909, K910, f912, f913, f914, f915, f916, f917⟩
  have f918 := Exa.keep f893 K910
  have f919 := Ary.keep f894 K910 (ninS ne_a1_a0 nin0)
  have N920 := Fr.app N900 N909
  have K921 := Keep.trans K901 K910 (allS (Or.inl (List.mem_of_getElem? (i := 0) rfl)) all0)
  have Z922 := Nat.le_trans Z902 K910.1
  obtain ⟨v923, hv_v923⟩ : ∃ z : Int32, ((shlI ((shlI ((shlI ((shlI w_a0_code (8 : Int32)) ||| (F_next p2 (p2 + p3) n_a1 g_a1 (-1 : Int32) w_a0_code w_a0_damaged)) (8 : Int32)) ||| (F_next v772 v771 n_a1 g_a1 (-1 : Int32) ((shlI w_a0_code (8 : Int32)) ||| (F_next p2 (p2 + p3) n_a1 g_a1 (-1 : Int32) w_a0_code w_a0_damaged)) w_a0_damaged)) (8 : Int32)) ||| (F_next v810 v771 n_a1 g_a1 (-1 : Int32) ((shlI ((shlI w_a0_code (8 : Int32)) ||| (F_next p2 (p2 + p3) n_a1 g_a1 (-1 : Int32) w_a0_code w_a0_damaged)) (8 : Int32)) ||| (F_next v772 v771 n_a1 g_a1 (-1 : Int32) ((shlI w_a0_code (8 : Int32)) ||| (F_next p2 (p2 + p3) n_a1 g_a1 (-1 : Int32) w_a0_code w_a0_damaged)) w_a0_damaged)) w_a0_damaged)) (8 : Int32)) ||| (F_next v848 v771 n_a1 g_a1 (-1 : Int32) ((shlI ((shlI ((shlI w_a0_code (8 : Int32)) ||| (F_next p2 (p2 + p3) n_a1 g_a1 (-1 : Int32) w_a0_code w_a0_damaged)) (8 : Int32)) ||| (F_next v772 v771 n_a1 g_a1 (-1 : Int32) ((shlI w_a0_code (8 : Int32)) ||| (F_next p2 (p2 + p3) n_a1 g_a1 (-1 : Int32) w_a0_code w_a0_damaged)) w_a0_damaged)) (8 : Int32)) ||| (F_next v810 v771 n_a1 g_a1 (-1 : Int32) ((shlI ((shlI w_a0_code (8 : Int32)) ||| (F_next p2 (p2 + p3) n_a1 g_a1 (-1 : Int32) w_a0_code w_a0_damaged)) (8 : Int32)) ||| (F_next v772 v771 n_a1 g_a1 (-1 : Int32) ((shlI w_a0_code (8 : Int32)) ||| (F_next p2 (p2 + p3) n_a1 g_a1 (-1 : Int32) w_a0_code w_a0_damaged)) w_a0_damaged)) w_a0_damaged)) w_a0_damaged)) = z := ⟨_, rfl⟩
  rw [hv_v923] at f913
  obtain ⟨v924, hv_v924⟩ : ∃ z : Int32, (F_next_a0_position v886 v771 n_a1 g_a1 (-1 : Int32) ((shlI ((shlI ((shlI ((shlI w_a0_code (8 : Int32)) ||| (F_next p2 (p2 + p3) n_a1 g_a1 (-1 : Int32) w_a0_code w_a0_damaged)) (8 : Int32)) ||| (F_next v772 v771 n_a1 g_a1 (-1 : Int32) ((shlI w_a0_code (8 : Int32)) ||| (F_next p2 (p2 + p3) n_a1 g_a1 (-1 : Int32) w_a0_code w_a0_damaged)) w_a0_damaged)) (8 : Int32)) ||| (F_next v810 v771 n_a1 g_a1 (-1 : Int32) ((shlI ((shlI w_a0_code (8 : Int32)) ||| (F_next p2 (p2 + p3) n_a1 g_a1 (-1 : Int32) w_a0_code w_a0_damaged)) (8 : Int32)) ||| (F_next v772 v771 n_a1 g_a1 (-1 : Int32) ((shlI w_a0_code (8 : Int32)) ||| (F_next p2 (p2 + p3) n_a1 g_a1 (-1 : Int32) w_a0_code w_a0_damaged)) w_a0_damaged)) w_a0_damaged)) (8 : Int32)) ||| (F_next v848 v771 n_a1 g_a1 (-1 : Int32) ((shlI ((shlI ((shlI w_a0_code (8 : Int32)) ||| (F_next p2 (p2 + p3) n_a1 g_a1 (-1 : Int32) w_a0_code w_a0_damaged)) (8 : Int32)) ||| (F_next v772 v771 n_a1 g_a1 (-1 : Int32) ((shlI w_a0_code (8 : Int32)) ||| (F_next p2 (p2 + p3) n_a1 g_a1 (-1 : Int32) w_a0_code w_a0_damaged)) w_a0_damaged)) (8 : Int32)) ||| (F_next v810 v771 n_a1 g_a1 (-1 : Int32) ((shlI ((shlI w_a0_code (8 : Int32)) ||| (F_next p2 (p2 + p3) n_a1 g_a1 (-1 : Int32) w_a0_code w_a0_damaged)) (8 : Int32)) ||| (F_next v772 v771 n_a1 g_a1 (-1 : Int32) ((shlI w_a0_code (8 : Int32)) ||| (F_next p2 (p2 + p3) n_a1 g_a1 (-1 : Int32) w_a0_code w_a0_damaged)) w_a0_damaged)) w_a0_damaged)) w_a0_damaged)) w_a0_damaged) = z := ⟨_, rfl⟩
  rw [hv_v924] at f916
  refine k_ior K X908 d1_47 (q := 48) rfl ?_
  refine k_putfield K X908 rfl d1_48 (wd hw 24 rfl) f913 f918 (Or.inl (wd hw 25 rfl)) (wd hw 3 rfl) (ty := .int) (by decide) rfl rfl (q := 51) rfl ?_
  intro T925 h926 X927 e928 W929
  have f930 := Fld.same W929 f913
  have f931 := Exa.wr W929 f918
  have f932 := Ary.other f919 W929 ne_a1_a0
  have f933 := Fld.other W929 f912 (Or.inr (slot_ne (Or.inr (wd hw 19 rfl)) (Or.inl (wd hw 25 rfl)) (by decide) (t := (.array .byte)) (t' := .int) (by decide) (by decide)))
  have f934 := Fld.other W929 f914 (Or.inr (slot_ne (Or.inl (wd hw 36 rfl)) (Or.inl (wd hw 25 rfl)) (by decide) (t := .boolean) (t' := .int) (by decide) (by decide)))
  have f935 := Fld.other W929 f915 (Or.inr (slot_ne (Or.inr (wd hw 23 rfl)) (Or.inl (wd hw 25 rfl)) (by decide) (t := .int) (t' := .int) (by decide) (by decide)))
  have f936 := Fld.other W929 f916 (Or.inr (slot_ne (Or.inl (wd hw 21 rfl)) (Or.inl (wd hw 25 rfl)) (by decide) (t := .int) (t' := .int) (by decide) (by decide)))
  have f937 := Fld.other W929 f917 (Or.inr (slot_ne (Or.inl (wd hw 17 rfl)) (Or.inl (wd hw 25 rfl)) (by decide) (t := .int) (t' := .int) (by decide) (by decide)))
  have N938 := Fr.snoc X927 N920 ge_a0
  have K939 := Keep.wr K921 W929 (Or.inl (List.mem_of_getElem? (i := 0) rfl))
  have Z940 := Nat.le_trans Z922 (Nat.le_of_eq (Wr.size W929).symm)
  refine k_iinc K X927 d1_51 rfl (by decide) (Ls' := #[.val (.ref a0), .val (.ref a1), .val (.int p2), .val (.int p3), .val (.int (5 : Int32))]) rfl (q := 54) rfl ?_
  refine k_goto K X927 d1_54 (by decide) (q := 29) rfl ?_
  refine k_iload K X927 d1_29 rfl (q := 31) rfl ?_
  refine k_iconst K X927 d1_31 (v := (5 : Int32)) rfl (q := 32) rfl ?_
  refine k_icmp_ge_y K X927 d1_32 (by decide) (by decide) (q := 57) rfl ?_
  exact k_retv K X927 e928 d1_57 (Nat.le_trans (by decide) hkc) (Nat.le_trans (by decide) hkn) (hQ _ _ _ ⟨rfl, N938, K939, f933, (by rw [(show F_init_a0_code p2 p3 w_a0_range w_a0_position w_a0_end w_a0_code n_a1 g_a1 w_a0_damaged = ((shlI ((shlI ((shlI ((shlI ((shlI w_a0_code (8 : Int32)) ||| (F_next p2 (p2 + p3) n_a1 g_a1 (-1 : Int32) w_a0_code w_a0_damaged)) (8 : Int32)) ||| (F_next v772 v771 n_a1 g_a1 (-1 : Int32) ((shlI w_a0_code (8 : Int32)) ||| (F_next p2 (p2 + p3) n_a1 g_a1 (-1 : Int32) w_a0_code w_a0_damaged)) w_a0_damaged)) (8 : Int32)) ||| (F_next v810 v771 n_a1 g_a1 (-1 : Int32) ((shlI ((shlI w_a0_code (8 : Int32)) ||| (F_next p2 (p2 + p3) n_a1 g_a1 (-1 : Int32) w_a0_code w_a0_damaged)) (8 : Int32)) ||| (F_next v772 v771 n_a1 g_a1 (-1 : Int32) ((shlI w_a0_code (8 : Int32)) ||| (F_next p2 (p2 + p3) n_a1 g_a1 (-1 : Int32) w_a0_code w_a0_damaged)) w_a0_damaged)) w_a0_damaged)) (8 : Int32)) ||| (F_next v848 v771 n_a1 g_a1 (-1 : Int32) ((shlI ((shlI ((shlI w_a0_code (8 : Int32)) ||| (F_next p2 (p2 + p3) n_a1 g_a1 (-1 : Int32) w_a0_code w_a0_damaged)) (8 : Int32)) ||| (F_next v772 v771 n_a1 g_a1 (-1 : Int32) ((shlI w_a0_code (8 : Int32)) ||| (F_next p2 (p2 + p3) n_a1 g_a1 (-1 : Int32) w_a0_code w_a0_damaged)) w_a0_damaged)) (8 : Int32)) ||| (F_next v810 v771 n_a1 g_a1 (-1 : Int32) ((shlI ((shlI w_a0_code (8 : Int32)) ||| (F_next p2 (p2 + p3) n_a1 g_a1 (-1 : Int32) w_a0_code w_a0_damaged)) (8 : Int32)) ||| (F_next v772 v771 n_a1 g_a1 (-1 : Int32) ((shlI w_a0_code (8 : Int32)) ||| (F_next p2 (p2 + p3) n_a1 g_a1 (-1 : Int32) w_a0_code w_a0_damaged)) w_a0_damaged)) w_a0_damaged)) w_a0_damaged)) (8 : Int32)) ||| (F_next v886 v771 n_a1 g_a1 (-1 : Int32) ((shlI ((shlI ((shlI ((shlI w_a0_code (8 : Int32)) ||| (F_next p2 (p2 + p3) n_a1 g_a1 (-1 : Int32) w_a0_code w_a0_damaged)) (8 : Int32)) ||| (F_next v772 v771 n_a1 g_a1 (-1 : Int32) ((shlI w_a0_code (8 : Int32)) ||| (F_next p2 (p2 + p3) n_a1 g_a1 (-1 : Int32) w_a0_code w_a0_damaged)) w_a0_damaged)) (8 : Int32)) ||| (F_next v810 v771 n_a1 g_a1 (-1 : Int32) ((shlI ((shlI w_a0_code (8 : Int32)) ||| (F_next p2 (p2 + p3) n_a1 g_a1 (-1 : Int32) w_a0_code w_a0_damaged)) (8 : Int32)) ||| (F_next v772 v771 n_a1 g_a1 (-1 : Int32) ((shlI w_a0_code (8 : Int32)) ||| (F_next p2 (p2 + p3) n_a1 g_a1 (-1 : Int32) w_a0_code w_a0_damaged)) w_a0_damaged)) w_a0_damaged)) (8 : Int32)) ||| (F_next v848 v771 n_a1 g_a1 (-1 : Int32) ((shlI ((shlI ((shlI w_a0_code (8 : Int32)) ||| (F_next p2 (p2 + p3) n_a1 g_a1 (-1 : Int32) w_a0_code w_a0_damaged)) (8 : Int32)) ||| (F_next v772 v771 n_a1 g_a1 (-1 : Int32) ((shlI w_a0_code (8 : Int32)) ||| (F_next p2 (p2 + p3) n_a1 g_a1 (-1 : Int32) w_a0_code w_a0_damaged)) w_a0_damaged)) (8 : Int32)) ||| (F_next v810 v771 n_a1 g_a1 (-1 : Int32) ((shlI ((shlI w_a0_code (8 : Int32)) ||| (F_next p2 (p2 + p3) n_a1 g_a1 (-1 : Int32) w_a0_code w_a0_damaged)) (8 : Int32)) ||| (F_next v772 v771 n_a1 g_a1 (-1 : Int32) ((shlI w_a0_code (8 : Int32)) ||| (F_next p2 (p2 + p3) n_a1 g_a1 (-1 : Int32) w_a0_code w_a0_damaged)) w_a0_damaged)) w_a0_damaged)) w_a0_damaged)) w_a0_damaged)) from by first | (simp only [F_init_a0_code, hv_v771, hv_v772, hv_v809, hv_v810, hv_v847, hv_v848, hv_v885, hv_v886, hv_v923, hv_v924]; done) | (subst hv_v771; subst hv_v772; subst hv_v809; subst hv_v810; subst hv_v847; subst hv_v848; subst hv_v885; subst hv_v886; subst hv_v923; subst hv_v924; simp only [F_init_a0_code]))]; exact f930), f934, (by rw [(show F_init_a0_end p2 p3 w_a0_range w_a0_position w_a0_end w_a0_code n_a1 g_a1 w_a0_damaged = v771 from by first | (simp only [F_init_a0_end, hv_v771, hv_v772, hv_v809, hv_v810, hv_v847, hv_v848, hv_v885, hv_v886, hv_v923, hv_v924]; done) | (subst hv_v771; subst hv_v772; subst hv_v809; subst hv_v810; subst hv_v847; subst hv_v848; subst hv_v885; subst hv_v886; subst hv_v923; subst hv_v924; simp only [F_init_a0_end]))]; exact f935), (by rw [(show F_init_a0_position p2 p3 w_a0_range w_a0_position w_a0_end w_a0_code n_a1 g_a1 w_a0_damaged = v924 from by first | (simp only [F_init_a0_position, hv_v771, hv_v772, hv_v809, hv_v810, hv_v847, hv_v848, hv_v885, hv_v886, hv_v923, hv_v924]; done) | (subst hv_v771; subst hv_v772; subst hv_v809; subst hv_v810; subst hv_v847; subst hv_v848; subst hv_v885; subst hv_v886; subst hv_v923; subst hv_v924; simp only [F_init_a0_position]))]; exact f936), (by rw [(show F_init_a0_range p2 p3 w_a0_range w_a0_position w_a0_end w_a0_code n_a1 g_a1 w_a0_damaged = (-1 : Int32) from by first | (simp only [F_init_a0_range, hv_v771, hv_v772, hv_v809, hv_v810, hv_v847, hv_v848, hv_v885, hv_v886, hv_v923, hv_v924]; done) | (subst hv_v771; subst hv_v772; subst hv_v809; subst hv_v810; subst hv_v847; subst hv_v848; subst hv_v885; subst hv_v886; subst hv_v923; subst hv_v924; simp only [F_init_a0_range]))]; exact f937)⟩)
theorem own_eqI {x y : Int32} : x = y ↔ x.toInt = y.toInt := Int32.toInt_inj.symm
theorem own_eqJ {x y : Int64} : x = y ↔ x.toInt = y.toInt := Int64.toInt_inj.symm
theorem own_ltI {x y : Int32} : x < y ↔ x.toInt < y.toInt := Int32.lt_iff_toInt_lt
theorem own_ltJ {x y : Int64} : x < y ↔ x.toInt < y.toInt := Int64.lt_iff_toInt_lt
/-- the range after n bits -/
def own_rt (n : Nat) : Int32 := ushrI (if n < 8 then -1 else -256) (Int32.ofNat (n % 8))
theorem own_rt1 : ∀ n : Fin 64, (F_compareUnsigned (ushrI (own_rt n.1) 1) 16777216 < 0 ↔ n.1 % 8 = 7) := by decide +kernel
theorem own_rt2 : ∀ n : Fin 64, n.1 % 8 = 7 → (¬ F_compareUnsigned (shlI (ushrI (own_rt n.1) 1) 8) 16777216 < 0 ∧ shlI (ushrI (own_rt n.1) 1) 8 = own_rt (n.1 + 1)) := by decide +kernel
theorem own_rt3 : ∀ n : Fin 64, ¬ n.1 % 8 = 7 → ushrI (own_rt n.1) 1 = own_rt (n.1 + 1) := by decide +kernel
/-- what stands at a turn's head: k turns left of c, i made, the range, the position, the end, the bytes' number -/
def own_dv (k : Nat) (i c r pos en : Int32) (n : Nat) : Prop := 0 ≤ i.toInt ∧ i.toInt + k = c.toInt ∧ c.toInt ≤ 64 ∧ r = own_rt i.toInt.toNat ∧ 0 ≤ pos.toInt ∧ pos.toInt ≤ 1000 + i.toInt ∧ en.toInt ≤ n
theorem own_dv0 {c r pos en : Int32} {n : Nat} (h : r = -1 ∧ 0 ≤ c.toInt ∧ c.toInt ≤ 64 ∧ 0 ≤ pos.toInt ∧ pos.toInt ≤ 1000 ∧ en.toInt ≤ n) : own_dv c.toInt.toNat 0 c r pos en n := by
  obtain ⟨h1, h2, h3, h4, h5, h6⟩ := h
  subst h1
  have e0 : (0 : Int32).toInt = 0 := rfl
  exact ⟨by decide, by omega, h3, by decide, h4, by omega, h6⟩
theorem own_dvz {i c r pos en : Int32} {n : Nat} (h : own_dv 0 i c r pos en n) : ¬ i < c := by
  obtain ⟨h1, h2, h3, -⟩ := h
  rw [own_ltI]; omega
theorem own_dvn {k : Nat} {i c r pos en : Int32} {n : Nat} (h : own_dv (k + 1) i c r pos en n) : i < c := by
  obtain ⟨h1, h2, h3, -⟩ := h
  rw [own_ltI]; omega
theorem own_dvb {k : Nat} {i c r pos en : Int32} {n : Nat} (h : own_dv (k + 1) i c r pos en n) : pos < en → ¬ pos < 0 ∧ Int32.toNatClampNeg pos < n := by
  obtain ⟨h1, h2, h3, h4, h5, h6, h7⟩ := h
  intro hc
  rw [own_ltI] at hc
  have e0 : (0 : Int32).toInt = 0 := rfl
  refine ⟨by rw [own_ltI]; omega, ?_⟩
  simp only [Int32.toNatClampNeg]; omega
theorem own_dn {k : Nat} {i c r pos en v w : Int32} {n : Nat} (h : own_dv (k + 1) i c r pos en n) (h1 : ushrI r 1 = v) (hc : F_compareUnsigned v 16777216 < 0) (h2 : shlI v 8 = w) : ¬ F_compareUnsigned w 16777216 < 0 := by
  obtain ⟨a1, a2, a3, a4, -⟩ := h
  subst h1; subst h2; subst a4
  exact (own_rt2 ⟨_, by omega⟩ ((own_rt1 ⟨i.toInt.toNat, by omega⟩).mp hc)).1
theorem own_dvc {k : Nat} {i c r pos en v i' r' pos' cd dm : Int32} {n : Nat} {g : Nat → Int32} (h : own_dv (k + 1) i c r pos en n) (h1 : ushrI r 1 = v) (hi : i + 1 = i') (hr : (if F_compareUnsigned v 16777216 < 0 then shlI v 8 else v) = r') (hp : (if F_compareUnsigned v 16777216 < 0 then F_next_a0_position pos en n g (shlI v 8) cd dm else pos) = pos') : own_dv k i' c r' pos' en n := by
  obtain ⟨a1, a2, a3, a4, a5, a6, a7⟩ := h
  have e1 : (1 : Int32).toInt = 1 := rfl
  have s := c_iadd i 1; have b := rng32 (i + 1)
  have s2 := c_iadd pos 1; have b2 := rng32 (pos + 1)
  rw [hi] at s b
  have en1 : i'.toInt.toNat = i.toInt.toNat + 1 := by omega
  have q := own_rt1 ⟨i.toInt.toNat, by omega⟩
  have t2 := own_rt2 ⟨i.toInt.toNat, by omega⟩
  have t3 := own_rt3 ⟨i.toInt.toNat, by omega⟩
  simp only [← a4, h1, ← en1] at q t2 t3
  by_cases cc : F_compareUnsigned v 16777216 < 0
  · rw [if_pos cc] at hr hp
    have hp2 : pos + 1 = pos' := hp
    rw [hp2] at s2 b2
    exact ⟨by omega, by omega, a3, hr.symm.trans (t2 (q.mp cc)).2, by omega, by omega, a7⟩
  · rw [if_neg cc] at hr hp
    rw [← hp]
    exact ⟨by omega, by omega, a3, hr.symm.trans (t3 (fun z => cc (q.mpr z))), by omega, by omega, a7⟩
theorem d6_0 : decode prog_121_method_3_code 0 = .ok (.lconst 0, 1) := by decide +kernel
theorem d6_1 : decode prog_121_method_3_code 1 = .ok (.lstore 4, 2) := by decide +kernel
theorem d6_3 : decode prog_121_method_3_code 3 = .ok (.iconst 0, 1) := by decide +kernel
theorem d6_4 : decode prog_121_method_3_code 4 = .ok (.istore 6, 2) := by decide +kernel
theorem d6_6 : decode prog_121_method_3_code 6 = .ok (.iload 6, 2) := by decide +kernel
theorem d6_8 : decode prog_121_method_3_code 8 = .ok (.iload_n 1, 1) := by decide +kernel
theorem d6_9 : decode prog_121_method_3_code 9 = .ok (.if_icmp .ge 111, 3) := by decide +kernel
theorem d6_120 : decode prog_121_method_3_code 120 = .ok (.lload 4, 2) := by decide +kernel
theorem d6_122 : decode prog_121_method_3_code 122 = .ok (.lreturn, 1) := by decide +kernel
theorem d6_12 : decode prog_121_method_3_code 12 = .ok (.aload_n 0, 1) := by decide +kernel
theorem d6_13 : decode prog_121_method_3_code 13 = .ok (.dup, 1) := by decide +kernel
theorem d6_14 : decode prog_121_method_3_code 14 = .ok (.getfield 7, 3) := by decide +kernel
theorem d6_17 : decode prog_121_method_3_code 17 = .ok (.iconst 1, 1) := by decide +kernel
theorem d6_18 : decode prog_121_method_3_code 18 = .ok (.iushr, 1) := by decide +kernel
theorem d6_19 : decode prog_121_method_3_code 19 = .ok (.putfield 7, 3) := by decide +kernel
theorem d6_22 : decode prog_121_method_3_code 22 = .ok (.aload_n 0, 1) := by decide +kernel
theorem d6_23 : decode prog_121_method_3_code 23 = .ok (.getfield 23, 3) := by decide +kernel
theorem d6_26 : decode prog_121_method_3_code 26 = .ok (.aload_n 0, 1) := by decide +kernel
theorem d6_27 : decode prog_121_method_3_code 27 = .ok (.getfield 7, 3) := by decide +kernel
theorem d6_30 : decode prog_121_method_3_code 30 = .ok (.invokestatic 34, 3) := by decide +kernel
theorem d6_33 : decode prog_121_method_3_code 33 = .ok (.ifCond .lt 7, 3) := by decide +kernel
theorem d6_41 : decode prog_121_method_3_code 41 = .ok (.istore 7, 2) := by decide +kernel
theorem d6_43 : decode prog_121_method_3_code 43 = .ok (.iload 7, 2) := by decide +kernel
theorem d6_45 : decode prog_121_method_3_code 45 = .ok (.iconst 1, 1) := by decide +kernel
theorem d6_46 : decode prog_121_method_3_code 46 = .ok (.if_icmp .ne 16, 3) := by decide +kernel
theorem d6_62 : decode prog_121_method_3_code 62 = .ok (.lload 4, 2) := by decide +kernel
theorem d6_64 : decode prog_121_method_3_code 64 = .ok (.iconst 1, 1) := by decide +kernel
theorem d6_65 : decode prog_121_method_3_code 65 = .ok (.lshl, 1) := by decide +kernel
theorem d6_66 : decode prog_121_method_3_code 66 = .ok (.iload 7, 2) := by decide +kernel
theorem d6_68 : decode prog_121_method_3_code 68 = .ok (.i2l, 1) := by decide +kernel
theorem d6_69 : decode prog_121_method_3_code 69 = .ok (.lor, 1) := by decide +kernel
theorem d6_70 : decode prog_121_method_3_code 70 = .ok (.lstore 4, 2) := by decide +kernel
theorem d6_72 : decode prog_121_method_3_code 72 = .ok (.aload_n 0, 1) := by decide +kernel
theorem d6_73 : decode prog_121_method_3_code 73 = .ok (.getfield 7, 3) := by decide +kernel
theorem d6_76 : decode prog_121_method_3_code 76 = .ok (.ldc 43, 2) := by decide +kernel
theorem d6_78 : decode prog_121_method_3_code 78 = .ok (.invokestatic 34, 3) := by decide +kernel
theorem d6_81 : decode prog_121_method_3_code 81 = .ok (.ifCond .ge 33, 3) := by decide +kernel
theorem d6_114 : decode prog_121_method_3_code 114 = .ok (.iinc 6 1, 3) := by decide +kernel
theorem d6_117 : decode prog_121_method_3_code 117 = .ok (.goto (-111), 3) := by decide +kernel
theorem d6_84 : decode prog_121_method_3_code 84 = .ok (.aload_n 0, 1) := by decide +kernel
theorem d6_85 : decode prog_121_method_3_code 85 = .ok (.dup, 1) := by decide +kernel
theorem d6_86 : decode prog_121_method_3_code 86 = .ok (.getfield 7, 3) := by decide +kernel
theorem d6_89 : decode prog_121_method_3_code 89 = .ok (.bipush 8, 2) := by decide +kernel
theorem d6_91 : decode prog_121_method_3_code 91 = .ok (.ishl, 1) := by decide +kernel
theorem d6_92 : decode prog_121_method_3_code 92 = .ok (.putfield 7, 3) := by decide +kernel
theorem d6_95 : decode prog_121_method_3_code 95 = .ok (.aload_n 0, 1) := by decide +kernel
theorem d6_96 : decode prog_121_method_3_code 96 = .ok (.aload_n 0, 1) := by decide +kernel
theorem d6_97 : decode prog_121_method_3_code 97 = .ok (.getfield 23, 3) := by decide +kernel
theorem d6_100 : decode prog_121_method_3_code 100 = .ok (.bipush 8, 2) := by decide +kernel
theorem d6_102 : decode prog_121_method_3_code 102 = .ok (.ishl, 1) := by decide +kernel
theorem d6_103 : decode prog_121_method_3_code 103 = .ok (.aload_n 0, 1) := by decide +kernel
theorem d6_104 : decode prog_121_method_3_code 104 = .ok (.invokevirtual 26, 3) := by decide +kernel
theorem d6_107 : decode prog_121_method_3_code 107 = .ok (.ior, 1) := by decide +kernel
theorem d6_108 : decode prog_121_method_3_code 108 = .ok (.putfield 23, 3) := by decide +kernel
theorem d6_111 : decode prog_121_method_3_code 111 = .ok (.goto (-39), 3) := by decide +kernel
theorem d6_49 : decode prog_121_method_3_code 49 = .ok (.aload_n 0, 1) := by decide +kernel
theorem d6_50 : decode prog_121_method_3_code 50 = .ok (.dup, 1) := by decide +kernel
theorem d6_51 : decode prog_121_method_3_code 51 = .ok (.getfield 23, 3) := by decide +kernel
theorem d6_54 : decode prog_121_method_3_code 54 = .ok (.aload_n 0, 1) := by decide +kernel
theorem d6_55 : decode prog_121_method_3_code 55 = .ok (.getfield 7, 3) := by decide +kernel
theorem d6_58 : decode prog_121_method_3_code 58 = .ok (.isub, 1) := by decide +kernel
theorem d6_59 : decode prog_121_method_3_code 59 = .ok (.putfield 23, 3) := by decide +kernel
theorem d6_40 : decode prog_121_method_3_code 40 = .ok (.iconst 0, 1) := by decide +kernel
theorem d6_36 : decode prog_121_method_3_code 36 = .ok (.iconst 1, 1) := by decide +kernel
theorem d6_37 : decode prog_121_method_3_code 37 = .ok (.goto 4, 3) := by decide +kernel
theorem ef_6 (a0 : Addr) (p1 : Int32) (q2 : Int64) : ∀ m : MethodId, entryFrame m #[(.ref a0), (.int p1), (.long q2)] 8 = mkF m 0 #[.val (.ref a0), .val (.int p1), .val (.long q2), .second, .unset, .unset, .unset, .unset] [] := by intro m; first | (simp [entryFrame, mkF, argsToLocals, Value.category]; done) | rfl
def U6_6_0 (p1 : Int32) (q2 : Int64) (w_a0_range : Int32) (w_a0_code : Int32) (w_a0_position : Int32) (w_a0_end : Int32) (n_w_a0_bytes : Nat) (g_w_a0_bytes : Nat → Int32) (w_a0_damaged : Int32) (x1169 : Int64) (x1170 : Int32) (x1171 : Int32) (x1172 : Int32) (x1173 : Int32) : Int64 :=
  let d1227 : Int32 := (if (F_compareUnsigned x1172 (ushrI x1171 (1 : Int32))) < (0 : Int32) then (0 : Int32) else (1 : Int32))
  let d1252 : Int32 := (if d1227 = (1 : Int32) then (x1172 - (ushrI x1171 (1 : Int32))) else x1172)
  let v1270 : Int64 := ((shlL x1169 (1 : Int32)) ||| (Int32.toInt64 d1227))
  let d1339 : Int32 := (if (F_compareUnsigned (ushrI x1171 (1 : Int32)) (16777216 : Int32)) < (0 : Int32) then ((shlI d1252 (8 : Int32)) ||| (F_next x1173 w_a0_end n_w_a0_bytes g_w_a0_bytes (shlI (ushrI x1171 (1 : Int32)) (8 : Int32)) d1252 w_a0_damaged)) else d1252)
  let d1340 : Int32 := (if (F_compareUnsigned (ushrI x1171 (1 : Int32)) (16777216 : Int32)) < (0 : Int32) then (F_next_a0_position x1173 w_a0_end n_w_a0_bytes g_w_a0_bytes (shlI (ushrI x1171 (1 : Int32)) (8 : Int32)) d1252 w_a0_damaged) else x1173)
  let d1341 : Int32 := (if (F_compareUnsigned (ushrI x1171 (1 : Int32)) (16777216 : Int32)) < (0 : Int32) then (shlI (ushrI x1171 (1 : Int32)) (8 : Int32)) else (ushrI x1171 (1 : Int32)))
  let v1359 : Int32 := (x1170 + (1 : Int32))
  v1270
def U6_6_1 (p1 : Int32) (q2 : Int64) (w_a0_range : Int32) (w_a0_code : Int32) (w_a0_position : Int32) (w_a0_end : Int32) (n_w_a0_bytes : Nat) (g_w_a0_bytes : Nat → Int32) (w_a0_damaged : Int32) (x1169 : Int64) (x1170 : Int32) (x1171 : Int32) (x1172 : Int32) (x1173 : Int32) : Int32 :=
  let d1227 : Int32 := (if (F_compareUnsigned x1172 (ushrI x1171 (1 : Int32))) < (0 : Int32) then (0 : Int32) else (1 : Int32))
  let d1252 : Int32 := (if d1227 = (1 : Int32) then (x1172 - (ushrI x1171 (1 : Int32))) else x1172)
  let v1270 : Int64 := ((shlL x1169 (1 : Int32)) ||| (Int32.toInt64 d1227))
  let d1339 : Int32 := (if (F_compareUnsigned (ushrI x1171 (1 : Int32)) (16777216 : Int32)) < (0 : Int32) then ((shlI d1252 (8 : Int32)) ||| (F_next x1173 w_a0_end n_w_a0_bytes g_w_a0_bytes (shlI (ushrI x1171 (1 : Int32)) (8 : Int32)) d1252 w_a0_damaged)) else d1252)
  let d1340 : Int32 := (if (F_compareUnsigned (ushrI x1171 (1 : Int32)) (16777216 : Int32)) < (0 : Int32) then (F_next_a0_position x1173 w_a0_end n_w_a0_bytes g_w_a0_bytes (shlI (ushrI x1171 (1 : Int32)) (8 : Int32)) d1252 w_a0_damaged) else x1173)
  let d1341 : Int32 := (if (F_compareUnsigned (ushrI x1171 (1 : Int32)) (16777216 : Int32)) < (0 : Int32) then (shlI (ushrI x1171 (1 : Int32)) (8 : Int32)) else (ushrI x1171 (1 : Int32)))
  let v1359 : Int32 := (x1170 + (1 : Int32))
  v1359
def U6_6_2 (p1 : Int32) (q2 : Int64) (w_a0_range : Int32) (w_a0_code : Int32) (w_a0_position : Int32) (w_a0_end : Int32) (n_w_a0_bytes : Nat) (g_w_a0_bytes : Nat → Int32) (w_a0_damaged : Int32) (x1169 : Int64) (x1170 : Int32) (x1171 : Int32) (x1172 : Int32) (x1173 : Int32) : Int32 :=
  let d1227 : Int32 := (if (F_compareUnsigned x1172 (ushrI x1171 (1 : Int32))) < (0 : Int32) then (0 : Int32) else (1 : Int32))
  let d1252 : Int32 := (if d1227 = (1 : Int32) then (x1172 - (ushrI x1171 (1 : Int32))) else x1172)
  let v1270 : Int64 := ((shlL x1169 (1 : Int32)) ||| (Int32.toInt64 d1227))
  let d1339 : Int32 := (if (F_compareUnsigned (ushrI x1171 (1 : Int32)) (16777216 : Int32)) < (0 : Int32) then ((shlI d1252 (8 : Int32)) ||| (F_next x1173 w_a0_end n_w_a0_bytes g_w_a0_bytes (shlI (ushrI x1171 (1 : Int32)) (8 : Int32)) d1252 w_a0_damaged)) else d1252)
  let d1340 : Int32 := (if (F_compareUnsigned (ushrI x1171 (1 : Int32)) (16777216 : Int32)) < (0 : Int32) then (F_next_a0_position x1173 w_a0_end n_w_a0_bytes g_w_a0_bytes (shlI (ushrI x1171 (1 : Int32)) (8 : Int32)) d1252 w_a0_damaged) else x1173)
  let d1341 : Int32 := (if (F_compareUnsigned (ushrI x1171 (1 : Int32)) (16777216 : Int32)) < (0 : Int32) then (shlI (ushrI x1171 (1 : Int32)) (8 : Int32)) else (ushrI x1171 (1 : Int32)))
  let v1359 : Int32 := (x1170 + (1 : Int32))
  d1341
def U6_6_3 (p1 : Int32) (q2 : Int64) (w_a0_range : Int32) (w_a0_code : Int32) (w_a0_position : Int32) (w_a0_end : Int32) (n_w_a0_bytes : Nat) (g_w_a0_bytes : Nat → Int32) (w_a0_damaged : Int32) (x1169 : Int64) (x1170 : Int32) (x1171 : Int32) (x1172 : Int32) (x1173 : Int32) : Int32 :=
  let d1227 : Int32 := (if (F_compareUnsigned x1172 (ushrI x1171 (1 : Int32))) < (0 : Int32) then (0 : Int32) else (1 : Int32))
  let d1252 : Int32 := (if d1227 = (1 : Int32) then (x1172 - (ushrI x1171 (1 : Int32))) else x1172)
  let v1270 : Int64 := ((shlL x1169 (1 : Int32)) ||| (Int32.toInt64 d1227))
  let d1339 : Int32 := (if (F_compareUnsigned (ushrI x1171 (1 : Int32)) (16777216 : Int32)) < (0 : Int32) then ((shlI d1252 (8 : Int32)) ||| (F_next x1173 w_a0_end n_w_a0_bytes g_w_a0_bytes (shlI (ushrI x1171 (1 : Int32)) (8 : Int32)) d1252 w_a0_damaged)) else d1252)
  let d1340 : Int32 := (if (F_compareUnsigned (ushrI x1171 (1 : Int32)) (16777216 : Int32)) < (0 : Int32) then (F_next_a0_position x1173 w_a0_end n_w_a0_bytes g_w_a0_bytes (shlI (ushrI x1171 (1 : Int32)) (8 : Int32)) d1252 w_a0_damaged) else x1173)
  let d1341 : Int32 := (if (F_compareUnsigned (ushrI x1171 (1 : Int32)) (16777216 : Int32)) < (0 : Int32) then (shlI (ushrI x1171 (1 : Int32)) (8 : Int32)) else (ushrI x1171 (1 : Int32)))
  let v1359 : Int32 := (x1170 + (1 : Int32))
  d1339
def U6_6_4 (p1 : Int32) (q2 : Int64) (w_a0_range : Int32) (w_a0_code : Int32) (w_a0_position : Int32) (w_a0_end : Int32) (n_w_a0_bytes : Nat) (g_w_a0_bytes : Nat → Int32) (w_a0_damaged : Int32) (x1169 : Int64) (x1170 : Int32) (x1171 : Int32) (x1172 : Int32) (x1173 : Int32) : Int32 :=
  let d1227 : Int32 := (if (F_compareUnsigned x1172 (ushrI x1171 (1 : Int32))) < (0 : Int32) then (0 : Int32) else (1 : Int32))
  let d1252 : Int32 := (if d1227 = (1 : Int32) then (x1172 - (ushrI x1171 (1 : Int32))) else x1172)
  let v1270 : Int64 := ((shlL x1169 (1 : Int32)) ||| (Int32.toInt64 d1227))
  let d1339 : Int32 := (if (F_compareUnsigned (ushrI x1171 (1 : Int32)) (16777216 : Int32)) < (0 : Int32) then ((shlI d1252 (8 : Int32)) ||| (F_next x1173 w_a0_end n_w_a0_bytes g_w_a0_bytes (shlI (ushrI x1171 (1 : Int32)) (8 : Int32)) d1252 w_a0_damaged)) else d1252)
  let d1340 : Int32 := (if (F_compareUnsigned (ushrI x1171 (1 : Int32)) (16777216 : Int32)) < (0 : Int32) then (F_next_a0_position x1173 w_a0_end n_w_a0_bytes g_w_a0_bytes (shlI (ushrI x1171 (1 : Int32)) (8 : Int32)) d1252 w_a0_damaged) else x1173)
  let d1341 : Int32 := (if (F_compareUnsigned (ushrI x1171 (1 : Int32)) (16777216 : Int32)) < (0 : Int32) then (shlI (ushrI x1171 (1 : Int32)) (8 : Int32)) else (ushrI x1171 (1 : Int32)))
  let v1359 : Int32 := (x1170 + (1 : Int32))
  d1340
def W6_6 (p1 : Int32) (q2 : Int64) (w_a0_range : Int32) (w_a0_code : Int32) (w_a0_position : Int32) (w_a0_end : Int32) (n_w_a0_bytes : Nat) (g_w_a0_bytes : Nat → Int32) (w_a0_damaged : Int32) (s : (Int64) × (Int32) × (Int32) × (Int32) × (Int32)) : (Int64) × (Int32) × (Int32) × (Int32) × (Int32) := (U6_6_0 p1 q2 w_a0_range w_a0_code w_a0_position w_a0_end n_w_a0_bytes g_w_a0_bytes w_a0_damaged s.1 s.2.1 s.2.2.1 s.2.2.2.1 s.2.2.2.2, U6_6_1 p1 q2 w_a0_range w_a0_code w_a0_position w_a0_end n_w_a0_bytes g_w_a0_bytes w_a0_damaged s.1 s.2.1 s.2.2.1 s.2.2.2.1 s.2.2.2.2, U6_6_2 p1 q2 w_a0_range w_a0_code w_a0_position w_a0_end n_w_a0_bytes g_w_a0_bytes w_a0_damaged s.1 s.2.1 s.2.2.1 s.2.2.2.1 s.2.2.2.2, U6_6_3 p1 q2 w_a0_range w_a0_code w_a0_position w_a0_end n_w_a0_bytes g_w_a0_bytes w_a0_damaged s.1 s.2.1 s.2.2.1 s.2.2.2.1 s.2.2.2.2, U6_6_4 p1 q2 w_a0_range w_a0_code w_a0_position w_a0_end n_w_a0_bytes g_w_a0_bytes w_a0_damaged s.1 s.2.1 s.2.2.1 s.2.2.2.1 s.2.2.2.2)
def L6_6_0 (k : Nat) (p1 : Int32) (q2 : Int64) (w_a0_range : Int32) (w_a0_code : Int32) (w_a0_position : Int32) (w_a0_end : Int32) (n_w_a0_bytes : Nat) (g_w_a0_bytes : Nat → Int32) (w_a0_damaged : Int32) (x1169 : Int64) (x1170 : Int32) (x1171 : Int32) (x1172 : Int32) (x1173 : Int32) : Int64 := (iterN (W6_6 p1 q2 w_a0_range w_a0_code w_a0_position w_a0_end n_w_a0_bytes g_w_a0_bytes w_a0_damaged) k (x1169, x1170, x1171, x1172, x1173)).1
theorem L6_6_0s (k : Nat) (p1 : Int32) (q2 : Int64) (w_a0_range : Int32) (w_a0_code : Int32) (w_a0_position : Int32) (w_a0_end : Int32) (n_w_a0_bytes : Nat) (g_w_a0_bytes : Nat → Int32) (w_a0_damaged : Int32) (x1169 : Int64) (x1170 : Int32) (x1171 : Int32) (x1172 : Int32) (x1173 : Int32) : L6_6_0 (k + 1) p1 q2 w_a0_range w_a0_code w_a0_position w_a0_end n_w_a0_bytes g_w_a0_bytes w_a0_damaged x1169 x1170 x1171 x1172 x1173 = L6_6_0 k p1 q2 w_a0_range w_a0_code w_a0_position w_a0_end n_w_a0_bytes g_w_a0_bytes w_a0_damaged (U6_6_0 p1 q2 w_a0_range w_a0_code w_a0_position w_a0_end n_w_a0_bytes g_w_a0_bytes w_a0_damaged x1169 x1170 x1171 x1172 x1173) (U6_6_1 p1 q2 w_a0_range w_a0_code w_a0_position w_a0_end n_w_a0_bytes g_w_a0_bytes w_a0_damaged x1169 x1170 x1171 x1172 x1173) (U6_6_2 p1 q2 w_a0_range w_a0_code w_a0_position w_a0_end n_w_a0_bytes g_w_a0_bytes w_a0_damaged x1169 x1170 x1171 x1172 x1173) (U6_6_3 p1 q2 w_a0_range w_a0_code w_a0_position w_a0_end n_w_a0_bytes g_w_a0_bytes w_a0_damaged x1169 x1170 x1171 x1172 x1173) (U6_6_4 p1 q2 w_a0_range w_a0_code w_a0_position w_a0_end n_w_a0_bytes g_w_a0_bytes w_a0_damaged x1169 x1170 x1171 x1172 x1173) := by unfold L6_6_0; rw [iterN_s]; rfl
def L6_6_1 (k : Nat) (p1 : Int32) (q2 : Int64) (w_a0_range : Int32) (w_a0_code : Int32) (w_a0_position : Int32) (w_a0_end : Int32) (n_w_a0_bytes : Nat) (g_w_a0_bytes : Nat → Int32) (w_a0_damaged : Int32) (x1169 : Int64) (x1170 : Int32) (x1171 : Int32) (x1172 : Int32) (x1173 : Int32) : Int32 := (iterN (W6_6 p1 q2 w_a0_range w_a0_code w_a0_position w_a0_end n_w_a0_bytes g_w_a0_bytes w_a0_damaged) k (x1169, x1170, x1171, x1172, x1173)).2.1
theorem L6_6_1s (k : Nat) (p1 : Int32) (q2 : Int64) (w_a0_range : Int32) (w_a0_code : Int32) (w_a0_position : Int32) (w_a0_end : Int32) (n_w_a0_bytes : Nat) (g_w_a0_bytes : Nat → Int32) (w_a0_damaged : Int32) (x1169 : Int64) (x1170 : Int32) (x1171 : Int32) (x1172 : Int32) (x1173 : Int32) : L6_6_1 (k + 1) p1 q2 w_a0_range w_a0_code w_a0_position w_a0_end n_w_a0_bytes g_w_a0_bytes w_a0_damaged x1169 x1170 x1171 x1172 x1173 = L6_6_1 k p1 q2 w_a0_range w_a0_code w_a0_position w_a0_end n_w_a0_bytes g_w_a0_bytes w_a0_damaged (U6_6_0 p1 q2 w_a0_range w_a0_code w_a0_position w_a0_end n_w_a0_bytes g_w_a0_bytes w_a0_damaged x1169 x1170 x1171 x1172 x1173) (U6_6_1 p1 q2 w_a0_range w_a0_code w_a0_position w_a0_end n_w_a0_bytes g_w_a0_bytes w_a0_damaged x1169 x1170 x1171 x1172 x1173) (U6_6_2 p1 q2 w_a0_range w_a0_code w_a0_position w_a0_end n_w_a0_bytes g_w_a0_bytes w_a0_damaged x1169 x1170 x1171 x1172 x1173) (U6_6_3 p1 q2 w_a0_range w_a0_code w_a0_position w_a0_end n_w_a0_bytes g_w_a0_bytes w_a0_damaged x1169 x1170 x1171 x1172 x1173) (U6_6_4 p1 q2 w_a0_range w_a0_code w_a0_position w_a0_end n_w_a0_bytes g_w_a0_bytes w_a0_damaged x1169 x1170 x1171 x1172 x1173) := by unfold L6_6_1; rw [iterN_s]; rfl
def L6_6_2 (k : Nat) (p1 : Int32) (q2 : Int64) (w_a0_range : Int32) (w_a0_code : Int32) (w_a0_position : Int32) (w_a0_end : Int32) (n_w_a0_bytes : Nat) (g_w_a0_bytes : Nat → Int32) (w_a0_damaged : Int32) (x1169 : Int64) (x1170 : Int32) (x1171 : Int32) (x1172 : Int32) (x1173 : Int32) : Int32 := (iterN (W6_6 p1 q2 w_a0_range w_a0_code w_a0_position w_a0_end n_w_a0_bytes g_w_a0_bytes w_a0_damaged) k (x1169, x1170, x1171, x1172, x1173)).2.2.1
theorem L6_6_2s (k : Nat) (p1 : Int32) (q2 : Int64) (w_a0_range : Int32) (w_a0_code : Int32) (w_a0_position : Int32) (w_a0_end : Int32) (n_w_a0_bytes : Nat) (g_w_a0_bytes : Nat → Int32) (w_a0_damaged : Int32) (x1169 : Int64) (x1170 : Int32) (x1171 : Int32) (x1172 : Int32) (x1173 : Int32) : L6_6_2 (k + 1) p1 q2 w_a0_range w_a0_code w_a0_position w_a0_end n_w_a0_bytes g_w_a0_bytes w_a0_damaged x1169 x1170 x1171 x1172 x1173 = L6_6_2 k p1 q2 w_a0_range w_a0_code w_a0_position w_a0_end n_w_a0_bytes g_w_a0_bytes w_a0_damaged (U6_6_0 p1 q2 w_a0_range w_a0_code w_a0_position w_a0_end n_w_a0_bytes g_w_a0_bytes w_a0_damaged x1169 x1170 x1171 x1172 x1173) (U6_6_1 p1 q2 w_a0_range w_a0_code w_a0_position w_a0_end n_w_a0_bytes g_w_a0_bytes w_a0_damaged x1169 x1170 x1171 x1172 x1173) (U6_6_2 p1 q2 w_a0_range w_a0_code w_a0_position w_a0_end n_w_a0_bytes g_w_a0_bytes w_a0_damaged x1169 x1170 x1171 x1172 x1173) (U6_6_3 p1 q2 w_a0_range w_a0_code w_a0_position w_a0_end n_w_a0_bytes g_w_a0_bytes w_a0_damaged x1169 x1170 x1171 x1172 x1173) (U6_6_4 p1 q2 w_a0_range w_a0_code w_a0_position w_a0_end n_w_a0_bytes g_w_a0_bytes w_a0_damaged x1169 x1170 x1171 x1172 x1173) := by unfold L6_6_2; rw [iterN_s]; rfl
def L6_6_3 (k : Nat) (p1 : Int32) (q2 : Int64) (w_a0_range : Int32) (w_a0_code : Int32) (w_a0_position : Int32) (w_a0_end : Int32) (n_w_a0_bytes : Nat) (g_w_a0_bytes : Nat → Int32) (w_a0_damaged : Int32) (x1169 : Int64) (x1170 : Int32) (x1171 : Int32) (x1172 : Int32) (x1173 : Int32) : Int32 := (iterN (W6_6 p1 q2 w_a0_range w_a0_code w_a0_position w_a0_end n_w_a0_bytes g_w_a0_bytes w_a0_damaged) k (x1169, x1170, x1171, x1172, x1173)).2.2.2.1
theorem L6_6_3s (k : Nat) (p1 : Int32) (q2 : Int64) (w_a0_range : Int32) (w_a0_code : Int32) (w_a0_position : Int32) (w_a0_end : Int32) (n_w_a0_bytes : Nat) (g_w_a0_bytes : Nat → Int32) (w_a0_damaged : Int32) (x1169 : Int64) (x1170 : Int32) (x1171 : Int32) (x1172 : Int32) (x1173 : Int32) : L6_6_3 (k + 1) p1 q2 w_a0_range w_a0_code w_a0_position w_a0_end n_w_a0_bytes g_w_a0_bytes w_a0_damaged x1169 x1170 x1171 x1172 x1173 = L6_6_3 k p1 q2 w_a0_range w_a0_code w_a0_position w_a0_end n_w_a0_bytes g_w_a0_bytes w_a0_damaged (U6_6_0 p1 q2 w_a0_range w_a0_code w_a0_position w_a0_end n_w_a0_bytes g_w_a0_bytes w_a0_damaged x1169 x1170 x1171 x1172 x1173) (U6_6_1 p1 q2 w_a0_range w_a0_code w_a0_position w_a0_end n_w_a0_bytes g_w_a0_bytes w_a0_damaged x1169 x1170 x1171 x1172 x1173) (U6_6_2 p1 q2 w_a0_range w_a0_code w_a0_position w_a0_end n_w_a0_bytes g_w_a0_bytes w_a0_damaged x1169 x1170 x1171 x1172 x1173) (U6_6_3 p1 q2 w_a0_range w_a0_code w_a0_position w_a0_end n_w_a0_bytes g_w_a0_bytes w_a0_damaged x1169 x1170 x1171 x1172 x1173) (U6_6_4 p1 q2 w_a0_range w_a0_code w_a0_position w_a0_end n_w_a0_bytes g_w_a0_bytes w_a0_damaged x1169 x1170 x1171 x1172 x1173) := by unfold L6_6_3; rw [iterN_s]; rfl
def L6_6_4 (k : Nat) (p1 : Int32) (q2 : Int64) (w_a0_range : Int32) (w_a0_code : Int32) (w_a0_position : Int32) (w_a0_end : Int32) (n_w_a0_bytes : Nat) (g_w_a0_bytes : Nat → Int32) (w_a0_damaged : Int32) (x1169 : Int64) (x1170 : Int32) (x1171 : Int32) (x1172 : Int32) (x1173 : Int32) : Int32 := (iterN (W6_6 p1 q2 w_a0_range w_a0_code w_a0_position w_a0_end n_w_a0_bytes g_w_a0_bytes w_a0_damaged) k (x1169, x1170, x1171, x1172, x1173)).2.2.2.2
theorem L6_6_4s (k : Nat) (p1 : Int32) (q2 : Int64) (w_a0_range : Int32) (w_a0_code : Int32) (w_a0_position : Int32) (w_a0_end : Int32) (n_w_a0_bytes : Nat) (g_w_a0_bytes : Nat → Int32) (w_a0_damaged : Int32) (x1169 : Int64) (x1170 : Int32) (x1171 : Int32) (x1172 : Int32) (x1173 : Int32) : L6_6_4 (k + 1) p1 q2 w_a0_range w_a0_code w_a0_position w_a0_end n_w_a0_bytes g_w_a0_bytes w_a0_damaged x1169 x1170 x1171 x1172 x1173 = L6_6_4 k p1 q2 w_a0_range w_a0_code w_a0_position w_a0_end n_w_a0_bytes g_w_a0_bytes w_a0_damaged (U6_6_0 p1 q2 w_a0_range w_a0_code w_a0_position w_a0_end n_w_a0_bytes g_w_a0_bytes w_a0_damaged x1169 x1170 x1171 x1172 x1173) (U6_6_1 p1 q2 w_a0_range w_a0_code w_a0_position w_a0_end n_w_a0_bytes g_w_a0_bytes w_a0_damaged x1169 x1170 x1171 x1172 x1173) (U6_6_2 p1 q2 w_a0_range w_a0_code w_a0_position w_a0_end n_w_a0_bytes g_w_a0_bytes w_a0_damaged x1169 x1170 x1171 x1172 x1173) (U6_6_3 p1 q2 w_a0_range w_a0_code w_a0_position w_a0_end n_w_a0_bytes g_w_a0_bytes w_a0_damaged x1169 x1170 x1171 x1172 x1173) (U6_6_4 p1 q2 w_a0_range w_a0_code w_a0_position w_a0_end n_w_a0_bytes g_w_a0_bytes w_a0_damaged x1169 x1170 x1171 x1172 x1173) := by unfold L6_6_4; rw [iterN_s]; rfl
def F_direct (p1 : Int32) (q2 : Int64) (w_a0_range : Int32) (w_a0_code : Int32) (w_a0_position : Int32) (w_a0_end : Int32) (n_w_a0_bytes : Nat) (g_w_a0_bytes : Nat → Int32) (w_a0_damaged : Int32) : Int64 :=
  let x1169 : Int64 := (L6_6_0 p1.toInt.toNat p1 q2 w_a0_range w_a0_code w_a0_position w_a0_end n_w_a0_bytes g_w_a0_bytes w_a0_damaged (0 : Int64) (0 : Int32) w_a0_range w_a0_code w_a0_position)
  let x1170 : Int32 := (L6_6_1 p1.toInt.toNat p1 q2 w_a0_range w_a0_code w_a0_position w_a0_end n_w_a0_bytes g_w_a0_bytes w_a0_damaged (0 : Int64) (0 : Int32) w_a0_range w_a0_code w_a0_position)
  let x1171 : Int32 := (L6_6_2 p1.toInt.toNat p1 q2 w_a0_range w_a0_code w_a0_position w_a0_end n_w_a0_bytes g_w_a0_bytes w_a0_damaged (0 : Int64) (0 : Int32) w_a0_range w_a0_code w_a0_position)
  let x1172 : Int32 := (L6_6_3 p1.toInt.toNat p1 q2 w_a0_range w_a0_code w_a0_position w_a0_end n_w_a0_bytes g_w_a0_bytes w_a0_damaged (0 : Int64) (0 : Int32) w_a0_range w_a0_code w_a0_position)
  let x1173 : Int32 := (L6_6_4 p1.toInt.toNat p1 q2 w_a0_range w_a0_code w_a0_position w_a0_end n_w_a0_bytes g_w_a0_bytes w_a0_damaged (0 : Int64) (0 : Int32) w_a0_range w_a0_code w_a0_position)
  x1169
def F_direct_a0_code (p1 : Int32) (q2 : Int64) (w_a0_range : Int32) (w_a0_code : Int32) (w_a0_position : Int32) (w_a0_end : Int32) (n_w_a0_bytes : Nat) (g_w_a0_bytes : Nat → Int32) (w_a0_damaged : Int32) : Int32 :=
  let x1169 : Int64 := (L6_6_0 p1.toInt.toNat p1 q2 w_a0_range w_a0_code w_a0_position w_a0_end n_w_a0_bytes g_w_a0_bytes w_a0_damaged (0 : Int64) (0 : Int32) w_a0_range w_a0_code w_a0_position)
  let x1170 : Int32 := (L6_6_1 p1.toInt.toNat p1 q2 w_a0_range w_a0_code w_a0_position w_a0_end n_w_a0_bytes g_w_a0_bytes w_a0_damaged (0 : Int64) (0 : Int32) w_a0_range w_a0_code w_a0_position)
  let x1171 : Int32 := (L6_6_2 p1.toInt.toNat p1 q2 w_a0_range w_a0_code w_a0_position w_a0_end n_w_a0_bytes g_w_a0_bytes w_a0_damaged (0 : Int64) (0 : Int32) w_a0_range w_a0_code w_a0_position)
  let x1172 : Int32 := (L6_6_3 p1.toInt.toNat p1 q2 w_a0_range w_a0_code w_a0_position w_a0_end n_w_a0_bytes g_w_a0_bytes w_a0_damaged (0 : Int64) (0 : Int32) w_a0_range w_a0_code w_a0_position)
  let x1173 : Int32 := (L6_6_4 p1.toInt.toNat p1 q2 w_a0_range w_a0_code w_a0_position w_a0_end n_w_a0_bytes g_w_a0_bytes w_a0_damaged (0 : Int64) (0 : Int32) w_a0_range w_a0_code w_a0_position)
  x1172
def F_direct_a0_position (p1 : Int32) (q2 : Int64) (w_a0_range : Int32) (w_a0_code : Int32) (w_a0_position : Int32) (w_a0_end : Int32) (n_w_a0_bytes : Nat) (g_w_a0_bytes : Nat → Int32) (w_a0_damaged : Int32) : Int32 :=
  let x1169 : Int64 := (L6_6_0 p1.toInt.toNat p1 q2 w_a0_range w_a0_code w_a0_position w_a0_end n_w_a0_bytes g_w_a0_bytes w_a0_damaged (0 : Int64) (0 : Int32) w_a0_range w_a0_code w_a0_position)
  let x1170 : Int32 := (L6_6_1 p1.toInt.toNat p1 q2 w_a0_range w_a0_code w_a0_position w_a0_end n_w_a0_bytes g_w_a0_bytes w_a0_damaged (0 : Int64) (0 : Int32) w_a0_range w_a0_code w_a0_position)
  let x1171 : Int32 := (L6_6_2 p1.toInt.toNat p1 q2 w_a0_range w_a0_code w_a0_position w_a0_end n_w_a0_bytes g_w_a0_bytes w_a0_damaged (0 : Int64) (0 : Int32) w_a0_range w_a0_code w_a0_position)
  let x1172 : Int32 := (L6_6_3 p1.toInt.toNat p1 q2 w_a0_range w_a0_code w_a0_position w_a0_end n_w_a0_bytes g_w_a0_bytes w_a0_damaged (0 : Int64) (0 : Int32) w_a0_range w_a0_code w_a0_position)
  let x1173 : Int32 := (L6_6_4 p1.toInt.toNat p1 q2 w_a0_range w_a0_code w_a0_position w_a0_end n_w_a0_bytes g_w_a0_bytes w_a0_damaged (0 : Int64) (0 : Int32) w_a0_range w_a0_code w_a0_position)
  x1173
def F_direct_a0_range (p1 : Int32) (q2 : Int64) (w_a0_range : Int32) (w_a0_code : Int32) (w_a0_position : Int32) (w_a0_end : Int32) (n_w_a0_bytes : Nat) (g_w_a0_bytes : Nat → Int32) (w_a0_damaged : Int32) : Int32 :=
  let x1169 : Int64 := (L6_6_0 p1.toInt.toNat p1 q2 w_a0_range w_a0_code w_a0_position w_a0_end n_w_a0_bytes g_w_a0_bytes w_a0_damaged (0 : Int64) (0 : Int32) w_a0_range w_a0_code w_a0_position)
  let x1170 : Int32 := (L6_6_1 p1.toInt.toNat p1 q2 w_a0_range w_a0_code w_a0_position w_a0_end n_w_a0_bytes g_w_a0_bytes w_a0_damaged (0 : Int64) (0 : Int32) w_a0_range w_a0_code w_a0_position)
  let x1171 : Int32 := (L6_6_2 p1.toInt.toNat p1 q2 w_a0_range w_a0_code w_a0_position w_a0_end n_w_a0_bytes g_w_a0_bytes w_a0_damaged (0 : Int64) (0 : Int32) w_a0_range w_a0_code w_a0_position)
  let x1172 : Int32 := (L6_6_3 p1.toInt.toNat p1 q2 w_a0_range w_a0_code w_a0_position w_a0_end n_w_a0_bytes g_w_a0_bytes w_a0_damaged (0 : Int64) (0 : Int32) w_a0_range w_a0_code w_a0_position)
  let x1173 : Int32 := (L6_6_4 p1.toInt.toNat p1 q2 w_a0_range w_a0_code w_a0_position w_a0_end n_w_a0_bytes g_w_a0_bytes w_a0_damaged (0 : Int64) (0 : Int32) w_a0_range w_a0_code w_a0_position)
  x1171
set_option maxRecDepth 65536 in
set_option maxHeartbeats 40000000 in
theorem rm6 (l : Launch) (Z : State) (az : Array Value) (hw : ∀ d ∈ tables_1, d.before az Z = true) (ws : List Jvm.Cond) (a0 : Addr) (p1 : Int32) (q2 : Int64) (w_a0_range : Int32) (w_a0_code : Int32) (w_a0_position : Int32) (w_a0_end : Int32) (w_a0_bytes : Addr) (n_w_a0_bytes : Nat) (g_w_a0_bytes : Nat → Int32) (w_a0_damaged : Int32) (h0 : Heap) (n0 : Nat) (Z0 : n0 ≤ h0.size) (F_a0_range : Fld Z h0 a0 "com/example/tidelake/tidelake/hub/RangeCoder$Decoder" "range" "I" (.int w_a0_range)) (F_a0_code : Fld Z h0 a0 "com/example/tidelake/tidelake/hub/RangeCoder$Decoder" "code" "I" (.int w_a0_code)) (F_a0_position : Fld Z h0 a0 "com/example/tidelake/tidelake/hub/RangeCoder$Decoder" "position" "I" (.int w_a0_position)) (F_a0_end : Fld Z h0 a0 "com/example/tidelake/tidelake/hub/RangeCoder$Decoder" "end" "I" (.int w_a0_end)) (F_a0_bytes : Fld Z h0 a0 "com/example/tidelake/tidelake/hub/RangeCoder$Decoder" "bytes" "[B" (.ref w_a0_bytes)) (A_w_a0_bytes : Ary Z h0 w_a0_bytes .byte n_w_a0_bytes (fun i => Value.int (g_w_a0_bytes i))) (E_a0 : Exa Z h0 a0 "com/example/tidelake/tidelake/hub/RangeCoder$Decoder") (ge_a0 : n0 ≤ a0) (ne_w_a0_bytes_a0 : w_a0_bytes ≠ a0) (F_a0_damaged : Fld Z h0 a0 "com/example/tidelake/tidelake/hub/RangeCoder$Decoder" "damaged" "Z" (.int w_a0_damaged)) (ob_0 : w_a0_range = (-1 : Int32) ∧ 0 ≤ p1.toInt ∧ p1.toInt ≤ 64 ∧ 0 ≤ w_a0_position.toInt ∧ w_a0_position.toInt ≤ 1000 ∧ w_a0_end.toInt ≤ n_w_a0_bytes) :
    Met l (⟨"com/example/tidelake/tidelake/hub/RangeCoder$Decoder", "direct", "(IJ)J"⟩ : MethodName) prog_121_method_3_code 8 (some .long) ws ({ frames := 2, cells := 0, slots := 0, locals := 26 } : Room) Z #[(.ref a0), (.int p1), (.long q2)] h0 (fun v h' L => v = some (Value.long (F_direct p1 q2 w_a0_range w_a0_code w_a0_position w_a0_end n_w_a0_bytes g_w_a0_bytes w_a0_damaged)) ∧ Fr n0 L ∧ Keep h0 h' [a0] ∧ Fld Z h' a0 "com/example/tidelake/tidelake/hub/RangeCoder$Decoder" "bytes" "[B" (.ref w_a0_bytes) ∧ Fld Z h' a0 "com/example/tidelake/tidelake/hub/RangeCoder$Decoder" "code" "I" (.int (F_direct_a0_code p1 q2 w_a0_range w_a0_code w_a0_position w_a0_end n_w_a0_bytes g_w_a0_bytes w_a0_damaged)) ∧ Fld Z h' a0 "com/example/tidelake/tidelake/hub/RangeCoder$Decoder" "damaged" "Z" (.int w_a0_damaged) ∧ Fld Z h' a0 "com/example/tidelake/tidelake/hub/RangeCoder$Decoder" "end" "I" (.int w_a0_end) ∧ Fld Z h' a0 "com/example/tidelake/tidelake/hub/RangeCoder$Decoder" "position" "I" (.int (F_direct_a0_position p1 q2 w_a0_range w_a0_code w_a0_position w_a0_end n_w_a0_bytes g_w_a0_bytes w_a0_damaged)) ∧ Fld Z h' a0 "com/example/tidelake/tidelake/hub/RangeCoder$Decoder" "range" "I" (.int (F_direct_a0_range p1 q2 w_a0_range w_a0_code w_a0_position w_a0_end n_w_a0_bytes g_w_a0_bytes w_a0_damaged))) := by
  refine enter (plainFor_of_name pn_2) (ef_6 a0 p1 q2) ?_
  intro p e s m below meth c T0 kc kn Q hkc hkn hQ K' X0 e0
  have K : Fx p s m meth c prog_121_method_3_code 8 "com/example/tidelake/tidelake/hub/RangeCoder$Decoder" "direct" (some .long) Z := K'
  have N0 := Fr.nil n0
  have K0 : Keep h0 h0 [a0] := Keep.refl _ _
  refine k_lconst0 K X0 d6_0 (q := 1) rfl ?_
  refine k_lstore K X0 d6_1 rfl (Ls' := #[.val (.ref a0), .val (.int p1), .val (.long q2), .second, .val (.long (0 : Int64)), .second, .unset, .unset]) rfl (q := 3) rfl ?_
  refine k_iconst K X0 d6_3 (v := (0 : Int32)) rfl (q := 4) rfl ?_
  refine k_istore K X0 d6_4 rfl (Ls' := #[.val (.ref a0), .val (.int p1), .val (.long q2), .second, .val (.long (0 : Int64)), .second, .val (.int (0 : Int32)), .unset]) rfl (q := 6) rfl ?_
  have LP1197 : ∀ (k : Nat) (x1169 : Int64) (x1170 : Int32) (x1171 : Int32) (x1172 : Int32) (x1173 : Int32) (s1174 : Slot) (T1175 : State) (h1176 : Heap) (Lc1177 : List Loc), Stand p l e ({ frames := 2, cells := 0, slots := 0, locals := 26 } : Room) s m #[(.ref a0), (.int p1), (.long q2)] below meth c T1175 Lc1177 0 0 → Fr n0 Lc1177 → T1175.heap = h1176 → Keep h0 h1176 [a0] → n0 ≤ h1176.size → Fld Z h1176 a0 "com/example/tidelake/tidelake/hub/RangeCoder$Decoder" "range" "I" (.int x1171) → Fld Z h1176 a0 "com/example/tidelake/tidelake/hub/RangeCoder$Decoder" "code" "I" (.int x1172) → Fld Z h1176 a0 "com/example/tidelake/tidelake/hub/RangeCoder$Decoder" "position" "I" (.int x1173) → Fld Z h1176 a0 "com/example/tidelake/tidelake/hub/RangeCoder$Decoder" "end" "I" (.int w_a0_end) → Fld Z h1176 a0 "com/example/tidelake/tidelake/hub/RangeCoder$Decoder" "bytes" "[B" (.ref w_a0_bytes) → Ary Z h1176 w_a0_bytes .byte n_w_a0_bytes (fun i => Value.int (g_w_a0_bytes i)) → Exa Z h1176 a0 "com/example/tidelake/tidelake/hub/RangeCoder$Decoder" → Fld Z h1176 a0 "com/example/tidelake/tidelake/hub/RangeCoder$Decoder" "damaged" "Z" (.int w_a0_damaged) → (s1174 = .unset ∨ ∃ w : Value, s1174 = .val w ∧ w.category = 1) → own_dv k x1170 p1 x1171 x1173 w_a0_end n_w_a0_bytes → L6_6_0 k p1 q2 w_a0_range w_a0_code w_a0_position w_a0_end n_w_a0_bytes g_w_a0_bytes w_a0_damaged x1169 x1170 x1171 x1172 x1173 = (L6_6_0 p1.toInt.toNat p1 q2 w_a0_range w_a0_code w_a0_position w_a0_end n_w_a0_bytes g_w_a0_bytes w_a0_damaged (0 : Int64) (0 : Int32) w_a0_range w_a0_code w_a0_position) → L6_6_1 k p1 q2 w_a0_range w_a0_code w_a0_position w_a0_end n_w_a0_bytes g_w_a0_bytes w_a0_damaged x1169 x1170 x1171 x1172 x1173 = (L6_6_1 p1.toInt.toNat p1 q2 w_a0_range w_a0_code w_a0_position w_a0_end n_w_a0_bytes g_w_a0_bytes w_a0_damaged (0 : Int64) (0 : Int32) w_a0_range w_a0_code w_a0_position) → L6_6_2 k p1 q2 w_a0_range w_a0_code w_a0_position w_a0_end n_w_a0_bytes g_w_a0_bytes w_a0_damaged x1169 x1170 x1171 x1172 x1173 = (L6_6_2 p1.toInt.toNat p1 q2 w_a0_range w_a0_code w_a0_position w_a0_end n_w_a0_bytes g_w_a0_bytes w_a0_damaged (0 : Int64) (0 : Int32) w_a0_range w_a0_code w_a0_position) → L6_6_3 k p1 q2 w_a0_range w_a0_code w_a0_position w_a0_end n_w_a0_bytes g_w_a0_bytes w_a0_damaged x1169 x1170 x1171 x1172 x1173 = (L6_6_3 p1.toInt.toNat p1 q2 w_a0_range w_a0_code w_a0_position w_a0_end n_w_a0_bytes g_w_a0_bytes w_a0_damaged (0 : Int64) (0 : Int32) w_a0_range w_a0_code w_a0_position) → L6_6_4 k p1 q2 w_a0_range w_a0_code w_a0_position w_a0_end n_w_a0_bytes g_w_a0_bytes w_a0_damaged x1169 x1170 x1171 x1172 x1173 = (L6_6_4 p1.toInt.toNat p1 q2 w_a0_range w_a0_code w_a0_position w_a0_end n_w_a0_bytes g_w_a0_bytes w_a0_damaged (0 : Int64) (0 : Int32) w_a0_range w_a0_code w_a0_position) → Run p e below s kc kn Q T1175 (mkF m 6 #[.val (.ref a0), .val (.int p1), .val (.long q2), .second, .val (.long x1169), .second, .val (.int x1170), s1174] []) := by
    intro k
    induction k with
    | zero =>
      intro x1169 x1170 x1171 x1172 x1173 s1174 T1175 h1176 Lc1177 X1178 N1179 e1180 K1181 Z1182 f1183 f1184 f1185 f1186 f1187 f1188 f1189 f1190 hsl_s1174 hi1196 hR1191 hR1192 hR1193 hR1194 hR1195
      have hv_x1169 : (L6_6_0 p1.toInt.toNat p1 q2 w_a0_range w_a0_code w_a0_position w_a0_end n_w_a0_bytes g_w_a0_bytes w_a0_damaged (0 : Int64) (0 : Int32) w_a0_range w_a0_code w_a0_position) = x1169 := hR1191.symm
      have hv_x1170 : (L6_6_1 p1.toInt.toNat p1 q2 w_a0_range w_a0_code w_a0_position w_a0_end n_w_a0_bytes g_w_a0_bytes w_a0_damaged (0 : Int64) (0 : Int32) w_a0_range w_a0_code w_a0_position) = x1170 := hR1192.symm
      have hv_x1171 : (L6_6_2 p1.toInt.toNat p1 q2 w_a0_range w_a0_code w_a0_position w_a0_end n_w_a0_bytes g_w_a0_bytes w_a0_damaged (0 : Int64) (0 : Int32) w_a0_range w_a0_code w_a0_position) = x1171 := hR1193.symm
      have hv_x1172 : (L6_6_3 p1.toInt.toNat p1 q2 w_a0_range w_a0_code w_a0_position w_a0_end n_w_a0_bytes g_w_a0_bytes w_a0_damaged (0 : Int64) (0 : Int32) w_a0_range w_a0_code w_a0_position) = x1172 := hR1194.symm
      have hv_x1173 : (L6_6_4 p1.toInt.toNat p1 q2 w_a0_range w_a0_code w_a0_position w_a0_end n_w_a0_bytes g_w_a0_bytes w_a0_damaged (0 : Int64) (0 : Int32) w_a0_range w_a0_code w_a0_position) = x1173 := hR1195.symm
      refine k_iload K X1178 d6_6 rfl (q := 8) rfl ?_
      refine k_iloadN K X1178 d6_8 rfl (q := 9) rfl ?_
      refine k_icmp_ge_y K X1178 d6_9 (own_dvz hi1196) (by decide) (q := 120) rfl ?_
      refine k_lload K X1178 d6_120 rfl (q := 122) rfl ?_
      exact k_retl K X1178 e1180 d6_122 (Nat.le_trans (by decide) hkc) (Nat.le_trans (by decide) hkn) (hQ _ _ _ ⟨(by show some (Value.long x1169) = some (Value.long (F_direct p1 q2 w_a0_range w_a0_code w_a0_position w_a0_end n_w_a0_bytes g_w_a0_bytes w_a0_damaged)); first | (simp only [F_direct, hv_x1169, hv_x1170, hv_x1171, hv_x1172, hv_x1173]; done) | (subst hv_x1169; subst hv_x1170; subst hv_x1171; subst hv_x1172; subst hv_x1173; simp only [F_direct])), N1179, K1181, f1187, (by rw [(show F_direct_a0_code p1 q2 w_a0_range w_a0_code w_a0_position w_a0_end n_w_a0_bytes g_w_a0_bytes w_a0_damaged = x1172 from by first | (simp only [F_direct_a0_code, hv_x1169, hv_x1170, hv_x1171, hv_x1172, hv_x1173]; done) | (subst hv_x1169; subst hv_x1170; subst hv_x1171; subst hv_x1172; subst hv_x1173; simp only [F_direct_a0_code]))]; exact f1184), f1190, f1186, (by rw [(show F_direct_a0_position p1 q2 w_a0_range w_a0_code w_a0_position w_a0_end n_w_a0_bytes g_w_a0_bytes w_a0_damaged = x1173 from by first | (simp only [F_direct_a0_position, hv_x1169, hv_x1170, hv_x1171, hv_x1172, hv_x1173]; done) | (subst hv_x1169; subst hv_x1170; subst hv_x1171; subst hv_x1172; subst hv_x1173; simp only [F_direct_a0_position]))]; exact f1185), (by rw [(show F_direct_a0_range p1 q2 w_a0_range w_a0_code w_a0_position w_a0_end n_w_a0_bytes g_w_a0_bytes w_a0_damaged = x1171 from by first | (simp only [F_direct_a0_range, hv_x1169, hv_x1170, hv_x1171, hv_x1172, hv_x1173]; done) | (subst hv_x1169; subst hv_x1170; subst hv_x1171; subst hv_x1172; subst hv_x1173; simp only [F_direct_a0_range]))]; exact f1183)⟩)
    | succ k ih =>
      intro x1169 x1170 x1171 x1172 x1173 s1174 T1175 h1176 Lc1177 X1178 N1179 e1180 K1181 Z1182 f1183 f1184 f1185 f1186 f1187 f1188 f1189 f1190 hsl_s1174 hi1196 hR1191 hR1192 hR1193 hR1194 hR1195
      refine k_iload K X1178 d6_6 rfl (q := 8) rfl ?_
      refine k_iloadN K X1178 d6_8 rfl (q := 9) rfl ?_
      refine k_icmp_ge_n K X1178 d6_9 (own_dvn hi1196) (q := 12) rfl ?_
      refine k_aloadN K X1178 d6_12 rfl rfl (q := 13) rfl ?_
      refine k_dup K X1178 d6_13 rfl (q := 14) rfl ?_
      refine k_getfield K X1178 e1180 d6_14 (wd hw 16 rfl) f1183 (q := 17) rfl ?_
      intro T1198 X1199 e1200
      refine k_iconst K X1199 d6_17 (v := (1 : Int32)) rfl (q := 18) rfl ?_
      refine k_iushr K X1199 d6_18 (q := 19) rfl ?_
      refine k_putfield K X1199 e1200 d6_19 (wd hw 16 rfl) f1183 f1189 (Or.inl (wd hw 17 rfl)) (wd hw 3 rfl) (ty := .int) (by decide) rfl rfl (q := 22) rfl ?_
      intro T1201 h1202 X1203 e1204 W1205
      have f1206 := Fld.same W1205 f1183
      have f1207 := Fld.other W1205 f1184 (Or.inr (slot_ne (Or.inl (wd hw 25 rfl)) (Or.inl (wd hw 17 rfl)) (by decide) (t := .int) (t' := .int) (by decide) (by decide)))
      have f1208 := Fld.other W1205 f1185 (Or.inr (slot_ne (Or.inl (wd hw 21 rfl)) (Or.inl (wd hw 17 rfl)) (by decide) (t := .int) (t' := .int) (by decide) (by decide)))
      have f1209 := Fld.other W1205 f1186 (Or.inr (slot_ne (Or.inr (wd hw 23 rfl)) (Or.inl (wd hw 17 rfl)) (by decide) (t := .int) (t' := .int) (by decide) (by decide)))
      have f1210 := Fld.other W1205 f1187 (Or.inr (slot_ne (Or.inr (wd hw 19 rfl)) (Or.inl (wd hw 17 rfl)) (by decide) (t := (.array .byte)) (t' := .int) (by decide) (by decide)))
      have f1211 := Ary.other f1188 W1205 ne_w_a0_bytes_a0
      have f1212 := Exa.wr W1205 f1189
      have f1213 := Fld.other W1205 f1190 (Or.inr (slot_ne (Or.inl (wd hw 36 rfl)) (Or.inl (wd hw 17 rfl)) (by decide) (t := .boolean) (t' := .int) (by decide) (by decide)))
      have N1214 := Fr.snoc X1203 N1179 ge_a0
      have K1215 := Keep.wr K1181 W1205 (Or.inl (List.mem_of_getElem? (i := 0) rfl))
      have Z1216 := Nat.le_trans Z1182 (Nat.le_of_eq (Wr.size W1205).symm)
      refine k_aloadN K X1203 d6_22 rfl rfl (q := 23) rfl ?_
      refine k_getfield K X1203 e1204 d6_23 (wd hw 24 rfl) f1207 (q := 26) rfl ?_
      intro T1217 X1218 e1219
      refine k_aloadN K X1218 d6_26 rfl rfl (q := 27) rfl ?_
      refine k_getfield K X1218 e1219 d6_27 (wd hw 16 rfl) f1206 (q := 30) rfl ?_
      intro T1220 X1221 e1222
      refine k_staticP K X1221 e1222 d6_30 (wd hw 42 rfl) (wd hw 43 rfl) (wd hw 44 rfl) (wd hw 45 rfl) (by decide) (rm7 l Z az hw [] x1172 (ushrI x1171 (1 : Int32)) h1202) (W := 0) (by decide) (by decide) (by decide) (by decide) rfl pd_0 (argsL := [(.int x1172), (.int (ushrI x1171 (1 : Int32)))]) (rest := []) rfl rfl rfl (Nat.le_of_eq rfl) (q := 33) rfl ?_
      intro T1223 X1224 e1225
      have J1228 : ∀ (d1227 : Int32), (if (F_compareUnsigned x1172 (ushrI x1171 (1 : Int32))) < (0 : Int32) then (0 : Int32) else (1 : Int32)) = d1227 → Run p e below s kc kn Q T1223 (mkF m 41 #[.val (.ref a0), .val (.int p1), .val (.long q2), .second, .val (.long x1169), .second, .val (.int x1170), s1174] [(.int d1227)]) := by
        intro d1227 hv_d1227
        refine k_istore K X1224 d6_41 rfl (Ls' := #[.val (.ref a0), .val (.int p1), .val (.long q2), .second, .val (.long x1169), .second, .val (.int x1170), .val (.int d1227)]) (XS.store1 rfl hsl_s1174 rfl) (q := 43) rfl ?_
        refine k_iload K X1224 d6_43 rfl (q := 45) rfl ?_
        refine k_iconst K X1224 d6_45 (v := (1 : Int32)) rfl (q := 46) rfl ?_
        have J1261 : ∀ (T1262 : State) (h1265 : Heap) (Lc1269 : List Loc) (d1252 : Int32), Stand p l e ({ frames := 2, cells := 0, slots := 0, locals := 26 } : Room) s m #[(.ref a0), (.int p1), (.long q2)] below meth c T1262 Lc1269 0 0 → Fr n0 Lc1269 → T1262.heap = h1265 → Keep h0 h1265 [a0] → n0 ≤ h1265.size → Fld Z h1265 a0 "com/example/tidelake/tidelake/hub/RangeCoder$Decoder" "code" "I" (.int d1252) → Fld Z h1265 a0 "com/example/tidelake/tidelake/hub/RangeCoder$Decoder" "position" "I" (.int x1173) → Fld Z h1265 a0 "com/example/tidelake/tidelake/hub/RangeCoder$Decoder" "end" "I" (.int w_a0_end) → Fld Z h1265 a0 "com/example/tidelake/tidelake/hub/RangeCoder$Decoder" "bytes" "[B" (.ref w_a0_bytes) → Ary Z h1265 w_a0_bytes .byte n_w_a0_bytes (fun i => Value.int (g_w_a0_bytes i)) → Exa Z h1265 a0 "com/example/tidelake/tidelake/hub/RangeCoder$Decoder" → Fld Z h1265 a0 "com/example/tidelake/tidelake/hub/RangeCoder$Decoder" "damaged" "Z" (.int w_a0_damaged) → Fld Z h1265 a0 "com/example/tidelake/tidelake/hub/RangeCoder$Decoder" "range" "I" (.int (ushrI x1171 (1 : Int32))) → (if d1227 = (1 : Int32) then (x1172 - (ushrI x1171 (1 : Int32))) else x1172) = d1252 → Run p e below s kc kn Q T1262 (mkF m 62 #[.val (.ref a0), .val (.int p1), .val (.long q2), .second, .val (.long x1169), .second, .val (.int x1170), .val (.int d1227)] []) := by
          intro T1262 h1265 Lc1269 d1252 X1263 N1266 e1264 K1267 Z1268 f1253 f1254 f1255 f1256 f1257 f1258 f1259 f1260 hv_d1252
          refine k_lload K X1263 d6_62 rfl (q := 64) rfl ?_
          refine k_iconst K X1263 d6_64 (v := (1 : Int32)) rfl (q := 65) rfl ?_
          refine k_lshl K X1263 d6_65 (q := 66) rfl ?_
          refine k_iload K X1263 d6_66 rfl (q := 68) rfl ?_
          refine k_i2l K X1263 d6_68 (q := 69) rfl ?_
          refine k_lor K X1263 d6_69 (q := 70) rfl ?_
          obtain ⟨v1270, hv_v1270⟩ : ∃ z : Int64, ((shlL x1169 (1 : Int32)) ||| (Int32.toInt64 d1227)) = z := ⟨_, rfl⟩
          refine k_lstore K X1263 d6_70 hv_v1270 (Ls' := #[.val (.ref a0), .val (.int p1), .val (.long q2), .second, .val (.long v1270), .second, .val (.int x1170), .val (.int d1227)]) rfl (q := 72) rfl ?_
          refine k_aloadN K X1263 d6_72 rfl rfl (q := 73) rfl ?_
          refine k_getfield K X1263 e1264 d6_73 (wd hw 16 rfl) f1260 (q := 76) rfl ?_
          intro T1271 X1272 e1273
          refine k_ldc K X1272 d6_76 (wd hw 50 rfl) (q := 78) rfl ?_
          refine k_staticP K X1272 e1273 d6_78 (wd hw 42 rfl) (wd hw 43 rfl) (wd hw 44 rfl) (wd hw 45 rfl) (by decide) (rm7 l Z az hw [] (ushrI x1171 (1 : Int32)) (16777216 : Int32) h1265) (W := 0) (by decide) (by decide) (by decide) (by decide) rfl pd_0 (argsL := [(.int (ushrI x1171 (1 : Int32))), (.int (16777216 : Int32))]) (rest := []) rfl rfl rfl (Nat.le_of_eq rfl) (q := 81) rfl ?_
          intro T1274 X1275 e1276
          have J1350 : ∀ (T1351 : State) (h1354 : Heap) (Lc1358 : List Loc) (d1339 : Int32) (d1340 : Int32) (d1341 : Int32), Stand p l e ({ frames := 2, cells := 0, slots := 0, locals := 26 } : Room) s m #[(.ref a0), (.int p1), (.long q2)] below meth c T1351 Lc1358 0 0 → Fr n0 Lc1358 → T1351.heap = h1354 → Keep h0 h1354 [a0] → n0 ≤ h1354.size → Fld Z h1354 a0 "com/example/tidelake/tidelake/hub/RangeCoder$Decoder" "code" "I" (.int d1339) → Fld Z h1354 a0 "com/example/tidelake/tidelake/hub/RangeCoder$Decoder" "position" "I" (.int d1340) → Fld Z h1354 a0 "com/example/tidelake/tidelake/hub/RangeCoder$Decoder" "end" "I" (.int w_a0_end) → Fld Z h1354 a0 "com/example/tidelake/tidelake/hub/RangeCoder$Decoder" "bytes" "[B" (.ref w_a0_bytes) → Ary Z h1354 w_a0_bytes .byte n_w_a0_bytes (fun i => Value.int (g_w_a0_bytes i)) → Exa Z h1354 a0 "com/example/tidelake/tidelake/hub/RangeCoder$Decoder" → Fld Z h1354 a0 "com/example/tidelake/tidelake/hub/RangeCoder$Decoder" "damaged" "Z" (.int w_a0_damaged) → Fld Z h1354 a0 "com/example/tidelake/tidelake/hub/RangeCoder$Decoder" "range" "I" (.int d1341) → (if (F_compareUnsigned (ushrI x1171 (1 : Int32)) (16777216 : Int32)) < (0 : Int32) then ((shlI d1252 (8 : Int32)) ||| (F_next x1173 w_a0_end n_w_a0_bytes g_w_a0_bytes (shlI (ushrI x1171 (1 : Int32)) (8 : Int32)) d1252 w_a0_damaged)) else d1252) = d1339 → (if (F_compareUnsigned (ushrI x1171 (1 : Int32)) (16777216 : Int32)) < (0 : Int32) then (F_next_a0_position x1173 w_a0_end n_w_a0_bytes g_w_a0_bytes (shlI (ushrI x1171 (1 : Int32)) (8 : Int32)) d1252 w_a0_damaged) else x1173) = d1340 → (if (F_compareUnsigned (ushrI x1171 (1 : Int32)) (16777216 : Int32)) < (0 : Int32) then (shlI (ushrI x1171 (1 : Int32)) (8 : Int32)) else (ushrI x1171 (1 : Int32))) = d1341 → Run p e below s kc kn Q T1351 (mkF m 114 #[.val (.ref a0), .val (.int p1), .val (.long q2), .second, .val (.long v1270), .second, .val (.int x1170), .val (.int d1227)] []) := by
            intro T1351 h1354 Lc1358 d1339 d1340 d1341 X1352 N1355 e1353 K1356 Z1357 f1342 f1343 f1344 f1345 f1346 f1347 f1348 f1349 hv_d1339 hv_d1340 hv_d1341
            obtain ⟨v1359, hv_v1359⟩ : ∃ z : Int32, (x1170 + (1 : Int32)) = z := ⟨_, rfl⟩
            refine k_iinc K X1352 d6_114 rfl hv_v1359 (Ls' := #[.val (.ref a0), .val (.int p1), .val (.long q2), .second, .val (.long v1270), .second, .val (.int v1359), .val (.int d1227)]) rfl (q := 117) rfl ?_
            refine k_goto K X1352 d6_117 (by decide) (q := 6) rfl ?_
            have hu1360 : U6_6_0 p1 q2 w_a0_range w_a0_code w_a0_position w_a0_end n_w_a0_bytes g_w_a0_bytes w_a0_damaged x1169 x1170 x1171 x1172 x1173 = v1270 := by first | (simp only [U6_6_0, hv_d1227, hv_d1252, hv_v1270, hv_d1339, hv_d1340, hv_d1341, hv_v1359]; done) | (subst hv_d1227; subst hv_d1252; subst hv_v1270; subst hv_d1339; subst hv_d1340; subst hv_d1341; subst hv_v1359; simp only [U6_6_0])
            have hu1361 : U6_6_1 p1 q2 w_a0_range w_a0_code w_a0_position w_a0_end n_w_a0_bytes g_w_a0_bytes w_a0_damaged x1169 x1170 x1171 x1172 x1173 = v1359 := by first | (simp only [U6_6_1, hv_d1227, hv_d1252, hv_v1270, hv_d1339, hv_d1340, hv_d1341, hv_v1359]; done) | (subst hv_d1227; subst hv_d1252; subst hv_v1270; subst hv_d1339; subst hv_d1340; subst hv_d1341; subst hv_v1359; simp only [U6_6_1])
            have hu1362 : U6_6_2 p1 q2 w_a0_range w_a0_code w_a0_position w_a0_end n_w_a0_bytes g_w_a0_bytes w_a0_damaged x1169 x1170 x1171 x1172 x1173 = d1341 := by first | (simp only [U6_6_2, hv_d1227, hv_d1252, hv_v1270, hv_d1339, hv_d1340, hv_d1341, hv_v1359]; done) | (subst hv_d1227; subst hv_d1252; subst hv_v1270; subst hv_d1339; subst hv_d1340; subst hv_d1341; subst hv_v1359; simp only [U6_6_2])
            have hu1363 : U6_6_3 p1 q2 w_a0_range w_a0_code w_a0_position w_a0_end n_w_a0_bytes g_w_a0_bytes w_a0_damaged x1169 x1170 x1171 x1172 x1173 = d1339 := by first | (simp only [U6_6_3, hv_d1227, hv_d1252, hv_v1270, hv_d1339, hv_d1340, hv_d1341, hv_v1359]; done) | (subst hv_d1227; subst hv_d1252; subst hv_v1270; subst hv_d1339; subst hv_d1340; subst hv_d1341; subst hv_v1359; simp only [U6_6_3])
            have hu1364 : U6_6_4 p1 q2 w_a0_range w_a0_code w_a0_position w_a0_end n_w_a0_bytes g_w_a0_bytes w_a0_damaged x1169 x1170 x1171 x1172 x1173 = d1340 := by first | (simp only [U6_6_4, hv_d1227, hv_d1252, hv_v1270, hv_d1339, hv_d1340, hv_d1341, hv_v1359]; done) | (subst hv_d1227; subst hv_d1252; subst hv_v1270; subst hv_d1339; subst hv_d1340; subst hv_d1341; subst hv_v1359; simp only [U6_6_4])
            have hR1191' : L6_6_0 k p1 q2 w_a0_range w_a0_code w_a0_position w_a0_end n_w_a0_bytes g_w_a0_bytes w_a0_damaged v1270 v1359 d1341 d1339 d1340 = (L6_6_0 p1.toInt.toNat p1 q2 w_a0_range w_a0_code w_a0_position w_a0_end n_w_a0_bytes g_w_a0_bytes w_a0_damaged (0 : Int64) (0 : Int32) w_a0_range w_a0_code w_a0_position) := by
              rw [← hR1191, L6_6_0s, hu1360, hu1361, hu1362, hu1363, hu1364]
            have hR1192' : L6_6_1 k p1 q2 w_a0_range w_a0_code w_a0_position w_a0_end n_w_a0_bytes g_w_a0_bytes w_a0_damaged v1270 v1359 d1341 d1339 d1340 = (L6_6_1 p1.toInt.toNat p1 q2 w_a0_range w_a0_code w_a0_position w_a0_end n_w_a0_bytes g_w_a0_bytes w_a0_damaged (0 : Int64) (0 : Int32) w_a0_range w_a0_code w_a0_position) := by
              rw [← hR1192, L6_6_1s, hu1360, hu1361, hu1362, hu1363, hu1364]
            have hR1193' : L6_6_2 k p1 q2 w_a0_range w_a0_code w_a0_position w_a0_end n_w_a0_bytes g_w_a0_bytes w_a0_damaged v1270 v1359 d1341 d1339 d1340 = (L6_6_2 p1.toInt.toNat p1 q2 w_a0_range w_a0_code w_a0_position w_a0_end n_w_a0_bytes g_w_a0_bytes w_a0_damaged (0 : Int64) (0 : Int32) w_a0_range w_a0_code w_a0_position) := by
              rw [← hR1193, L6_6_2s, hu1360, hu1361, hu1362, hu1363, hu1364]
            have hR1194' : L6_6_3 k p1 q2 w_a0_range w_a0_code w_a0_position w_a0_end n_w_a0_bytes g_w_a0_bytes w_a0_damaged v1270 v1359 d1341 d1339 d1340 = (L6_6_3 p1.toInt.toNat p1 q2 w_a0_range w_a0_code w_a0_position w_a0_end n_w_a0_bytes g_w_a0_bytes w_a0_damaged (0 : Int64) (0 : Int32) w_a0_range w_a0_code w_a0_position) := by
              rw [← hR1194, L6_6_3s, hu1360, hu1361, hu1362, hu1363, hu1364]
            have hR1195' : L6_6_4 k p1 q2 w_a0_range w_a0_code w_a0_position w_a0_end n_w_a0_bytes g_w_a0_bytes w_a0_damaged v1270 v1359 d1341 d1339 d1340 = (L6_6_4 p1.toInt.toNat p1 q2 w_a0_range w_a0_code w_a0_position w_a0_end n_w_a0_bytes g_w_a0_bytes w_a0_damaged (0 : Int64) (0 : Int32) w_a0_range w_a0_code w_a0_position) := by
              rw [← hR1195, L6_6_4s, hu1360, hu1361, hu1362, hu1363, hu1364]
            exact ih v1270 v1359 d1341 d1339 d1340 _ T1351 _ _ X1352 N1355 e1353 K1356 Z1357 f1349 f1342 f1343 f1344 f1345 f1346 f1347 f1348 (Or.inr ⟨_, rfl, rfl⟩) (own_dvc hi1196 rfl hv_v1359 hv_d1341 hv_d1340) hR1191' hR1192' hR1193' hR1194' hR1195'
          refine k_if_ge K X1275 d6_81 (by decide) (q := 114) rfl (q' := 84) rfl ?_ ?_
          · intro hc1365
            exact J1350 T1274 _ _ _ _ _ X1275 N1266 e1276 K1267 Z1268 f1253 f1254 f1255 f1256 f1257 f1258 f1259 f1260 (by first | (simp only [if_neg hc1365]; done) | rfl) (by first | (simp only [if_neg hc1365]; done) | rfl) (by first | (simp only [if_neg hc1365]; done) | rfl)
          · intro hc1365
            refine k_aloadN K X1275 d6_84 rfl rfl (q := 85) rfl ?_
            refine k_dup K X1275 d6_85 rfl (q := 86) rfl ?_
            refine k_getfield K X1275 e1276 d6_86 (wd hw 16 rfl) f1260 (q := 89) rfl ?_
            intro T1366 X1367 e1368
            refine k_bipush K X1367 d6_89 (v := (8 : Int32)) rfl (q := 91) rfl ?_
            refine k_ishl K X1367 d6_91 (q := 92) rfl ?_
            refine k_putfield K X1367 e1368 d6_92 (wd hw 16 rfl) f1260 f1258 (Or.inl (wd hw 17 rfl)) (wd hw 3 rfl) (ty := .int) (by decide) rfl rfl (q := 95) rfl ?_
            intro T1369 h1370 X1371 e1372 W1373
            have f1374 := Fld.same W1373 f1260
            have f1375 := Fld.other W1373 f1253 (Or.inr (slot_ne (Or.inl (wd hw 25 rfl)) (Or.inl (wd hw 17 rfl)) (by decide) (t := .int) (t' := .int) (by decide) (by decide)))
            have f1376 := Fld.other W1373 f1254 (Or.inr (slot_ne (Or.inl (wd hw 21 rfl)) (Or.inl (wd hw 17 rfl)) (by decide) (t := .int) (t' := .int) (by decide) (by decide)))
            have f1377 := Fld.other W1373 f1255 (Or.inr (slot_ne (Or.inr (wd hw 23 rfl)) (Or.inl (wd hw 17 rfl)) (by decide) (t := .int) (t' := .int) (by decide) (by decide)))
            have f1378 := Fld.other W1373 f1256 (Or.inr (slot_ne (Or.inr (wd hw 19 rfl)) (Or.inl (wd hw 17 rfl)) (by decide) (t := (.array .byte)) (t' := .int) (by decide) (by decide)))
            have f1379 := Ary.other f1257 W1373 ne_w_a0_bytes_a0
            have f1380 := Exa.wr W1373 f1258
            have f1381 := Fld.other W1373 f1259 (Or.inr (slot_ne (Or.inl (wd hw 36 rfl)) (Or.inl (wd hw 17 rfl)) (by decide) (t := .boolean) (t' := .int) (by decide) (by decide)))
            have N1382 := Fr.snoc X1371 N1266 ge_a0
            have K1383 := Keep.wr K1267 W1373 (Or.inl (List.mem_of_getElem? (i := 0) rfl))
            have Z1384 := Nat.le_trans Z1268 (Nat.le_of_eq (Wr.size W1373).symm)
            refine k_aloadN K X1371 d6_95 rfl rfl (q := 96) rfl ?_
            refine k_aloadN K X1371 d6_96 rfl rfl (q := 97) rfl ?_
            refine k_getfield K X1371 e1372 d6_97 (wd hw 24 rfl) f1375 (q := 100) rfl ?_
            intro T1385 X1386 e1387
            refine k_bipush K X1386 d6_100 (v := (8 : Int32)) rfl (q := 102) rfl ?_
            refine k_ishl K X1386 d6_102 (q := 103) rfl ?_
            refine k_aloadN K X1386 d6_103 rfl rfl (q := 104) rfl ?_
            refine k_private K X1386 e1387 d6_104 (wd hw 26 rfl) (wd hw 28 rfl) (wd hw 3 rfl) (wd hw 27 rfl) (wd hw 4 rfl) (wd hw 29 rfl) (by decide) f1380 (rm4 l Z az hw [] a0 x1173 w_a0_end w_a0_bytes n_w_a0_bytes g_w_a0_bytes (shlI (ushrI x1171 (1 : Int32)) (8 : Int32)) d1252 w_a0_damaged h1370 n0 Z1384 f1376 f1377 f1378 f1379 f1380 ge_a0 ne_w_a0_bytes_a0 f1374 f1375 f1381 (fun hp => own_dvb hi1196 hp)) (W := 2) (by decide) (by decide) (by decide) (by decide) rfl pd_2 (argsL := []) (rest := [(.int (shlI d1252 (8 : Int32))), (.ref a0)]) rfl rfl rfl (Nat.le_of_eq rfl) (q := 107) rfl ?_
            rintro _ T1388 L1389 X1390 ⟨rfl, N1391, K1392, f1394, f1395, f1396, f1397, f1398, f1399⟩
            have f1400 := Ary.keep f1379 K1392 (ninS ne_w_a0_bytes_a0 nin0)
            have f1401 := Exa.keep f1380 K1392
            have N1402 := Fr.app N1382 N1391
            have K1403 := Keep.trans K1383 K1392 (allS (Or.inl (List.mem_of_getElem? (i := 0) rfl)) all0)
            have Z1404 := Nat.le_trans Z1384 K1392.1
            refine k_ior K X1390 d6_107 (q := 108) rfl ?_
            refine k_putfield K X1390 rfl d6_108 (wd hw 24 rfl) f1395 f1401 (Or.inl (wd hw 25 rfl)) (wd hw 3 rfl) (ty := .int) (by decide) rfl rfl (q := 111) rfl ?_
            intro T1405 h1406 X1407 e1408 W1409
            have f1410 := Fld.same W1409 f1395
            have f1411 := Ary.other f1400 W1409 ne_w_a0_bytes_a0
            have f1412 := Exa.wr W1409 f1401
            have f1413 := Fld.other W1409 f1394 (Or.inr (slot_ne (Or.inr (wd hw 19 rfl)) (Or.inl (wd hw 25 rfl)) (by decide) (t := (.array .byte)) (t' := .int) (by decide) (by decide)))
            have f1414 := Fld.other W1409 f1396 (Or.inr (slot_ne (Or.inl (wd hw 36 rfl)) (Or.inl (wd hw 25 rfl)) (by decide) (t := .boolean) (t' := .int) (by decide) (by decide)))
            have f1415 := Fld.other W1409 f1397 (Or.inr (slot_ne (Or.inr (wd hw 23 rfl)) (Or.inl (wd hw 25 rfl)) (by decide) (t := .int) (t' := .int) (by decide) (by decide)))
            have f1416 := Fld.other W1409 f1398 (Or.inr (slot_ne (Or.inl (wd hw 21 rfl)) (Or.inl (wd hw 25 rfl)) (by decide) (t := .int) (t' := .int) (by decide) (by decide)))
            have f1417 := Fld.other W1409 f1399 (Or.inr (slot_ne (Or.inl (wd hw 17 rfl)) (Or.inl (wd hw 25 rfl)) (by decide) (t := .int) (t' := .int) (by decide) (by decide)))
            have N1418 := Fr.snoc X1407 N1402 ge_a0
            have K1419 := Keep.wr K1403 W1409 (Or.inl (List.mem_of_getElem? (i := 0) rfl))
            have Z1420 := Nat.le_trans Z1404 (Nat.le_of_eq (Wr.size W1409).symm)
            refine k_goto K X1407 d6_111 (by decide) (q := 72) rfl ?_
            refine k_aloadN K X1407 d6_72 rfl rfl (q := 73) rfl ?_
            refine k_getfield K X1407 e1408 d6_73 (wd hw 16 rfl) f1417 (q := 76) rfl ?_
            intro T1421 X1422 e1423
            refine k_ldc K X1422 d6_76 (wd hw 50 rfl) (q := 78) rfl ?_
            refine k_staticP K X1422 e1423 d6_78 (wd hw 42 rfl) (wd hw 43 rfl) (wd hw 44 rfl) (wd hw 45 rfl) (by decide) (rm7 l Z az hw [] (shlI (ushrI x1171 (1 : Int32)) (8 : Int32)) (16777216 : Int32) h1406) (W := 0) (by decide) (by decide) (by decide) (by decide) rfl pd_0 (argsL := [(.int (shlI (ushrI x1171 (1 : Int32)) (8 : Int32))), (.int (16777216 : Int32))]) (rest := []) rfl rfl rfl (Nat.le_of_eq rfl) (q := 81) rfl ?_
            intro T1424 X1425 e1426
            refine k_if_ge_y K X1425 d6_81 (own_dn hi1196 rfl hc1365 rfl) (by decide) (q := 114) rfl ?_
            exact J1350 T1424 _ _ _ _ _ X1425 N1418 e1426 K1419 Z1420 f1410 f1416 f1415 f1413 f1411 f1412 f1414 f1417 (by first | (simp only [if_pos hc1365]; done) | rfl) (by first | (simp only [if_pos hc1365]; done) | rfl) (by first | (simp only [if_pos hc1365]; done) | rfl)
        refine k_icmp_ne K X1224 d6_46 (by decide) (q := 62) rfl (q' := 49) rfl ?_ ?_
        · intro hc1427
          exact J1261 T1223 _ _ _ X1224 N1214 e1225 K1215 Z1216 f1207 f1208 f1209 f1210 f1211 f1212 f1213 f1206 (by first | (simp only [if_neg hc1427]; done) | rfl)
        · intro hc1427
          refine k_aloadN K X1224 d6_49 rfl rfl (q := 50) rfl ?_
          refine k_dup K X1224 d6_50 rfl (q := 51) rfl ?_
          refine k_getfield K X1224 e1225 d6_51 (wd hw 24 rfl) f1207 (q := 54) rfl ?_
          intro T1428 X1429 e1430
          refine k_aloadN K X1429 d6_54 rfl rfl (q := 55) rfl ?_
          refine k_getfield K X1429 e1430 d6_55 (wd hw 16 rfl) f1206 (q := 58) rfl ?_
          intro T1431 X1432 e1433
          refine k_isub K X1432 d6_58 (q := 59) rfl ?_
          refine k_putfield K X1432 e1433 d6_59 (wd hw 24 rfl) f1207 f1212 (Or.inl (wd hw 25 rfl)) (wd hw 3 rfl) (ty := .int) (by decide) rfl rfl (q := 62) rfl ?_
          intro T1434 h1435 X1436 e1437 W1438
          have f1439 := Fld.same W1438 f1207
          have f1440 := Fld.other W1438 f1208 (Or.inr (slot_ne (Or.inl (wd hw 21 rfl)) (Or.inl (wd hw 25 rfl)) (by decide) (t := .int) (t' := .int) (by decide) (by decide)))
          have f1441 := Fld.other W1438 f1209 (Or.inr (slot_ne (Or.inr (wd hw 23 rfl)) (Or.inl (wd hw 25 rfl)) (by decide) (t := .int) (t' := .int) (by decide) (by decide)))
          have f1442 := Fld.other W1438 f1210 (Or.inr (slot_ne (Or.inr (wd hw 19 rfl)) (Or.inl (wd hw 25 rfl)) (by decide) (t := (.array .byte)) (t' := .int) (by decide) (by decide)))
          have f1443 := Ary.other f1211 W1438 ne_w_a0_bytes_a0
          have f1444 := Exa.wr W1438 f1212
          have f1445 := Fld.other W1438 f1213 (Or.inr (slot_ne (Or.inl (wd hw 36 rfl)) (Or.inl (wd hw 25 rfl)) (by decide) (t := .boolean) (t' := .int) (by decide) (by decide)))
          have f1446 := Fld.other W1438 f1206 (Or.inr (slot_ne (Or.inl (wd hw 17 rfl)) (Or.inl (wd hw 25 rfl)) (by decide) (t := .int) (t' := .int) (by decide) (by decide)))
          have N1447 := Fr.snoc X1436 N1214 ge_a0
          have K1448 := Keep.wr K1215 W1438 (Or.inl (List.mem_of_getElem? (i := 0) rfl))
          have Z1449 := Nat.le_trans Z1216 (Nat.le_of_eq (Wr.size W1438).symm)
          exact J1261 T1434 _ _ _ X1436 N1447 e1437 K1448 Z1449 f1439 f1440 f1441 f1442 f1443 f1444 f1445 f1446 (by first | (simp only [if_pos hc1427]; done) | rfl)
      refine k_if_lt K X1224 d6_33 (by decide) (q := 40) rfl (q' := 36) rfl ?_ ?_
      · intro hc1450
        refine k_iconst K X1224 d6_40 (v := (0 : Int32)) rfl (q := 41) rfl ?_
        exact J1228 _ (by first | (simp only [if_pos hc1450]; done) | rfl)
      · intro hc1450
        refine k_iconst K X1224 d6_36 (v := (1 : Int32)) rfl (q := 37) rfl ?_
        refine k_goto K X1224 d6_37 (by decide) (q := 41) rfl ?_
        exact J1228 _ (by first | (simp only [if_neg hc1450]; done) | rfl)
  exact LP1197 p1.toInt.toNat (0 : Int64) (0 : Int32) w_a0_range w_a0_code w_a0_position _ T0 _ _ X0 N0 e0 K0 Z0 F_a0_range F_a0_code F_a0_position F_a0_end F_a0_bytes A_w_a0_bytes E_a0 F_a0_damaged (Or.inl rfl) (own_dv0 (ob_0)) rfl rfl rfl rfl rfl
theorem own_np (pos en : Int32) (n : Nat) (g : Nat → Int32) (r cd dm : Int32) : F_next_a0_position pos en n g r cd dm = pos + 1 := rfl
theorem own_U1 (c : Int32) (q : Int64) (r0 cd0 ps0 en : Int32) (n : Nat) (g : Nat → Int32) (dm : Int32) (x : Int64) (i r cd pos : Int32) : U6_6_1 c q r0 cd0 ps0 en n g dm x i r cd pos = i + 1 := by simp only [U6_6_1]
theorem own_U2 (c : Int32) (q : Int64) (r0 cd0 ps0 en : Int32) (n : Nat) (g : Nat → Int32) (dm : Int32) (x : Int64) (i r cd pos : Int32) : U6_6_2 c q r0 cd0 ps0 en n g dm x i r cd pos = if F_compareUnsigned (ushrI r 1) 16777216 < 0 then shlI (ushrI r 1) 8 else ushrI r 1 := by simp only [U6_6_2]
theorem own_U4 (c : Int32) (q : Int64) (r0 cd0 ps0 en : Int32) (n : Nat) (g : Nat → Int32) (dm : Int32) (x : Int64) (i r cd pos : Int32) : ∃ e, U6_6_4 c q r0 cd0 ps0 en n g dm x i r cd pos = if F_compareUnsigned (ushrI r 1) 16777216 < 0 then F_next_a0_position pos en n g (shlI (ushrI r 1) 8) e dm else pos := by
  simp only [U6_6_4]
  exact ⟨_, rfl⟩
theorem own_L4 (c : Int32) (q : Int64) (r0 cd0 ps0 en : Int32) (n : Nat) (g : Nat → Int32) (dm : Int32) (k : Nat) : ∀ (x : Int64) (i r cd pos : Int32), own_dv k i c r pos en n → (L6_6_4 k c q r0 cd0 ps0 en n g dm x i r cd pos).toInt = pos.toInt + (c.toInt / 8 - i.toInt / 8) := by
  induction k with
  | zero =>
    intro x i r cd pos h
    have h2 := h.2.1
    simp only [L6_6_4, iterN_z]
    have : i.toInt = c.toInt := by omega
    rw [this]; omega
  | succ k ih =>
    intro x i r cd pos h
    rw [L6_6_4s]
    obtain ⟨e, he⟩ := own_U4 c q r0 cd0 ps0 en n g dm x i r cd pos
    have hd := own_dvc h rfl (own_U1 c q r0 cd0 ps0 en n g dm x i r cd pos).symm (own_U2 c q r0 cd0 ps0 en n g dm x i r cd pos).symm he.symm
    rw [ih _ _ _ _ _ hd, own_U1, he]
    obtain ⟨a1, a2, a3, a4, a5, a6, a7⟩ := h
    have e1 : (1 : Int32).toInt = 1 := rfl
    have s := c_iadd i 1; have b := rng32 (i + 1)
    have s2 := c_iadd pos 1; have b2 := rng32 (pos + 1)
    have qq := own_rt1 ⟨i.toInt.toNat, by omega⟩
    simp only [← a4] at qq
    by_cases cc : F_compareUnsigned (ushrI r 1) 16777216 < 0
    · rw [if_pos cc, own_np]; have := qq.mp cc; omega
    · rw [if_neg cc]; have nz : ¬ (i.toInt.toNat % 8 = 7) := fun z => cc (qq.mpr z)
      omega
theorem own_3 (p : Int32) : 0 ≤ (p &&& 3).toInt ∧ (p &&& 3).toInt ≤ 3 ∧ ((25 : Int32) - (p &&& 3)).toInt = 25 - (p &&& 3).toInt := by
  have h := c_and p 3 (by decide); have e3 : (3 : Int32).toInt = 3 := rfl
  have s := c_isub 25 (p &&& 3); have b := rng32 (25 - (p &&& 3)); have e : (25 : Int32).toInt = 25 := rfl
  omega
theorem own_md (p m : Int32) (h : 0 < m.toInt) : 0 ≤ ((p &&& 2147483647) % m).toInt ∧ ((p &&& 2147483647) % m).toInt < m.toInt := by
  have a := (c_and p 2147483647 (by decide)).1
  have b := (c_irem (p &&& 2147483647) m m.toInt rfl).1 a
  have h3 := Int.emod_nonneg (p &&& 2147483647).toInt (show m.toInt ≠ 0 by omega)
  have h4 := Int.emod_lt_of_pos (p &&& 2147483647).toInt h
  omega
theorem own_bd (v en : Int32) (h0 : 0 ≤ v.toInt) (h1 : en.toInt ≤ 24) : v < en → ¬ v < 0 ∧ Int32.toNatClampNeg v < 24 := by
  intro h
  rw [own_ltI] at h
  have e0 : (0 : Int32).toInt = 0 := rfl
  refine ⟨by rw [own_ltI]; omega, ?_⟩
  simp only [Int32.toNatClampNeg]; omega
theorem own_5 (o l : Int32) (h0 : 0 ≤ o.toInt) (h1 : o.toInt ≤ 3) (h2 : 0 ≤ l.toInt) (h3 : l.toInt < 25 - o.toInt) : (o + l).toInt = o.toInt + l.toInt ∧ (o + 1).toInt = o.toInt + 1 ∧ (o + 1 + 1).toInt = o.toInt + 2 ∧ (o + 1 + 1 + 1).toInt = o.toInt + 3 ∧ (o + 1 + 1 + 1 + 1).toInt = o.toInt + 4 ∧ (o + 1 + 1 + 1 + 1 + 1).toInt = o.toInt + 5 := by
  have e1 : (1 : Int32).toInt = 1 := rfl
  have s0 := c_iadd o l; have b0 := rng32 (o + l)
  have s1 := c_iadd o 1; have b1 := rng32 (o + 1)
  have s2 := c_iadd (o + 1) 1; have b2 := rng32 (o + 1 + 1)
  have s3 := c_iadd (o + 1 + 1) 1; have b3 := rng32 (o + 1 + 1 + 1)
  have s4 := c_iadd (o + 1 + 1 + 1) 1; have b4 := rng32 (o + 1 + 1 + 1 + 1)
  have s5 := c_iadd (o + 1 + 1 + 1 + 1) 1; have b5 := rng32 (o + 1 + 1 + 1 + 1 + 1)
  omega
theorem own_ip (o l a b c d : Int32) (n : Nat) (g : Nat → Int32) (e : Int32) : F_init_a0_position o l a b c d n g e = o + 1 + 1 + 1 + 1 + 1 := by simp only [F_init_a0_position, own_np]
theorem own_ie (o l a b c d : Int32) (n : Nat) (g : Nat → Int32) (e : Int32) : F_init_a0_end o l a b c d n g e = o + l := by simp only [F_init_a0_end]
theorem own_ir (o l a b c d : Int32) (n : Nat) (g : Nat → Int32) (e : Int32) : F_init_a0_range o l a b c d n g e = -1 := by simp only [F_init_a0_range]
theorem pd_3 : parseMethodDescriptor "([BII)V" = some ⟨[(.array .byte), .int, .int], none⟩ := by decide +kernel
theorem pd_4 : parseMethodDescriptor "()Z" = some ⟨[], some .boolean⟩ := by decide +kernel
theorem pd_5 : parseMethodDescriptor "(IJ)J" = some ⟨[.int, .long], some .long⟩ := by decide +kernel
theorem ef_0 (p0 : Int32) (p1 : Int32) (p2 : Int32) (p3 : Int32) (q4 : Int64) : ∀ m : MethodId, entryFrame m #[(.int p0), (.int p1), (.int p2), (.int p3), (.long q4)] maxLocals = mkF m 0 #[.val (.int p0), .val (.int p1), .val (.int p2), .val (.int p3), .val (.long q4), .second, .unset, .unset, .unset, .unset, .unset, .unset, .unset, .unset, .unset] [] := by intro m; first | (simp [entryFrame, mkF, argsToLocals, Value.category, maxLocals]; done) | rfl
theorem pn_3 : plainName "com/example/tidelake/tidelake/hub/DecoderWholePinLaw" = true := by first | (simp [plainName, overriddenIn]; done) | decide +kernel
def F_law (p0 : Int32) (p1 : Int32) (p2 : Int32) (p3 : Int32) (q4 : Int64) : Int32 :=
  let v1544 : Int32 := (p0 &&& (3 : Int32))
  let v1545 : Int32 := ((p1 &&& (2147483647 : Int32)) % ((25 : Int32) - v1544))
  let v1546 : Int32 := ((p2 &&& (2147483647 : Int32)) % (65 : Int32))
  let d1548 : Int32 := (if (p3 &&& (1 : Int32)) = (0 : Int32) then (0 : Int32) else (1 : Int32))
  let v1588 : Int32 := (F_init_a0_code v1544 v1545 (0 : Int32) (0 : Int32) (0 : Int32) (0 : Int32) 24 (fun i => List.getD [(nar .byte (i2b (Int64.toInt32 q4))), (nar .byte (i2b (Int64.toInt32 (ushrL q4 (8 : Int32))))), (nar .byte (i2b (Int64.toInt32 (ushrL q4 (16 : Int32))))), (nar .byte (i2b (Int64.toInt32 (ushrL q4 (24 : Int32))))), (nar .byte (i2b (Int64.toInt32 (ushrL q4 (32 : Int32))))), (nar .byte (i2b (Int64.toInt32 (ushrL q4 (40 : Int32))))), (nar .byte (i2b (Int64.toInt32 (ushrL q4 (48 : Int32))))), (nar .byte (i2b (Int64.toInt32 (ushrL q4 (56 : Int32))))), (0 : Int32), (0 : Int32), (0 : Int32), (0 : Int32), (0 : Int32), (0 : Int32), (0 : Int32), (0 : Int32), (0 : Int32), (0 : Int32), (0 : Int32), (0 : Int32), (0 : Int32), (0 : Int32), (0 : Int32), (0 : Int32)] i 0) (0 : Int32))
  let v1589 : Int32 := (F_init_a0_end v1544 v1545 (0 : Int32) (0 : Int32) (0 : Int32) (0 : Int32) 24 (fun i => List.getD [(nar .byte (i2b (Int64.toInt32 q4))), (nar .byte (i2b (Int64.toInt32 (ushrL q4 (8 : Int32))))), (nar .byte (i2b (Int64.toInt32 (ushrL q4 (16 : Int32))))), (nar .byte (i2b (Int64.toInt32 (ushrL q4 (24 : Int32))))), (nar .byte (i2b (Int64.toInt32 (ushrL q4 (32 : Int32))))), (nar .byte (i2b (Int64.toInt32 (ushrL q4 (40 : Int32))))), (nar .byte (i2b (Int64.toInt32 (ushrL q4 (48 : Int32))))), (nar .byte (i2b (Int64.toInt32 (ushrL q4 (56 : Int32))))), (0 : Int32), (0 : Int32), (0 : Int32), (0 : Int32), (0 : Int32), (0 : Int32), (0 : Int32), (0 : Int32), (0 : Int32), (0 : Int32), (0 : Int32), (0 : Int32), (0 : Int32), (0 : Int32), (0 : Int32), (0 : Int32)] i 0) (0 : Int32))
  let v1590 : Int32 := (F_init_a0_position v1544 v1545 (0 : Int32) (0 : Int32) (0 : Int32) (0 : Int32) 24 (fun i => List.getD [(nar .byte (i2b (Int64.toInt32 q4))), (nar .byte (i2b (Int64.toInt32 (ushrL q4 (8 : Int32))))), (nar .byte (i2b (Int64.toInt32 (ushrL q4 (16 : Int32))))), (nar .byte (i2b (Int64.toInt32 (ushrL q4 (24 : Int32))))), (nar .byte (i2b (Int64.toInt32 (ushrL q4 (32 : Int32))))), (nar .byte (i2b (Int64.toInt32 (ushrL q4 (40 : Int32))))), (nar .byte (i2b (Int64.toInt32 (ushrL q4 (48 : Int32))))), (nar .byte (i2b (Int64.toInt32 (ushrL q4 (56 : Int32))))), (0 : Int32), (0 : Int32), (0 : Int32), (0 : Int32), (0 : Int32), (0 : Int32), (0 : Int32), (0 : Int32), (0 : Int32), (0 : Int32), (0 : Int32), (0 : Int32), (0 : Int32), (0 : Int32), (0 : Int32), (0 : Int32)] i 0) (0 : Int32))
  let v1591 : Int32 := (F_init_a0_range v1544 v1545 (0 : Int32) (0 : Int32) (0 : Int32) (0 : Int32) 24 (fun i => List.getD [(nar .byte (i2b (Int64.toInt32 q4))), (nar .byte (i2b (Int64.toInt32 (ushrL q4 (8 : Int32))))), (nar .byte (i2b (Int64.toInt32 (ushrL q4 (16 : Int32))))), (nar .byte (i2b (Int64.toInt32 (ushrL q4 (24 : Int32))))), (nar .byte (i2b (Int64.toInt32 (ushrL q4 (32 : Int32))))), (nar .byte (i2b (Int64.toInt32 (ushrL q4 (40 : Int32))))), (nar .byte (i2b (Int64.toInt32 (ushrL q4 (48 : Int32))))), (nar .byte (i2b (Int64.toInt32 (ushrL q4 (56 : Int32))))), (0 : Int32), (0 : Int32), (0 : Int32), (0 : Int32), (0 : Int32), (0 : Int32), (0 : Int32), (0 : Int32), (0 : Int32), (0 : Int32), (0 : Int32), (0 : Int32), (0 : Int32), (0 : Int32), (0 : Int32), (0 : Int32)] i 0) (0 : Int32))
  let d1596 : Int32 := (if v1545 < (5 : Int32) then (0 : Int32) else (1 : Int32))
  let d1599 : Int32 := (if (F_whole (0 : Int32) v1590 v1589) = d1596 then (1 : Int32) else (0 : Int32))
  let v1618 : Int32 := (F_direct_a0_code v1546 (0 : Int64) v1591 v1588 v1590 v1589 24 (fun i => List.getD [(nar .byte (i2b (Int64.toInt32 q4))), (nar .byte (i2b (Int64.toInt32 (ushrL q4 (8 : Int32))))), (nar .byte (i2b (Int64.toInt32 (ushrL q4 (16 : Int32))))), (nar .byte (i2b (Int64.toInt32 (ushrL q4 (24 : Int32))))), (nar .byte (i2b (Int64.toInt32 (ushrL q4 (32 : Int32))))), (nar .byte (i2b (Int64.toInt32 (ushrL q4 (40 : Int32))))), (nar .byte (i2b (Int64.toInt32 (ushrL q4 (48 : Int32))))), (nar .byte (i2b (Int64.toInt32 (ushrL q4 (56 : Int32))))), (0 : Int32), (0 : Int32), (0 : Int32), (0 : Int32), (0 : Int32), (0 : Int32), (0 : Int32), (0 : Int32), (0 : Int32), (0 : Int32), (0 : Int32), (0 : Int32), (0 : Int32), (0 : Int32), (0 : Int32), (0 : Int32)] i 0) (0 : Int32))
  let v1619 : Int32 := (F_direct_a0_position v1546 (0 : Int64) v1591 v1588 v1590 v1589 24 (fun i => List.getD [(nar .byte (i2b (Int64.toInt32 q4))), (nar .byte (i2b (Int64.toInt32 (ushrL q4 (8 : Int32))))), (nar .byte (i2b (Int64.toInt32 (ushrL q4 (16 : Int32))))), (nar .byte (i2b (Int64.toInt32 (ushrL q4 (24 : Int32))))), (nar .byte (i2b (Int64.toInt32 (ushrL q4 (32 : Int32))))), (nar .byte (i2b (Int64.toInt32 (ushrL q4 (40 : Int32))))), (nar .byte (i2b (Int64.toInt32 (ushrL q4 (48 : Int32))))), (nar .byte (i2b (Int64.toInt32 (ushrL q4 (56 : Int32))))), (0 : Int32), (0 : Int32), (0 : Int32), (0 : Int32), (0 : Int32), (0 : Int32), (0 : Int32), (0 : Int32), (0 : Int32), (0 : Int32), (0 : Int32), (0 : Int32), (0 : Int32), (0 : Int32), (0 : Int32), (0 : Int32)] i 0) (0 : Int32))
  let v1620 : Int32 := (F_direct_a0_range v1546 (0 : Int64) v1591 v1588 v1590 v1589 24 (fun i => List.getD [(nar .byte (i2b (Int64.toInt32 q4))), (nar .byte (i2b (Int64.toInt32 (ushrL q4 (8 : Int32))))), (nar .byte (i2b (Int64.toInt32 (ushrL q4 (16 : Int32))))), (nar .byte (i2b (Int64.toInt32 (ushrL q4 (24 : Int32))))), (nar .byte (i2b (Int64.toInt32 (ushrL q4 (32 : Int32))))), (nar .byte (i2b (Int64.toInt32 (ushrL q4 (40 : Int32))))), (nar .byte (i2b (Int64.toInt32 (ushrL q4 (48 : Int32))))), (nar .byte (i2b (Int64.toInt32 (ushrL q4 (56 : Int32))))), (0 : Int32), (0 : Int32), (0 : Int32), (0 : Int32), (0 : Int32), (0 : Int32), (0 : Int32), (0 : Int32), (0 : Int32), (0 : Int32), (0 : Int32), (0 : Int32), (0 : Int32), (0 : Int32), (0 : Int32), (0 : Int32)] i 0) (0 : Int32))
  let d1639 : Int32 := (if d1548 = (0 : Int32) then (0 : Int32) else (1 : Int32))
  let d1659 : Int32 := (if d1548 = (0 : Int32) then (if v1545 < ((5 : Int32) + (v1546 / (8 : Int32))) then (0 : Int32) else (1 : Int32)) else (0 : Int32))
  let d1665 : Int32 := (if (F_whole d1639 v1619 v1589) = d1659 then (1 : Int32) else (0 : Int32))
  let d1669 : Int32 := (if d1599 = (0 : Int32) then (0 : Int32) else (if d1665 = (0 : Int32) then (0 : Int32) else (1 : Int32)))
  (nar .boolean d1669)
theorem own_ob_0 (p0 : Int32) (p1 : Int32) (p2 : Int32) (p3 : Int32) (q4 : Int64) : ∀ (v1544 : Int32), (p0 &&& (3 : Int32)) = v1544 → ¬ ((25 : Int32) - v1544) = (0 : Int32) := by
  have O := own_3 p0
  intros; subst_vars
  intro z
  have := own_eqI.mp z; have e : (0 : Int32).toInt = 0 := rfl
  omega
theorem own_ob_1 (p0 : Int32) (p1 : Int32) (p2 : Int32) (p3 : Int32) (q4 : Int64) : ∀ (v1544 : Int32) (v1545 : Int32), (p0 &&& (3 : Int32)) = v1544 → ((p1 &&& (2147483647 : Int32)) % ((25 : Int32) - v1544)) = v1545 → ((v1544 < (v1544 + v1545) → ¬ v1544 < (0 : Int32) ∧ Int32.toNatClampNeg v1544 < 24)) := by
  have O := own_3 p0
  have Ln := own_md p1 (25 - (p0 &&& 3)) (by omega)
  rw [O.2.2] at Ln
  have N := own_md p2 65 (by decide)
  have V := own_5 (p0 &&& 3) ((p1 &&& 2147483647) % (25 - (p0 &&& 3))) O.1 O.2.1 Ln.1 Ln.2
  intros; subst_vars
  try simp only [own_np] at *
  rename_i hh
  revert hh
  exact own_bd _ _ (by omega) (by omega)
theorem own_ob_2 (p0 : Int32) (p1 : Int32) (p2 : Int32) (p3 : Int32) (q4 : Int64) : ∀ (v1544 : Int32) (v1545 : Int32), (p0 &&& (3 : Int32)) = v1544 → ((p1 &&& (2147483647 : Int32)) % ((25 : Int32) - v1544)) = v1545 → (∀ (v771 : Int32) (v772 : Int32), (v1544 + v1545) = v771 → (F_next_a0_position v1544 (v1544 + v1545) 24 (fun i => List.getD [(nar .byte (i2b (Int64.toInt32 q4))), (nar .byte (i2b (Int64.toInt32 (ushrL q4 (8 : Int32))))), (nar .byte (i2b (Int64.toInt32 (ushrL q4 (16 : Int32))))), (nar .byte (i2b (Int64.toInt32 (ushrL q4 (24 : Int32))))), (nar .byte (i2b (Int64.toInt32 (ushrL q4 (32 : Int32))))), (nar .byte (i2b (Int64.toInt32 (ushrL q4 (40 : Int32))))), (nar .byte (i2b (Int64.toInt32 (ushrL q4 (48 : Int32))))), (nar .byte (i2b (Int64.toInt32 (ushrL q4 (56 : Int32))))), (0 : Int32), (0 : Int32), (0 : Int32), (0 : Int32), (0 : Int32), (0 : Int32), (0 : Int32), (0 : Int32), (0 : Int32), (0 : Int32), (0 : Int32), (0 : Int32), (0 : Int32), (0 : Int32), (0 : Int32), (0 : Int32)] i 0) (-1 : Int32) (0 : Int32) (0 : Int32)) = v772 → (v772 < v771 → ¬ v772 < (0 : Int32) ∧ Int32.toNatClampNeg v772 < 24)) := by
  have O := own_3 p0
  have Ln := own_md p1 (25 - (p0 &&& 3)) (by omega)
  rw [O.2.2] at Ln
  have N := own_md p2 65 (by decide)
  have V := own_5 (p0 &&& 3) ((p1 &&& 2147483647) % (25 - (p0 &&& 3))) O.1 O.2.1 Ln.1 Ln.2
  intros; subst_vars
  try simp only [own_np] at *
  rename_i hh
  revert hh
  exact own_bd _ _ (by omega) (by omega)
theorem own_ob_3 (p0 : Int32) (p1 : Int32) (p2 : Int32) (p3 : Int32) (q4 : Int64) : ∀ (v1544 : Int32) (v1545 : Int32), (p0 &&& (3 : Int32)) = v1544 → ((p1 &&& (2147483647 : Int32)) % ((25 : Int32) - v1544)) = v1545 → (∀ (v771 : Int32) (v772 : Int32) (v810 : Int32), (v1544 + v1545) = v771 → (F_next_a0_position v1544 (v1544 + v1545) 24 (fun i => List.getD [(nar .byte (i2b (Int64.toInt32 q4))), (nar .byte (i2b (Int64.toInt32 (ushrL q4 (8 : Int32))))), (nar .byte (i2b (Int64.toInt32 (ushrL q4 (16 : Int32))))), (nar .byte (i2b (Int64.toInt32 (ushrL q4 (24 : Int32))))), (nar .byte (i2b (Int64.toInt32 (ushrL q4 (32 : Int32))))), (nar .byte (i2b (Int64.toInt32 (ushrL q4 (40 : Int32))))), (nar .byte (i2b (Int64.toInt32 (ushrL q4 (48 : Int32))))), (nar .byte (i2b (Int64.toInt32 (ushrL q4 (56 : Int32))))), (0 : Int32), (0 : Int32), (0 : Int32), (0 : Int32), (0 : Int32), (0 : Int32), (0 : Int32), (0 : Int32), (0 : Int32), (0 : Int32), (0 : Int32), (0 : Int32), (0 : Int32), (0 : Int32), (0 : Int32), (0 : Int32)] i 0) (-1 : Int32) (0 : Int32) (0 : Int32)) = v772 → (F_next_a0_position v772 v771 24 (fun i => List.getD [(nar .byte (i2b (Int64.toInt32 q4))), (nar .byte (i2b (Int64.toInt32 (ushrL q4 (8 : Int32))))), (nar .byte (i2b (Int64.toInt32 (ushrL q4 (16 : Int32))))), (nar .byte (i2b (Int64.toInt32 (ushrL q4 (24 : Int32))))), (nar .byte (i2b (Int64.toInt32 (ushrL q4 (32 : Int32))))), (nar .byte (i2b (Int64.toInt32 (ushrL q4 (40 : Int32))))), (nar .byte (i2b (Int64.toInt32 (ushrL q4 (48 : Int32))))), (nar .byte (i2b (Int64.toInt32 (ushrL q4 (56 : Int32))))), (0 : Int32), (0 : Int32), (0 : Int32), (0 : Int32), (0 : Int32), (0 : Int32), (0 : Int32), (0 : Int32), (0 : Int32), (0 : Int32), (0 : Int32), (0 : Int32), (0 : Int32), (0 : Int32), (0 : Int32), (0 : Int32)] i 0) (-1 : Int32) ((shlI (0 : Int32) (8 : Int32)) ||| (F_next v1544 (v1544 + v1545) 24 (fun i => List.getD [(nar .byte (i2b (Int64.toInt32 q4))), (nar .byte (i2b (Int64.toInt32 (ushrL q4 (8 : Int32))))), (nar .byte (i2b (Int64.toInt32 (ushrL q4 (16 : Int32))))), (nar .byte (i2b (Int64.toInt32 (ushrL q4 (24 : Int32))))), (nar .byte (i2b (Int64.toInt32 (ushrL q4 (32 : Int32))))), (nar .byte (i2b (Int64.toInt32 (ushrL q4 (40 : Int32))))), (nar .byte (i2b (Int64.toInt32 (ushrL q4 (48 : Int32))))), (nar .byte (i2b (Int64.toInt32 (ushrL q4 (56 : Int32))))), (0 : Int32), (0 : Int32), (0 : Int32), (0 : Int32), (0 : Int32), (0 : Int32), (0 : Int32), (0 : Int32), (0 : Int32), (0 : Int32), (0 : Int32), (0 : Int32), (0 : Int32), (0 : Int32), (0 : Int32), (0 : Int32)] i 0) (-1 : Int32) (0 : Int32) (0 : Int32))) (0 : Int32)) = v810 → (v810 < v771 → ¬ v810 < (0 : Int32) ∧ Int32.toNatClampNeg v810 < 24)) := by
  have O := own_3 p0
  have Ln := own_md p1 (25 - (p0 &&& 3)) (by omega)
  rw [O.2.2] at Ln
  have N := own_md p2 65 (by decide)
  have V := own_5 (p0 &&& 3) ((p1 &&& 2147483647) % (25 - (p0 &&& 3))) O.1 O.2.1 Ln.1 Ln.2
  intros; subst_vars
  try simp only [own_np] at *
  rename_i hh
  revert hh
  exact own_bd _ _ (by omega) (by omega)
theorem own_ob_4 (p0 : Int32) (p1 : Int32) (p2 : Int32) (p3 : Int32) (q4 : Int64) : ∀ (v1544 : Int32) (v1545 : Int32), (p0 &&& (3 : Int32)) = v1544 → ((p1 &&& (2147483647 : Int32)) % ((25 : Int32) - v1544)) = v1545 → (∀ (v771 : Int32) (v772 : Int32) (v810 : Int32) (v848 : Int32), (v1544 + v1545) = v771 → (F_next_a0_position v1544 (v1544 + v1545) 24 (fun i => List.getD [(nar .byte (i2b (Int64.toInt32 q4))), (nar .byte (i2b (Int64.toInt32 (ushrL q4 (8 : Int32))))), (nar .byte (i2b (Int64.toInt32 (ushrL q4 (16 : Int32))))), (nar .byte (i2b (Int64.toInt32 (ushrL q4 (24 : Int32))))), (nar .byte (i2b (Int64.toInt32 (ushrL q4 (32 : Int32))))), (nar .byte (i2b (Int64.toInt32 (ushrL q4 (40 : Int32))))), (nar .byte (i2b (Int64.toInt32 (ushrL q4 (48 : Int32))))), (nar .byte (i2b (Int64.toInt32 (ushrL q4 (56 : Int32))))), (0 : Int32), (0 : Int32), (0 : Int32), (0 : Int32), (0 : Int32), (0 : Int32), (0 : Int32), (0 : Int32), (0 : Int32), (0 : Int32), (0 : Int32), (0 : Int32), (0 : Int32), (0 : Int32), (0 : Int32), (0 : Int32)] i 0) (-1 : Int32) (0 : Int32) (0 : Int32)) = v772 → (F_next_a0_position v772 v771 24 (fun i => List.getD [(nar .byte (i2b (Int64.toInt32 q4))), (nar .byte (i2b (Int64.toInt32 (ushrL q4 (8 : Int32))))), (nar .byte (i2b (Int64.toInt32 (ushrL q4 (16 : Int32))))), (nar .byte (i2b (Int64.toInt32 (ushrL q4 (24 : Int32))))), (nar .byte (i2b (Int64.toInt32 (ushrL q4 (32 : Int32))))), (nar .byte (i2b (Int64.toInt32 (ushrL q4 (40 : Int32))))), (nar .byte (i2b (Int64.toInt32 (ushrL q4 (48 : Int32))))), (nar .byte (i2b (Int64.toInt32 (ushrL q4 (56 : Int32))))), (0 : Int32), (0 : Int32), (0 : Int32), (0 : Int32), (0 : Int32), (0 : Int32), (0 : Int32), (0 : Int32), (0 : Int32), (0 : Int32), (0 : Int32), (0 : Int32), (0 : Int32), (0 : Int32), (0 : Int32), (0 : Int32)] i 0) (-1 : Int32) ((shlI (0 : Int32) (8 : Int32)) ||| (F_next v1544 (v1544 + v1545) 24 (fun i => List.getD [(nar .byte (i2b (Int64.toInt32 q4))), (nar .byte (i2b (Int64.toInt32 (ushrL q4 (8 : Int32))))), (nar .byte (i2b (Int64.toInt32 (ushrL q4 (16 : Int32))))), (nar .byte (i2b (Int64.toInt32 (ushrL q4 (24 : Int32))))), (nar .byte (i2b (Int64.toInt32 (ushrL q4 (32 : Int32))))), (nar .byte (i2b (Int64.toInt32 (ushrL q4 (40 : Int32))))), (nar .byte (i2b (Int64.toInt32 (ushrL q4 (48 : Int32))))), (nar .byte (i2b (Int64.toInt32 (ushrL q4 (56 : Int32))))), (0 : Int32), (0 : Int32), (0 : Int32), (0 : Int32), (0 : Int32), (0 : Int32), (0 : Int32), (0 : Int32), (0 : Int32), (0 : Int32), (0 : Int32), (0 : Int32), (0 : Int32), (0 : Int32), (0 : Int32), (0 : Int32)] i 0) (-1 : Int32) (0 : Int32) (0 : Int32))) (0 : Int32)) = v810 → (F_next_a0_position v810 v771 24 (fun i => List.getD [(nar .byte (i2b (Int64.toInt32 q4))), (nar .byte (i2b (Int64.toInt32 (ushrL q4 (8 : Int32))))), (nar .byte (i2b (Int64.toInt32 (ushrL q4 (16 : Int32))))), (nar .byte (i2b (Int64.toInt32 (ushrL q4 (24 : Int32))))), (nar .byte (i2b (Int64.toInt32 (ushrL q4 (32 : Int32))))), (nar .byte (i2b (Int64.toInt32 (ushrL q4 (40 : Int32))))), (nar .byte (i2b (Int64.toInt32 (ushrL q4 (48 : Int32))))), (nar .byte (i2b (Int64.toInt32 (ushrL q4 (56 : Int32))))), (0 : Int32), (0 : Int32), (0 : Int32), (0 : Int32), (0 : Int32), (0 : Int32), (0 : Int32), (0 : Int32), (0 : Int32), (0 : Int32), (0 : Int32), (0 : Int32), (0 : Int32), (0 : Int32), (0 : Int32), (0 : Int32)] i 0) (-1 : Int32) ((shlI ((shlI (0 : Int32) (8 : Int32)) ||| (F_next v1544 (v1544 + v1545) 24 (fun i => List.getD [(nar .byte (i2b (Int64.toInt32 q4))), (nar .byte (i2b (Int64.toInt32 (ushrL q4 (8 : Int32))))), (nar .byte (i2b (Int64.toInt32 (ushrL q4 (16 : Int32))))), (nar .byte (i2b (Int64.toInt32 (ushrL q4 (24 : Int32))))), (nar .byte (i2b (Int64.toInt32 (ushrL q4 (32 : Int32))))), (nar .byte (i2b (Int64.toInt32 (ushrL q4 (40 : Int32))))), (nar .byte (i2b (Int64.toInt32 (ushrL q4 (48 : Int32))))), (nar .byte (i2b (Int64.toInt32 (ushrL q4 (56 : Int32))))), (0 : Int32), (0 : Int32), (0 : Int32), (0 : Int32), (0 : Int32), (0 : Int32), (0 : Int32), (0 : Int32), (0 : Int32), (0 : Int32), (0 : Int32), (0 : Int32), (0 : Int32), (0 : Int32), (0 : Int32), (0 : Int32)] i 0) (-1 : Int32) (0 : Int32) (0 : Int32))) (8 : Int32)) ||| (F_next v772 v771 24 (fun i => List.getD [(nar .byte (i2b (Int64.toInt32 q4))), (nar .byte (i2b (Int64.toInt32 (ushrL q4 (8 : Int32))))), (nar .byte (i2b (Int64.toInt32 (ushrL q4 (16 : Int32))))), (nar .byte (i2b (Int64.toInt32 (ushrL q4 (24 : Int32))))), (nar .byte (i2b (Int64.toInt32 (ushrL q4 (32 : Int32))))), (nar .byte (i2b (Int64.toInt32 (ushrL q4 (40 : Int32))))), (nar .byte (i2b (Int64.toInt32 (ushrL q4 (48 : Int32))))), (nar .byte (i2b (Int64.toInt32 (ushrL q4 (56 : Int32))))), (0 : Int32), (0 : Int32), (0 : Int32), (0 : Int32), (0 : Int32), (0 : Int32), (0 : Int32), (0 : Int32), (0 : Int32), (0 : Int32), (0 : Int32), (0 : Int32), (0 : Int32), (0 : Int32), (0 : Int32), (0 : Int32)] i 0) (-1 : Int32) ((shlI (0 : Int32) (8 : Int32)) ||| (F_next v1544 (v1544 + v1545) 24 (fun i => List.getD [(nar .byte (i2b (Int64.toInt32 q4))), (nar .byte (i2b (Int64.toInt32 (ushrL q4 (8 : Int32))))), (nar .byte (i2b (Int64.toInt32 (ushrL q4 (16 : Int32))))), (nar .byte (i2b (Int64.toInt32 (ushrL q4 (24 : Int32))))), (nar .byte (i2b (Int64.toInt32 (ushrL q4 (32 : Int32))))), (nar .byte (i2b (Int64.toInt32 (ushrL q4 (40 : Int32))))), (nar .byte (i2b (Int64.toInt32 (ushrL q4 (48 : Int32))))), (nar .byte (i2b (Int64.toInt32 (ushrL q4 (56 : Int32))))), (0 : Int32), (0 : Int32), (0 : Int32), (0 : Int32), (0 : Int32), (0 : Int32), (0 : Int32), (0 : Int32), (0 : Int32), (0 : Int32), (0 : Int32), (0 : Int32), (0 : Int32), (0 : Int32), (0 : Int32), (0 : Int32)] i 0) (-1 : Int32) (0 : Int32) (0 : Int32))) (0 : Int32))) (0 : Int32)) = v848 → (v848 < v771 → ¬ v848 < (0 : Int32) ∧ Int32.toNatClampNeg v848 < 24)) := by
  have O := own_3 p0
  have Ln := own_md p1 (25 - (p0 &&& 3)) (by omega)
  rw [O.2.2] at Ln
  have N := own_md p2 65 (by decide)
  have V := own_5 (p0 &&& 3) ((p1 &&& 2147483647) % (25 - (p0 &&& 3))) O.1 O.2.1 Ln.1 Ln.2
  intros; subst_vars
  try simp only [own_np] at *
  rename_i hh
  revert hh
  exact own_bd _ _ (by omega) (by omega)
theorem own_ob_5 (p0 : Int32) (p1 : Int32) (p2 : Int32) (p3 : Int32) (q4 : Int64) : ∀ (v1544 : Int32) (v1545 : Int32), (p0 &&& (3 : Int32)) = v1544 → ((p1 &&& (2147483647 : Int32)) % ((25 : Int32) - v1544)) = v1545 → (∀ (v771 : Int32) (v772 : Int32) (v810 : Int32) (v848 : Int32) (v886 : Int32), (v1544 + v1545) = v771 → (F_next_a0_position v1544 (v1544 + v1545) 24 (fun i => List.getD [(nar .byte (i2b (Int64.toInt32 q4))), (nar .byte (i2b (Int64.toInt32 (ushrL q4 (8 : Int32))))), (nar .byte (i2b (Int64.toInt32 (ushrL q4 (16 : Int32))))), (nar .byte (i2b (Int64.toInt32 (ushrL q4 (24 : Int32))))), (nar .byte (i2b (Int64.toInt32 (ushrL q4 (32 : Int32))))), (nar .byte (i2b (Int64.toInt32 (ushrL q4 (40 : Int32))))), (nar .byte (i2b (Int64.toInt32 (ushrL q4 (48 : Int32))))), (nar .byte (i2b (Int64.toInt32 (ushrL q4 (56 : Int32))))), (0 : Int32), (0 : Int32), (0 : Int32), (0 : Int32), (0 : Int32), (0 : Int32), (0 : Int32), (0 : Int32), (0 : Int32), (0 : Int32), (0 : Int32), (0 : Int32), (0 : Int32), (0 : Int32), (0 : Int32), (0 : Int32)] i 0) (-1 : Int32) (0 : Int32) (0 : Int32)) = v772 → (F_next_a0_position v772 v771 24 (fun i => List.getD [(nar .byte (i2b (Int64.toInt32 q4))), (nar .byte (i2b (Int64.toInt32 (ushrL q4 (8 : Int32))))), (nar .byte (i2b (Int64.toInt32 (ushrL q4 (16 : Int32))))), (nar .byte (i2b (Int64.toInt32 (ushrL q4 (24 : Int32))))), (nar .byte (i2b (Int64.toInt32 (ushrL q4 (32 : Int32))))), (nar .byte (i2b (Int64.toInt32 (ushrL q4 (40 : Int32))))), (nar .byte (i2b (Int64.toInt32 (ushrL q4 (48 : Int32))))), (nar .byte (i2b (Int64.toInt32 (ushrL q4 (56 : Int32))))), (0 : Int32), (0 : Int32), (0 : Int32), (0 : Int32), (0 : Int32), (0 : Int32), (0 : Int32), (0 : Int32), (0 : Int32), (0 : Int32), (0 : Int32), (0 : Int32), (0 : Int32), (0 : Int32), (0 : Int32), (0 : Int32)] i 0) (-1 : Int32) ((shlI (0 : Int32) (8 : Int32)) ||| (F_next v1544 (v1544 + v1545) 24 (fun i => List.getD [(nar .byte (i2b (Int64.toInt32 q4))), (nar .byte (i2b (Int64.toInt32 (ushrL q4 (8 : Int32))))), (nar .byte (i2b (Int64.toInt32 (ushrL q4 (16 : Int32))))), (nar .byte (i2b (Int64.toInt32 (ushrL q4 (24 : Int32))))), (nar .byte (i2b (Int64.toInt32 (ushrL q4 (32 : Int32))))), (nar .byte (i2b (Int64.toInt32 (ushrL q4 (40 : Int32))))), (nar .byte (i2b (Int64.toInt32 (ushrL q4 (48 : Int32))))), (nar .byte (i2b (Int64.toInt32 (ushrL q4 (56 : Int32))))), (0 : Int32), (0 : Int32), (0 : Int32), (0 : Int32), (0 : Int32), (0 : Int32), (0 : Int32), (0 : Int32), (0 : Int32), (0 : Int32), (0 : Int32), (0 : Int32), (0 : Int32), (0 : Int32), (0 : Int32), (0 : Int32)] i 0) (-1 : Int32) (0 : Int32) (0 : Int32))) (0 : Int32)) = v810 → (F_next_a0_position v810 v771 24 (fun i => List.getD [(nar .byte (i2b (Int64.toInt32 q4))), (nar .byte (i2b (Int64.toInt32 (ushrL q4 (8 : Int32))))), (nar .byte (i2b (Int64.toInt32 (ushrL q4 (16 : Int32))))), (nar .byte (i2b (Int64.toInt32 (ushrL q4 (24 : Int32))))), (nar .byte (i2b (Int64.toInt32 (ushrL q4 (32 : Int32))))), (nar .byte (i2b (Int64.toInt32 (ushrL q4 (40 : Int32))))), (nar .byte (i2b (Int64.toInt32 (ushrL q4 (48 : Int32))))), (nar .byte (i2b (Int64.toInt32 (ushrL q4 (56 : Int32))))), (0 : Int32), (0 : Int32), (0 : Int32), (0 : Int32), (0 : Int32), (0 : Int32), (0 : Int32), (0 : Int32), (0 : Int32), (0 : Int32), (0 : Int32), (0 : Int32), (0 : Int32), (0 : Int32), (0 : Int32), (0 : Int32)] i 0) (-1 : Int32) ((shlI ((shlI (0 : Int32) (8 : Int32)) ||| (F_next v1544 (v1544 + v1545) 24 (fun i => List.getD [(nar .byte (i2b (Int64.toInt32 q4))), (nar .byte (i2b (Int64.toInt32 (ushrL q4 (8 : Int32))))), (nar .byte (i2b (Int64.toInt32 (ushrL q4 (16 : Int32))))), (nar .byte (i2b (Int64.toInt32 (ushrL q4 (24 : Int32))))), (nar .byte (i2b (Int64.toInt32 (ushrL q4 (32 : Int32))))), (nar .byte (i2b (Int64.toInt32 (ushrL q4 (40 : Int32))))), (nar .byte (i2b (Int64.toInt32 (ushrL q4 (48 : Int32))))), (nar .byte (i2b (Int64.toInt32 (ushrL q4 (56 : Int32))))), (0 : Int32), (0 : Int32), (0 : Int32), (0 : Int32), (0 : Int32), (0 : Int32), (0 : Int32), (0 : Int32), (0 : Int32), (0 : Int32), (0 : Int32), (0 : Int32), (0 : Int32), (0 : Int32), (0 : Int32), (0 : Int32)] i 0) (-1 : Int32) (0 : Int32) (0 : Int32))) (8 : Int32)) ||| (F_next v772 v771 24 (fun i => List.getD [(nar .byte (i2b (Int64.toInt32 q4))), (nar .byte (i2b (Int64.toInt32 (ushrL q4 (8 : Int32))))), (nar .byte (i2b (Int64.toInt32 (ushrL q4 (16 : Int32))))), (nar .byte (i2b (Int64.toInt32 (ushrL q4 (24 : Int32))))), (nar .byte (i2b (Int64.toInt32 (ushrL q4 (32 : Int32))))), (nar .byte (i2b (Int64.toInt32 (ushrL q4 (40 : Int32))))), (nar .byte (i2b (Int64.toInt32 (ushrL q4 (48 : Int32))))), (nar .byte (i2b (Int64.toInt32 (ushrL q4 (56 : Int32))))), (0 : Int32), (0 : Int32), (0 : Int32), (0 : Int32), (0 : Int32), (0 : Int32), (0 : Int32), (0 : Int32), (0 : Int32), (0 : Int32), (0 : Int32), (0 : Int32), (0 : Int32), (0 : Int32), (0 : Int32), (0 : Int32)] i 0) (-1 : Int32) ((shlI (0 : Int32) (8 : Int32)) ||| (F_next v1544 (v1544 + v1545) 24 (fun i => List.getD [(nar .byte (i2b (Int64.toInt32 q4))), (nar .byte (i2b (Int64.toInt32 (ushrL q4 (8 : Int32))))), (nar .byte (i2b (Int64.toInt32 (ushrL q4 (16 : Int32))))), (nar .byte (i2b (Int64.toInt32 (ushrL q4 (24 : Int32))))), (nar .byte (i2b (Int64.toInt32 (ushrL q4 (32 : Int32))))), (nar .byte (i2b (Int64.toInt32 (ushrL q4 (40 : Int32))))), (nar .byte (i2b (Int64.toInt32 (ushrL q4 (48 : Int32))))), (nar .byte (i2b (Int64.toInt32 (ushrL q4 (56 : Int32))))), (0 : Int32), (0 : Int32), (0 : Int32), (0 : Int32), (0 : Int32), (0 : Int32), (0 : Int32), (0 : Int32), (0 : Int32), (0 : Int32), (0 : Int32), (0 : Int32), (0 : Int32), (0 : Int32), (0 : Int32), (0 : Int32)] i 0) (-1 : Int32) (0 : Int32) (0 : Int32))) (0 : Int32))) (0 : Int32)) = v848 → (F_next_a0_position v848 v771 24 (fun i => List.getD [(nar .byte (i2b (Int64.toInt32 q4))), (nar .byte (i2b (Int64.toInt32 (ushrL q4 (8 : Int32))))), (nar .byte (i2b (Int64.toInt32 (ushrL q4 (16 : Int32))))), (nar .byte (i2b (Int64.toInt32 (ushrL q4 (24 : Int32))))), (nar .byte (i2b (Int64.toInt32 (ushrL q4 (32 : Int32))))), (nar .byte (i2b (Int64.toInt32 (ushrL q4 (40 : Int32))))), (nar .byte (i2b (Int64.toInt32 (ushrL q4 (48 : Int32))))), (nar .byte (i2b (Int64.toInt32 (ushrL q4 (56 : Int32))))), (0 : Int32), (0 : Int32), (0 : Int32), (0 : Int32), (0 : Int32), (0 : Int32), (0 : Int32), (0 : Int32), (0 : Int32), (0 : Int32), (0 : Int32), (0 : Int32), (0 : Int32), (0 : Int32), (0 : Int32), (0 : Int32)] i 0) (-1 : Int32) ((shlI ((shlI ((shlI (0 : Int32) (8 : Int32)) ||| (F_next v1544 (v1544 + v1545) 24 (fun i => List.getD [(nar .byte (i2b (Int64.toInt32 q4))), (nar .byte (i2b (Int64.toInt32 (ushrL q4 (8 : Int32))))), (nar .byte (i2b (Int64.toInt32 (ushrL q4 (16 : Int32))))), (nar .byte (i2b (Int64.toInt32 (ushrL q4 (24 : Int32))))), (nar .byte (i2b (Int64.toInt32 (ushrL q4 (32 : Int32))))), (nar .byte (i2b (Int64.toInt32 (ushrL q4 (40 : Int32))))), (nar .byte (i2b (Int64.toInt32 (ushrL q4 (48 : Int32))))), (nar .byte (i2b (Int64.toInt32 (ushrL q4 (56 : Int32))))), (0 : Int32), (0 : Int32), (0 : Int32), (0 : Int32), (0 : Int32), (0 : Int32), (0 : Int32), (0 : Int32), (0 : Int32), (0 : Int32), (0 : Int32), (0 : Int32), (0 : Int32), (0 : Int32), (0 : Int32), (0 : Int32)] i 0) (-1 : Int32) (0 : Int32) (0 : Int32))) (8 : Int32)) ||| (F_next v772 v771 24 (fun i => List.getD [(nar .byte (i2b (Int64.toInt32 q4))), (nar .byte (i2b (Int64.toInt32 (ushrL q4 (8 : Int32))))), (nar .byte (i2b (Int64.toInt32 (ushrL q4 (16 : Int32))))), (nar .byte (i2b (Int64.toInt32 (ushrL q4 (24 : Int32))))), (nar .byte (i2b (Int64.toInt32 (ushrL q4 (32 : Int32))))), (nar .byte (i2b (Int64.toInt32 (ushrL q4 (40 : Int32))))), (nar .byte (i2b (Int64.toInt32 (ushrL q4 (48 : Int32))))), (nar .byte (i2b (Int64.toInt32 (ushrL q4 (56 : Int32))))), (0 : Int32), (0 : Int32), (0 : Int32), (0 : Int32), (0 : Int32), (0 : Int32), (0 : Int32), (0 : Int32), (0 : Int32), (0 : Int32), (0 : Int32), (0 : Int32), (0 : Int32), (0 : Int32), (0 : Int32), (0 : Int32)] i 0) (-1 : Int32) ((shlI (0 : Int32) (8 : Int32)) ||| (F_next v1544 (v1544 + v1545) 24 (fun i => List.getD [(nar .byte (i2b (Int64.toInt32 q4))), (nar .byte (i2b (Int64.toInt32 (ushrL q4 (8 : Int32))))), (nar .byte (i2b (Int64.toInt32 (ushrL q4 (16 : Int32))))), (nar .byte (i2b (Int64.toInt32 (ushrL q4 (24 : Int32))))), (nar .byte (i2b (Int64.toInt32 (ushrL q4 (32 : Int32))))), (nar .byte (i2b (Int64.toInt32 (ushrL q4 (40 : Int32))))), (nar .byte (i2b (Int64.toInt32 (ushrL q4 (48 : Int32))))), (nar .byte (i2b (Int64.toInt32 (ushrL q4 (56 : Int32))))), (0 : Int32), (0 : Int32), (0 : Int32), (0 : Int32), (0 : Int32), (0 : Int32), (0 : Int32), (0 : Int32), (0 : Int32), (0 : Int32), (0 : Int32), (0 : Int32), (0 : Int32), (0 : Int32), (0 : Int32), (0 : Int32)] i 0) (-1 : Int32) (0 : Int32) (0 : Int32))) (0 : Int32))) (8 : Int32)) ||| (F_next v810 v771 24 (fun i => List.getD [(nar .byte (i2b (Int64.toInt32 q4))), (nar .byte (i2b (Int64.toInt32 (ushrL q4 (8 : Int32))))), (nar .byte (i2b (Int64.toInt32 (ushrL q4 (16 : Int32))))), (nar .byte (i2b (Int64.toInt32 (ushrL q4 (24 : Int32))))), (nar .byte (i2b (Int64.toInt32 (ushrL q4 (32 : Int32))))), (nar .byte (i2b (Int64.toInt32 (ushrL q4 (40 : Int32))))), (nar .byte (i2b (Int64.toInt32 (ushrL q4 (48 : Int32))))), (nar .byte (i2b (Int64.toInt32 (ushrL q4 (56 : Int32))))), (0 : Int32), (0 : Int32), (0 : Int32), (0 : Int32), (0 : Int32), (0 : Int32), (0 : Int32), (0 : Int32), (0 : Int32), (0 : Int32), (0 : Int32), (0 : Int32), (0 : Int32), (0 : Int32), (0 : Int32), (0 : Int32)] i 0) (-1 : Int32) ((shlI ((shlI (0 : Int32) (8 : Int32)) ||| (F_next v1544 (v1544 + v1545) 24 (fun i => List.getD [(nar .byte (i2b (Int64.toInt32 q4))), (nar .byte (i2b (Int64.toInt32 (ushrL q4 (8 : Int32))))), (nar .byte (i2b (Int64.toInt32 (ushrL q4 (16 : Int32))))), (nar .byte (i2b (Int64.toInt32 (ushrL q4 (24 : Int32))))), (nar .byte (i2b (Int64.toInt32 (ushrL q4 (32 : Int32))))), (nar .byte (i2b (Int64.toInt32 (ushrL q4 (40 : Int32))))), (nar .byte (i2b (Int64.toInt32 (ushrL q4 (48 : Int32))))), (nar .byte (i2b (Int64.toInt32 (ushrL q4 (56 : Int32))))), (0 : Int32), (0 : Int32), (0 : Int32), (0 : Int32), (0 : Int32), (0 : Int32), (0 : Int32), (0 : Int32), (0 : Int32), (0 : Int32), (0 : Int32), (0 : Int32), (0 : Int32), (0 : Int32), (0 : Int32), (0 : Int32)] i 0) (-1 : Int32) (0 : Int32) (0 : Int32))) (8 : Int32)) ||| (F_next v772 v771 24 (fun i => List.getD [(nar .byte (i2b (Int64.toInt32 q4))), (nar .byte (i2b (Int64.toInt32 (ushrL q4 (8 : Int32))))), (nar .byte (i2b (Int64.toInt32 (ushrL q4 (16 : Int32))))), (nar .byte (i2b (Int64.toInt32 (ushrL q4 (24 : Int32))))), (nar .byte (i2b (Int64.toInt32 (ushrL q4 (32 : Int32))))), (nar .byte (i2b (Int64.toInt32 (ushrL q4 (40 : Int32))))), (nar .byte (i2b (Int64.toInt32 (ushrL q4 (48 : Int32))))), (nar .byte (i2b (Int64.toInt32 (ushrL q4 (56 : Int32))))), (0 : Int32), (0 : Int32), (0 : Int32), (0 : Int32), (0 : Int32), (0 : Int32), (0 : Int32), (0 : Int32), (0 : Int32), (0 : Int32), (0 : Int32), (0 : Int32), (0 : Int32), (0 : Int32), (0 : Int32), (0 : Int32)] i 0) (-1 : Int32) ((shlI (0 : Int32) (8 : Int32)) ||| (F_next v1544 (v1544 + v1545) 24 (fun i => List.getD [(nar .byte (i2b (Int64.toInt32 q4))), (nar .byte (i2b (Int64.toInt32 (ushrL q4 (8 : Int32))))), (nar .byte (i2b (Int64.toInt32 (ushrL q4 (16 : Int32))))), (nar .byte (i2b (Int64.toInt32 (ushrL q4 (24 : Int32))))), (nar .byte (i2b (Int64.toInt32 (ushrL q4 (32 : Int32))))), (nar .byte (i2b (Int64.toInt32 (ushrL q4 (40 : Int32))))), (nar .byte (i2b (Int64.toInt32 (ushrL q4 (48 : Int32))))), (nar .byte (i2b (Int64.toInt32 (ushrL q4 (56 : Int32))))), (0 : Int32), (0 : Int32), (0 : Int32), (0 : Int32), (0 : Int32), (0 : Int32), (0 : Int32), (0 : Int32), (0 : Int32), (0 : Int32), (0 : Int32), (0 : Int32), (0 : Int32), (0 : Int32), (0 : Int32), (0 : Int32)] i 0) (-1 : Int32) (0 : Int32) (0 : Int32))) (0 : Int32))) (0 : Int32))) (0 : Int32)) = v886 → (v886 < v771 → ¬ v886 < (0 : Int32) ∧ Int32.toNatClampNeg v886 < 24)) := by
  have O := own_3 p0
  have Ln := own_md p1 (25 - (p0 &&& 3)) (by omega)
  rw [O.2.2] at Ln
  have N := own_md p2 65 (by decide)
  have V := own_5 (p0 &&& 3) ((p1 &&& 2147483647) % (25 - (p0 &&& 3))) O.1 O.2.1 Ln.1 Ln.2
  intros; subst_vars
  try simp only [own_np] at *
  rename_i hh
  revert hh
  exact own_bd _ _ (by omega) (by omega)
theorem own_ob_6 (p0 : Int32) (p1 : Int32) (p2 : Int32) (p3 : Int32) (q4 : Int64) : ∀ (v1544 : Int32) (v1545 : Int32) (v1546 : Int32) (v1589 : Int32) (v1590 : Int32) (v1591 : Int32), (p0 &&& (3 : Int32)) = v1544 → ((p1 &&& (2147483647 : Int32)) % ((25 : Int32) - v1544)) = v1545 → ((p2 &&& (2147483647 : Int32)) % (65 : Int32)) = v1546 → (F_init_a0_end v1544 v1545 (0 : Int32) (0 : Int32) (0 : Int32) (0 : Int32) 24 (fun i => List.getD [(nar .byte (i2b (Int64.toInt32 q4))), (nar .byte (i2b (Int64.toInt32 (ushrL q4 (8 : Int32))))), (nar .byte (i2b (Int64.toInt32 (ushrL q4 (16 : Int32))))), (nar .byte (i2b (Int64.toInt32 (ushrL q4 (24 : Int32))))), (nar .byte (i2b (Int64.toInt32 (ushrL q4 (32 : Int32))))), (nar .byte (i2b (Int64.toInt32 (ushrL q4 (40 : Int32))))), (nar .byte (i2b (Int64.toInt32 (ushrL q4 (48 : Int32))))), (nar .byte (i2b (Int64.toInt32 (ushrL q4 (56 : Int32))))), (0 : Int32), (0 : Int32), (0 : Int32), (0 : Int32), (0 : Int32), (0 : Int32), (0 : Int32), (0 : Int32), (0 : Int32), (0 : Int32), (0 : Int32), (0 : Int32), (0 : Int32), (0 : Int32), (0 : Int32), (0 : Int32)] i 0) (0 : Int32)) = v1589 → (F_init_a0_position v1544 v1545 (0 : Int32) (0 : Int32) (0 : Int32) (0 : Int32) 24 (fun i => List.getD [(nar .byte (i2b (Int64.toInt32 q4))), (nar .byte (i2b (Int64.toInt32 (ushrL q4 (8 : Int32))))), (nar .byte (i2b (Int64.toInt32 (ushrL q4 (16 : Int32))))), (nar .byte (i2b (Int64.toInt32 (ushrL q4 (24 : Int32))))), (nar .byte (i2b (Int64.toInt32 (ushrL q4 (32 : Int32))))), (nar .byte (i2b (Int64.toInt32 (ushrL q4 (40 : Int32))))), (nar .byte (i2b (Int64.toInt32 (ushrL q4 (48 : Int32))))), (nar .byte (i2b (Int64.toInt32 (ushrL q4 (56 : Int32))))), (0 : Int32), (0 : Int32), (0 : Int32), (0 : Int32), (0 : Int32), (0 : Int32), (0 : Int32), (0 : Int32), (0 : Int32), (0 : Int32), (0 : Int32), (0 : Int32), (0 : Int32), (0 : Int32), (0 : Int32), (0 : Int32)] i 0) (0 : Int32)) = v1590 → (F_init_a0_range v1544 v1545 (0 : Int32) (0 : Int32) (0 : Int32) (0 : Int32) 24 (fun i => List.getD [(nar .byte (i2b (Int64.toInt32 q4))), (nar .byte (i2b (Int64.toInt32 (ushrL q4 (8 : Int32))))), (nar .byte (i2b (Int64.toInt32 (ushrL q4 (16 : Int32))))), (nar .byte (i2b (Int64.toInt32 (ushrL q4 (24 : Int32))))), (nar .byte (i2b (Int64.toInt32 (ushrL q4 (32 : Int32))))), (nar .byte (i2b (Int64.toInt32 (ushrL q4 (40 : Int32))))), (nar .byte (i2b (Int64.toInt32 (ushrL q4 (48 : Int32))))), (nar .byte (i2b (Int64.toInt32 (ushrL q4 (56 : Int32))))), (0 : Int32), (0 : Int32), (0 : Int32), (0 : Int32), (0 : Int32), (0 : Int32), (0 : Int32), (0 : Int32), (0 : Int32), (0 : Int32), (0 : Int32), (0 : Int32), (0 : Int32), (0 : Int32), (0 : Int32), (0 : Int32)] i 0) (0 : Int32)) = v1591 → (v1591 = (-1 : Int32) ∧ 0 ≤ v1546.toInt ∧ v1546.toInt ≤ 64 ∧ 0 ≤ v1590.toInt ∧ v1590.toInt ≤ 1000 ∧ v1589.toInt ≤ 24) := by
  have O := own_3 p0
  have Ln := own_md p1 (25 - (p0 &&& 3)) (by omega)
  rw [O.2.2] at Ln
  have N := own_md p2 65 (by decide)
  have V := own_5 (p0 &&& 3) ((p1 &&& 2147483647) % (25 - (p0 &&& 3))) O.1 O.2.1 Ln.1 Ln.2
  intros; subst_vars
  rw [own_ir, own_ip, own_ie]
  have e65 : (65 : Int32).toInt = 65 := rfl
  exact ⟨rfl, by omega, by omega, by omega, by omega, by omega⟩
set_option maxRecDepth 65536 in
set_option maxHeartbeats 40000000 in
theorem rm0 (l : Launch) (Z : State) (az : Array Value) (hw : ∀ d ∈ tables_1, d.before az Z = true) (ws : List Jvm.Cond) (p0 : Int32) (p1 : Int32) (p2 : Int32) (p3 : Int32) (q4 : Int64) (h0 : Heap) (n0 : Nat) (Z0 : n0 ≤ h0.size) :
    Met l x code maxLocals ret ws room_1 Z #[(.int p0), (.int p1), (.int p2), (.int p3), (.long q4)] h0 (fun v h' L => v = some (Value.int (F_law p0 p1 p2 p3 q4)) ∧ Fr n0 L) := by
  refine enter (plainFor_of_name pn_3) (ef_0 p0 p1 p2 p3 q4) ?_
  intro p e s m below meth c T0 kc kn Q hkc hkn hQ K' X0 e0
  have K : Fx p s m meth c code 15 "com/example/tidelake/tidelake/hub/DecoderWholePinLaw" "law" (some .boolean) Z := K'
  have N0 := Fr.nil n0
  have K0 : Keep h0 h0 [] := Keep.refl _ _
  refine k_bipush K X0 at_0 (v := (24 : Int32)) rfl (q := 2) rfl ?_
  refine k_newarray K X0 e0 at_2 (ty := .byte) rfl (wd hw 0 rfl) (n := 24) (cap := 24) (by decide) (by decide) (by decide) (by decide) (by decide) (q := 4) rfl ?_
  intro T1451 h1452 b1453 X1454 e1455 g1456 E1457 A1458 
  have ge1459 : n0 ≤ b1453 := Nat.le_trans Z0 (Nat.le_of_eq g1456.symm)
  have bn1460 : h0.size ≤ b1453 := Nat.le_trans K0.1 (Nat.le_of_eq g1456.symm)
  have K1461 := Keep.ext K0 E1457
  have Z1462 := Nat.le_trans Z0 E1457.1
  have f1463 : Ary Z h1452 b1453 .byte 24 (fun i => Value.int (List.getD [(0 : Int32), (0 : Int32), (0 : Int32), (0 : Int32), (0 : Int32), (0 : Int32), (0 : Int32), (0 : Int32), (0 : Int32), (0 : Int32), (0 : Int32), (0 : Int32), (0 : Int32), (0 : Int32), (0 : Int32), (0 : Int32), (0 : Int32), (0 : Int32), (0 : Int32), (0 : Int32), (0 : Int32), (0 : Int32), (0 : Int32), (0 : Int32)] i 0)) := Ary.eqv A1458 (by intro i hi; match i, hi with | 0, _ => rfl | 1, _ => rfl | 2, _ => rfl | 3, _ => rfl | 4, _ => rfl | 5, _ => rfl | 6, _ => rfl | 7, _ => rfl | 8, _ => rfl | 9, _ => rfl | 10, _ => rfl | 11, _ => rfl | 12, _ => rfl | 13, _ => rfl | 14, _ => rfl | 15, _ => rfl | 16, _ => rfl | 17, _ => rfl | 18, _ => rfl | 19, _ => rfl | 20, _ => rfl | 21, _ => rfl | 22, _ => rfl | 23, _ => rfl | (k + 24), hi => exact absurd hi (by omega))
  refine k_astore K X1454 at_4 rfl (Ls' := #[.val (.int p0), .val (.int p1), .val (.int p2), .val (.int p3), .val (.long q4), .second, .val (.ref b1453), .unset, .unset, .unset, .unset, .unset, .unset, .unset, .unset]) rfl (q := 6) rfl ?_
  refine k_aload K X1454 at_6 rfl rfl (q := 8) rfl ?_
  refine k_iconst K X1454 at_8 (v := (0 : Int32)) rfl (q := 9) rfl ?_
  refine k_lload K X1454 at_9 rfl (q := 11) rfl ?_
  refine k_l2i K X1454 at_11 (q := 12) rfl ?_
  refine k_i2b K X1454 at_12 (q := 13) rfl ?_
  refine k_bastore K X1454 e1455 at_13 f1463 (i := 0) (by decide) (by decide) (q := 14) rfl ?_
  intro T1464 h1465 X1466 e1467 W1468 A1469
  have f1470 : Ary Z h1465 b1453 .byte 24 (fun i => Value.int (List.getD [(nar .byte (i2b (Int64.toInt32 q4))), (0 : Int32), (0 : Int32), (0 : Int32), (0 : Int32), (0 : Int32), (0 : Int32), (0 : Int32), (0 : Int32), (0 : Int32), (0 : Int32), (0 : Int32), (0 : Int32), (0 : Int32), (0 : Int32), (0 : Int32), (0 : Int32), (0 : Int32), (0 : Int32), (0 : Int32), (0 : Int32), (0 : Int32), (0 : Int32), (0 : Int32)] i 0)) := Ary.eqv A1469 (fun i _ => setD Value.int [(0 : Int32), (0 : Int32), (0 : Int32), (0 : Int32), (0 : Int32), (0 : Int32), (0 : Int32), (0 : Int32), (0 : Int32), (0 : Int32), (0 : Int32), (0 : Int32), (0 : Int32), (0 : Int32), (0 : Int32), (0 : Int32), (0 : Int32), (0 : Int32), (0 : Int32), (0 : Int32), (0 : Int32), (0 : Int32), (0 : Int32), (0 : Int32)] 0 (nar .byte (i2b (Int64.toInt32 q4))) 0 (Nat.le_of_ble_eq_true rfl) i)
  have N1471 := Fr.snoc X1466 N0 ge1459
  have K1472 := Keep.wr K1461 W1468 (Or.inr bn1460)
  have Z1473 := Nat.le_trans Z1462 (Nat.le_of_eq (Wr.size W1468).symm)
  refine k_aload K X1466 at_14 rfl rfl (q := 16) rfl ?_
  refine k_iconst K X1466 at_16 (v := (1 : Int32)) rfl (q := 17) rfl ?_
  refine k_lload K X1466 at_17 rfl (q := 19) rfl ?_
  refine k_bipush K X1466 at_19 (v := (8 : Int32)) rfl (q := 21) rfl ?_
  refine k_lushr K X1466 at_21 (q := 22) rfl ?_
  refine k_l2i K X1466 at_22 (q := 23) rfl ?_
  refine k_i2b K X1466 at_23 (q := 24) rfl ?_
  refine k_bastore K X1466 e1467 at_24 f1470 (i := 1) (by decide) (by decide) (q := 25) rfl ?_
  intro T1474 h1475 X1476 e1477 W1478 A1479
  have f1480 : Ary Z h1475 b1453 .byte 24 (fun i => Value.int (List.getD [(nar .byte (i2b (Int64.toInt32 q4))), (nar .byte (i2b (Int64.toInt32 (ushrL q4 (8 : Int32))))), (0 : Int32), (0 : Int32), (0 : Int32), (0 : Int32), (0 : Int32), (0 : Int32), (0 : Int32), (0 : Int32), (0 : Int32), (0 : Int32), (0 : Int32), (0 : Int32), (0 : Int32), (0 : Int32), (0 : Int32), (0 : Int32), (0 : Int32), (0 : Int32), (0 : Int32), (0 : Int32), (0 : Int32), (0 : Int32)] i 0)) := Ary.eqv A1479 (fun i _ => setD Value.int [(nar .byte (i2b (Int64.toInt32 q4))), (0 : Int32), (0 : Int32), (0 : Int32), (0 : Int32), (0 : Int32), (0 : Int32), (0 : Int32), (0 : Int32), (0 : Int32), (0 : Int32), (0 : Int32), (0 : Int32), (0 : Int32), (0 : Int32), (0 : Int32), (0 : Int32), (0 : Int32), (0 : Int32), (0 : Int32), (0 : Int32), (0 : Int32), (0 : Int32), (0 : Int32)] 1 (nar .byte (i2b (Int64.toInt32 (ushrL q4 (8 : Int32))))) 0 (Nat.le_of_ble_eq_true rfl) i)
  have N1481 := Fr.snoc X1476 N1471 ge1459
  have K1482 := Keep.wr K1472 W1478 (Or.inr bn1460)
  have Z1483 := Nat.le_trans Z1473 (Nat.le_of_eq (Wr.size W1478).symm)
  refine k_aload K X1476 at_25 rfl rfl (q := 27) rfl ?_
  refine k_iconst K X1476 at_27 (v := (2 : Int32)) rfl (q := 28) rfl ?_
  refine k_lload K X1476 at_28 rfl (q := 30) rfl ?_
  refine k_bipush K X1476 at_30 (v := (16 : Int32)) rfl (q := 32) rfl ?_
  refine k_lushr K X1476 at_32 (q := 33) rfl ?_
  refine k_l2i K X1476 at_33 (q := 34) rfl ?_
  refine k_i2b K X1476 at_34 (q := 35) rfl ?_
  refine k_bastore K X1476 e1477 at_35 f1480 (i := 2) (by decide) (by decide) (q := 36) rfl ?_
  intro T1484 h1485 X1486 e1487 W1488 A1489
  have f1490 : Ary Z h1485 b1453 .byte 24 (fun i => Value.int (List.getD [(nar .byte (i2b (Int64.toInt32 q4))), (nar .byte (i2b (Int64.toInt32 (ushrL q4 (8 : Int32))))), (nar .byte (i2b (Int64.toInt32 (ushrL q4 (16 : Int32))))), (0 : Int32), (0 : Int32), (0 : Int32), (0 : Int32), (0 : Int32), (0 : Int32), (0 : Int32), (0 : Int32), (0 : Int32), (0 : Int32), (0 : Int32), (0 : Int32), (0 : Int32), (0 : Int32), (0 : Int32), (0 : Int32), (0 : Int32), (0 : Int32), (0 : Int32), (0 : Int32), (0 : Int32)] i 0)) := Ary.eqv A1489 (fun i _ => setD Value.int [(nar .byte (i2b (Int64.toInt32 q4))), (nar .byte (i2b (Int64.toInt32 (ushrL q4 (8 : Int32))))), (0 : Int32), (0 : Int32), (0 : Int32), (0 : Int32), (0 : Int32), (0 : Int32), (0 : Int32), (0 : Int32), (0 : Int32), (0 : Int32), (0 : Int32), (0 : Int32), (0 : Int32), (0 : Int32), (0 : Int32), (0 : Int32), (0 : Int32), (0 : Int32), (0 : Int32), (0 : Int32), (0 : Int32), (0 : Int32)] 2 (nar .byte (i2b (Int64.toInt32 (ushrL q4 (16 : Int32))))) 0 (Nat.le_of_ble_eq_true rfl) i)
  have N1491 := Fr.snoc X1486 N1481 ge1459
  have K1492 := Keep.wr K1482 W1488 (Or.inr bn1460)
  have Z1493 := Nat.le_trans Z1483 (Nat.le_of_eq (Wr.size W1488).symm)
  refine k_aload K X1486 at_36 rfl rfl (q := 38) rfl ?_
  refine k_iconst K X1486 at_38 (v := (3 : Int32)) rfl (q := 39) rfl ?_
  refine k_lload K X1486 at_39 rfl (q := 41) rfl ?_
  refine k_bipush K X1486 at_41 (v := (24 : Int32)) rfl (q := 43) rfl ?_
  refine k_lushr K X1486 at_43 (q := 44) rfl ?_
  refine k_l2i K X1486 at_44 (q := 45) rfl ?_
  refine k_i2b K X1486 at_45 (q := 46) rfl ?_
  refine k_bastore K X1486 e1487 at_46 f1490 (i := 3) (by decide) (by decide) (q := 47) rfl ?_
  intro T1494 h1495 X1496 e1497 W1498 A1499
  have f1500 : Ary Z h1495 b1453 .byte 24 (fun i => Value.int (List.getD [(nar .byte (i2b (Int64.toInt32 q4))), (nar .byte (i2b (Int64.toInt32 (ushrL q4 (8 : Int32))))), (nar .byte (i2b (Int64.toInt32 (ushrL q4 (16 : Int32))))), (nar .byte (i2b (Int64.toInt32 (ushrL q4 (24 : Int32))))), (0 : Int32), (0 : Int32), (0 : Int32), (0 : Int32), (0 : Int32), (0 : Int32), (0 : Int32), (0 : Int32), (0 : Int32), (0 : Int32), (0 : Int32), (0 : Int32), (0 : Int32), (0 : Int32), (0 : Int32), (0 : Int32), (0 : Int32), (0 : Int32), (0 : Int32), (0 : Int32)] i 0)) := Ary.eqv A1499 (fun i _ => setD Value.int [(nar .byte (i2b (Int64.toInt32 q4))), (nar .byte (i2b (Int64.toInt32 (ushrL q4 (8 : Int32))))), (nar .byte (i2b (Int64.toInt32 (ushrL q4 (16 : Int32))))), (0 : Int32), (0 : Int32), (0 : Int32), (0 : Int32), (0 : Int32), (0 : Int32), (0 : Int32), (0 : Int32), (0 : Int32), (0 : Int32), (0 : Int32), (0 : Int32), (0 : Int32), (0 : Int32), (0 : Int32), (0 : Int32), (0 : Int32), (0 : Int32), (0 : Int32), (0 : Int32), (0 : Int32)] 3 (nar .byte (i2b (Int64.toInt32 (ushrL q4 (24 : Int32))))) 0 (Nat.le_of_ble_eq_true rfl) i)
  have N1501 := Fr.snoc X1496 N1491 ge1459
  have K1502 := Keep.wr K1492 W1498 (Or.inr bn1460)
  have Z1503 := Nat.le_trans Z1493 (Nat.le_of_eq (Wr.size W1498).symm)
  refine k_aload K X1496 at_47 rfl rfl (q := 49) rfl ?_
  refine k_iconst K X1496 at_49 (v := (4 : Int32)) rfl (q := 50) rfl ?_
  refine k_lload K X1496 at_50 rfl (q := 52) rfl ?_
  refine k_bipush K X1496 at_52 (v := (32 : Int32)) rfl (q := 54) rfl ?_
  refine k_lushr K X1496 at_54 (q := 55) rfl ?_
  refine k_l2i K X1496 at_55 (q := 56) rfl ?_
  refine k_i2b K X1496 at_56 (q := 57) rfl ?_
  refine k_bastore K X1496 e1497 at_57 f1500 (i := 4) (by decide) (by decide) (q := 58) rfl ?_
  intro T1504 h1505 X1506 e1507 W1508 A1509
  have f1510 : Ary Z h1505 b1453 .byte 24 (fun i => Value.int (List.getD [(nar .byte (i2b (Int64.toInt32 q4))), (nar .byte (i2b (Int64.toInt32 (ushrL q4 (8 : Int32))))), (nar .byte (i2b (Int64.toInt32 (ushrL q4 (16 : Int32))))), (nar .byte (i2b (Int64.toInt32 (ushrL q4 (24 : Int32))))), (nar .byte (i2b (Int64.toInt32 (ushrL q4 (32 : Int32))))), (0 : Int32), (0 : Int32), (0 : Int32), (0 : Int32), (0 : Int32), (0 : Int32), (0 : Int32), (0 : Int32), (0 : Int32), (0 : Int32), (0 : Int32), (0 : Int32), (0 : Int32), (0 : Int32), (0 : Int32), (0 : Int32), (0 : Int32), (0 : Int32), (0 : Int32)] i 0)) := Ary.eqv A1509 (fun i _ => setD Value.int [(nar .byte (i2b (Int64.toInt32 q4))), (nar .byte (i2b (Int64.toInt32 (ushrL q4 (8 : Int32))))), (nar .byte (i2b (Int64.toInt32 (ushrL q4 (16 : Int32))))), (nar .byte (i2b (Int64.toInt32 (ushrL q4 (24 : Int32))))), (0 : Int32), (0 : Int32), (0 : Int32), (0 : Int32), (0 : Int32), (0 : Int32), (0 : Int32), (0 : Int32), (0 : Int32), (0 : Int32), (0 : Int32), (0 : Int32), (0 : Int32), (0 : Int32), (0 : Int32), (0 : Int32), (0 : Int32), (0 : Int32), (0 : Int32), (0 : Int32)] 4 (nar .byte (i2b (Int64.toInt32 (ushrL q4 (32 : Int32))))) 0 (Nat.le_of_ble_eq_true rfl) i)
  have N1511 := Fr.snoc X1506 N1501 ge1459
  have K1512 := Keep.wr K1502 W1508 (Or.inr bn1460)
  have Z1513 := Nat.le_trans Z1503 (Nat.le_of_eq (Wr.size W1508).symm)
  refine k_aload K X1506 at_58 rfl rfl (q := 60) rfl ?_
  refine k_iconst K X1506 at_60 (v := (5 : Int32)) rfl (q := 61) rfl ?_
  refine k_lload K X1506 at_61 rfl (q := 63) rfl ?_
  refine k_bipush K X1506 at_63 (v := (40 : Int32)) rfl (q := 65) rfl ?_
  refine k_lushr K X1506 at_65 (q := 66) rfl ?_
  refine k_l2i K X1506 at_66 (q := 67) rfl ?_
  refine k_i2b K X1506 at_67 (q := 68) rfl ?_
  refine k_bastore K X1506 e1507 at_68 f1510 (i := 5) (by decide) (by decide) (q := 69) rfl ?_
  intro T1514 h1515 X1516 e1517 W1518 A1519
  have f1520 : Ary Z h1515 b1453 .byte 24 (fun i => Value.int (List.getD [(nar .byte (i2b (Int64.toInt32 q4))), (nar .byte (i2b (Int64.toInt32 (ushrL q4 (8 : Int32))))), (nar .byte (i2b (Int64.toInt32 (ushrL q4 (16 : Int32))))), (nar .byte (i2b (Int64.toInt32 (ushrL q4 (24 : Int32))))), (nar .byte (i2b (Int64.toInt32 (ushrL q4 (32 : Int32))))), (nar .byte (i2b (Int64.toInt32 (ushrL q4 (40 : Int32))))), (0 : Int32), (0 : Int32), (0 : Int32), (0 : Int32), (0 : Int32), (0 : Int32), (0 : Int32), (0 : Int32), (0 : Int32), (0 : Int32), (0 : Int32), (0 : Int32), (0 : Int32), (0 : Int32), (0 : Int32), (0 : Int32), (0 : Int32), (0 : Int32)] i 0)) := Ary.eqv A1519 (fun i _ => setD Value.int [(nar .byte (i2b (Int64.toInt32 q4))), (nar .byte (i2b (Int64.toInt32 (ushrL q4 (8 : Int32))))), (nar .byte (i2b (Int64.toInt32 (ushrL q4 (16 : Int32))))), (nar .byte (i2b (Int64.toInt32 (ushrL q4 (24 : Int32))))), (nar .byte (i2b (Int64.toInt32 (ushrL q4 (32 : Int32))))), (0 : Int32), (0 : Int32), (0 : Int32), (0 : Int32), (0 : Int32), (0 : Int32), (0 : Int32), (0 : Int32), (0 : Int32), (0 : Int32), (0 : Int32), (0 : Int32), (0 : Int32), (0 : Int32), (0 : Int32), (0 : Int32), (0 : Int32), (0 : Int32), (0 : Int32)] 5 (nar .byte (i2b (Int64.toInt32 (ushrL q4 (40 : Int32))))) 0 (Nat.le_of_ble_eq_true rfl) i)
  have N1521 := Fr.snoc X1516 N1511 ge1459
  have K1522 := Keep.wr K1512 W1518 (Or.inr bn1460)
  have Z1523 := Nat.le_trans Z1513 (Nat.le_of_eq (Wr.size W1518).symm)
  refine k_aload K X1516 at_69 rfl rfl (q := 71) rfl ?_
  refine k_bipush K X1516 at_71 (v := (6 : Int32)) rfl (q := 73) rfl ?_
  refine k_lload K X1516 at_73 rfl (q := 75) rfl ?_
  refine k_bipush K X1516 at_75 (v := (48 : Int32)) rfl (q := 77) rfl ?_
  refine k_lushr K X1516 at_77 (q := 78) rfl ?_
  refine k_l2i K X1516 at_78 (q := 79) rfl ?_
  refine k_i2b K X1516 at_79 (q := 80) rfl ?_
  refine k_bastore K X1516 e1517 at_80 f1520 (i := 6) (by decide) (by decide) (q := 81) rfl ?_
  intro T1524 h1525 X1526 e1527 W1528 A1529
  have f1530 : Ary Z h1525 b1453 .byte 24 (fun i => Value.int (List.getD [(nar .byte (i2b (Int64.toInt32 q4))), (nar .byte (i2b (Int64.toInt32 (ushrL q4 (8 : Int32))))), (nar .byte (i2b (Int64.toInt32 (ushrL q4 (16 : Int32))))), (nar .byte (i2b (Int64.toInt32 (ushrL q4 (24 : Int32))))), (nar .byte (i2b (Int64.toInt32 (ushrL q4 (32 : Int32))))), (nar .byte (i2b (Int64.toInt32 (ushrL q4 (40 : Int32))))), (nar .byte (i2b (Int64.toInt32 (ushrL q4 (48 : Int32))))), (0 : Int32), (0 : Int32), (0 : Int32), (0 : Int32), (0 : Int32), (0 : Int32), (0 : Int32), (0 : Int32), (0 : Int32), (0 : Int32), (0 : Int32), (0 : Int32), (0 : Int32), (0 : Int32), (0 : Int32), (0 : Int32), (0 : Int32)] i 0)) := Ary.eqv A1529 (fun i _ => setD Value.int [(nar .byte (i2b (Int64.toInt32 q4))), (nar .byte (i2b (Int64.toInt32 (ushrL q4 (8 : Int32))))), (nar .byte (i2b (Int64.toInt32 (ushrL q4 (16 : Int32))))), (nar .byte (i2b (Int64.toInt32 (ushrL q4 (24 : Int32))))), (nar .byte (i2b (Int64.toInt32 (ushrL q4 (32 : Int32))))), (nar .byte (i2b (Int64.toInt32 (ushrL q4 (40 : Int32))))), (0 : Int32), (0 : Int32), (0 : Int32), (0 : Int32), (0 : Int32), (0 : Int32), (0 : Int32), (0 : Int32), (0 : Int32), (0 : Int32), (0 : Int32), (0 : Int32), (0 : Int32), (0 : Int32), (0 : Int32), (0 : Int32), (0 : Int32), (0 : Int32)] 6 (nar .byte (i2b (Int64.toInt32 (ushrL q4 (48 : Int32))))) 0 (Nat.le_of_ble_eq_true rfl) i)
  have N1531 := Fr.snoc X1526 N1521 ge1459
  have K1532 := Keep.wr K1522 W1528 (Or.inr bn1460)
  have Z1533 := Nat.le_trans Z1523 (Nat.le_of_eq (Wr.size W1528).symm)
  refine k_aload K X1526 at_81 rfl rfl (q := 83) rfl ?_
  refine k_bipush K X1526 at_83 (v := (7 : Int32)) rfl (q := 85) rfl ?_
  refine k_lload K X1526 at_85 rfl (q := 87) rfl ?_
  refine k_bipush K X1526 at_87 (v := (56 : Int32)) rfl (q := 89) rfl ?_
  refine k_lushr K X1526 at_89 (q := 90) rfl ?_
  refine k_l2i K X1526 at_90 (q := 91) rfl ?_
  refine k_i2b K X1526 at_91 (q := 92) rfl ?_
  refine k_bastore K X1526 e1527 at_92 f1530 (i := 7) (by decide) (by decide) (q := 93) rfl ?_
  intro T1534 h1535 X1536 e1537 W1538 A1539
  have f1540 : Ary Z h1535 b1453 .byte 24 (fun i => Value.int (List.getD [(nar .byte (i2b (Int64.toInt32 q4))), (nar .byte (i2b (Int64.toInt32 (ushrL q4 (8 : Int32))))), (nar .byte (i2b (Int64.toInt32 (ushrL q4 (16 : Int32))))), (nar .byte (i2b (Int64.toInt32 (ushrL q4 (24 : Int32))))), (nar .byte (i2b (Int64.toInt32 (ushrL q4 (32 : Int32))))), (nar .byte (i2b (Int64.toInt32 (ushrL q4 (40 : Int32))))), (nar .byte (i2b (Int64.toInt32 (ushrL q4 (48 : Int32))))), (nar .byte (i2b (Int64.toInt32 (ushrL q4 (56 : Int32))))), (0 : Int32), (0 : Int32), (0 : Int32), (0 : Int32), (0 : Int32), (0 : Int32), (0 : Int32), (0 : Int32), (0 : Int32), (0 : Int32), (0 : Int32), (0 : Int32), (0 : Int32), (0 : Int32), (0 : Int32), (0 : Int32)] i 0)) := Ary.eqv A1539 (fun i _ => setD Value.int [(nar .byte (i2b (Int64.toInt32 q4))), (nar .byte (i2b (Int64.toInt32 (ushrL q4 (8 : Int32))))), (nar .byte (i2b (Int64.toInt32 (ushrL q4 (16 : Int32))))), (nar .byte (i2b (Int64.toInt32 (ushrL q4 (24 : Int32))))), (nar .byte (i2b (Int64.toInt32 (ushrL q4 (32 : Int32))))), (nar .byte (i2b (Int64.toInt32 (ushrL q4 (40 : Int32))))), (nar .byte (i2b (Int64.toInt32 (ushrL q4 (48 : Int32))))), (0 : Int32), (0 : Int32), (0 : Int32), (0 : Int32), (0 : Int32), (0 : Int32), (0 : Int32), (0 : Int32), (0 : Int32), (0 : Int32), (0 : Int32), (0 : Int32), (0 : Int32), (0 : Int32), (0 : Int32), (0 : Int32), (0 : Int32)] 7 (nar .byte (i2b (Int64.toInt32 (ushrL q4 (56 : Int32))))) 0 (Nat.le_of_ble_eq_true rfl) i)
  have N1541 := Fr.snoc X1536 N1531 ge1459
  have K1542 := Keep.wr K1532 W1538 (Or.inr bn1460)
  have Z1543 := Nat.le_trans Z1533 (Nat.le_of_eq (Wr.size W1538).symm)
  refine k_iloadN K X1536 at_93 rfl (q := 94) rfl ?_
  refine k_iconst K X1536 at_94 (v := (3 : Int32)) rfl (q := 95) rfl ?_
  refine k_iand K X1536 at_95 (q := 96) rfl ?_
  obtain ⟨v1544, hv_v1544⟩ : ∃ z : Int32, (p0 &&& (3 : Int32)) = z := ⟨_, rfl⟩
  refine k_istore K X1536 at_96 hv_v1544 (Ls' := #[.val (.int p0), .val (.int p1), .val (.int p2), .val (.int p3), .val (.long q4), .second, .val (.ref b1453), .val (.int v1544), .unset, .unset, .unset, .unset, .unset, .unset, .unset]) rfl (q := 98) rfl ?_
  refine k_iloadN K X1536 at_98 rfl (q := 99) rfl ?_
  refine k_ldc K X1536 at_99 (wd hw 1 rfl) (q := 101) rfl ?_
  refine k_iand K X1536 at_101 (q := 102) rfl ?_
  refine k_bipush K X1536 at_102 (v := (25 : Int32)) rfl (q := 104) rfl ?_
  refine k_iload K X1536 at_104 rfl (q := 106) rfl ?_
  refine k_isub K X1536 at_106 (q := 107) rfl ?_
  refine k_irem K X1536 at_107 (own_ob_0 p0 p1 p2 p3 q4 v1544 hv_v1544) (q := 108) rfl ?_
  obtain ⟨v1545, hv_v1545⟩ : ∃ z : Int32, ((p1 &&& (2147483647 : Int32)) % ((25 : Int32) - v1544)) = z := ⟨_, rfl⟩
  refine k_istore K X1536 at_108 hv_v1545 (Ls' := #[.val (.int p0), .val (.int p1), .val (.int p2), .val (.int p3), .val (.long q4), .second, .val (.ref b1453), .val (.int v1544), .val (.int v1545), .unset, .unset, .unset, .unset, .unset, .unset]) rfl (q := 110) rfl ?_
  refine k_iloadN K X1536 at_110 rfl (q := 111) rfl ?_
  refine k_ldc K X1536 at_111 (wd hw 1 rfl) (q := 113) rfl ?_
  refine k_iand K X1536 at_113 (q := 114) rfl ?_
  refine k_bipush K X1536 at_114 (v := (65 : Int32)) rfl (q := 116) rfl ?_
  refine k_irem K X1536 at_116 (by decide) (q := 117) rfl ?_
  obtain ⟨v1546, hv_v1546⟩ : ∃ z : Int32, ((p2 &&& (2147483647 : Int32)) % (65 : Int32)) = z := ⟨_, rfl⟩
  refine k_istore K X1536 at_117 hv_v1546 (Ls' := #[.val (.int p0), .val (.int p1), .val (.int p2), .val (.int p3), .val (.long q4), .second, .val (.ref b1453), .val (.int v1544), .val (.int v1545), .val (.int v1546), .unset, .unset, .unset, .unset, .unset]) rfl (q := 119) rfl ?_
  refine k_iloadN K X1536 at_119 rfl (q := 120) rfl ?_
  refine k_iconst K X1536 at_120 (v := (1 : Int32)) rfl (q := 121) rfl ?_
  refine k_iand K X1536 at_121 (q := 122) rfl ?_
  have J1549 : ∀ (d1548 : Int32), (if (p3 &&& (1 : Int32)) = (0 : Int32) then (0 : Int32) else (1 : Int32)) = d1548 → Run p e below s kc kn Q T1534 (mkF m 130 #[.val (.int p0), .val (.int p1), .val (.int p2), .val (.int p3), .val (.long q4), .second, .val (.ref b1453), .val (.int v1544), .val (.int v1545), .val (.int v1546), .unset, .unset, .unset, .unset, .unset] [(.int d1548)]) := by
    intro d1548 hv_d1548
    refine k_istore K X1536 at_130 rfl (Ls' := #[.val (.int p0), .val (.int p1), .val (.int p2), .val (.int p3), .val (.long q4), .second, .val (.ref b1453), .val (.int v1544), .val (.int v1545), .val (.int v1546), .val (.int d1548), .unset, .unset, .unset, .unset]) rfl (q := 132) rfl ?_
    refine k_new K X1536 e1537 at_132 (wd hw 2 rfl) (wd hw 3 rfl) (wd hw 4 rfl) (by decide) (by decide) (q := 135) rfl ?_
    intro T1550 h1551 b1552 X1553 e1554 g1555 E1556 A1557 D1558
    have ne1559 : b1453 ≠ b1552 := Nat.ne_of_lt (Nat.lt_of_lt_of_eq (f1540).lt g1555.symm)
    have ge1560 : n0 ≤ b1552 := Nat.le_trans Z1543 (Nat.le_of_eq g1555.symm)
    have bn1561 : h0.size ≤ b1552 := Nat.le_trans K1542.1 (Nat.le_of_eq g1555.symm)
    have f1562 := Ary.ext f1540 E1556
    have K1563 := Keep.ext K1542 E1556
    have Z1564 := Nat.le_trans Z1543 E1556.1
    have f1565 : Fld Z h1551 b1552 "com/example/tidelake/tidelake/hub/RangeCoder$Decoder" "range" "I" (.int (0 : Int32)) := D1558 (Or.inl (wd hw 17 rfl)) (ty := .int) (by decide)
    have f1566 : Fld Z h1551 b1552 "com/example/tidelake/tidelake/hub/RangeCoder$Decoder" "bytes" "[B" .null := D1558 (Or.inr (wd hw 19 rfl)) (ty := (.array .byte)) (by decide)
    have f1567 : Fld Z h1551 b1552 "com/example/tidelake/tidelake/hub/RangeCoder$Decoder" "position" "I" (.int (0 : Int32)) := D1558 (Or.inl (wd hw 21 rfl)) (ty := .int) (by decide)
    have f1568 : Fld Z h1551 b1552 "com/example/tidelake/tidelake/hub/RangeCoder$Decoder" "end" "I" (.int (0 : Int32)) := D1558 (Or.inr (wd hw 23 rfl)) (ty := .int) (by decide)
    have f1569 : Fld Z h1551 b1552 "com/example/tidelake/tidelake/hub/RangeCoder$Decoder" "code" "I" (.int (0 : Int32)) := D1558 (Or.inl (wd hw 25 rfl)) (ty := .int) (by decide)
    have f1570 : Fld Z h1551 b1552 "com/example/tidelake/tidelake/hub/RangeCoder$Decoder" "damaged" "Z" (.int (0 : Int32)) := D1558 (Or.inl (wd hw 36 rfl)) (ty := .boolean) (by decide)
    refine k_dup K X1553 at_135 rfl (q := 136) rfl ?_
    refine k_aload K X1553 at_136 rfl rfl (q := 138) rfl ?_
    refine k_iload K X1553 at_138 rfl (q := 140) rfl ?_
    refine k_iload K X1553 at_140 rfl (q := 142) rfl ?_
    refine k_special K X1553 e1554 at_142 rfl (wd hw 5 rfl) (wd hw 6 rfl) (wd hw 4 rfl) (wd hw 7 rfl) (by decide) (rm1 l Z az hw [] b1552 b1453 v1544 v1545 (0 : Int32) .null (0 : Int32) (0 : Int32) (0 : Int32) 24 (fun i => List.getD [(nar .byte (i2b (Int64.toInt32 q4))), (nar .byte (i2b (Int64.toInt32 (ushrL q4 (8 : Int32))))), (nar .byte (i2b (Int64.toInt32 (ushrL q4 (16 : Int32))))), (nar .byte (i2b (Int64.toInt32 (ushrL q4 (24 : Int32))))), (nar .byte (i2b (Int64.toInt32 (ushrL q4 (32 : Int32))))), (nar .byte (i2b (Int64.toInt32 (ushrL q4 (40 : Int32))))), (nar .byte (i2b (Int64.toInt32 (ushrL q4 (48 : Int32))))), (nar .byte (i2b (Int64.toInt32 (ushrL q4 (56 : Int32))))), (0 : Int32), (0 : Int32), (0 : Int32), (0 : Int32), (0 : Int32), (0 : Int32), (0 : Int32), (0 : Int32), (0 : Int32), (0 : Int32), (0 : Int32), (0 : Int32), (0 : Int32), (0 : Int32), (0 : Int32), (0 : Int32)] i 0) (0 : Int32) h1551 n0 Z1564 A1557 f1565 ge1560 f1566 f1567 f1568 f1569 f1562 ne1559 f1570 (own_ob_1 p0 p1 p2 p3 q4 v1544 v1545 hv_v1544 hv_v1545) (own_ob_2 p0 p1 p2 p3 q4 v1544 v1545 hv_v1544 hv_v1545) (own_ob_3 p0 p1 p2 p3 q4 v1544 v1545 hv_v1544 hv_v1545) (own_ob_4 p0 p1 p2 p3 q4 v1544 v1545 hv_v1544 hv_v1545) (own_ob_5 p0 p1 p2 p3 q4 v1544 v1545 hv_v1544 hv_v1545)) (W := 1) (by decide) (by decide) (by decide) (by decide) rfl pd_3 (argsL := [(.ref b1453), (.int v1544), (.int v1545)]) (rest := [(.ref b1552)]) rfl rfl rfl (Nat.le_of_eq rfl) (q := 145) rfl ?_
    rintro _ T1571 L1572 X1573 ⟨rfl, N1574, K1575, f1577, f1578, f1579, f1580, f1581, f1582⟩
    have f1583 := Ary.keep f1562 K1575 (ninS ne1559 nin0)
    have f1584 := Exa.keep A1557 K1575
    have N1585 := Fr.app N1541 N1574
    have K1586 := Keep.trans K1563 K1575 (allS (Or.inr bn1561) all0)
    have Z1587 := Nat.le_trans Z1564 K1575.1
    obtain ⟨v1588, hv_v1588⟩ : ∃ z : Int32, (F_init_a0_code v1544 v1545 (0 : Int32) (0 : Int32) (0 : Int32) (0 : Int32) 24 (fun i => List.getD [(nar .byte (i2b (Int64.toInt32 q4))), (nar .byte (i2b (Int64.toInt32 (ushrL q4 (8 : Int32))))), (nar .byte (i2b (Int64.toInt32 (ushrL q4 (16 : Int32))))), (nar .byte (i2b (Int64.toInt32 (ushrL q4 (24 : Int32))))), (nar .byte (i2b (Int64.toInt32 (ushrL q4 (32 : Int32))))), (nar .byte (i2b (Int64.toInt32 (ushrL q4 (40 : Int32))))), (nar .byte (i2b (Int64.toInt32 (ushrL q4 (48 : Int32))))), (nar .byte (i2b (Int64.toInt32 (ushrL q4 (56 : Int32))))), (0 : Int32), (0 : Int32), (0 : Int32), (0 : Int32), (0 : Int32), (0 : Int32), (0 : Int32), (0 : Int32), (0 : Int32), (0 : Int32), (0 : Int32), (0 : Int32), (0 : Int32), (0 : Int32), (0 : Int32), (0 : Int32)] i 0) (0 : Int32)) = z := ⟨_, rfl⟩
    rw [hv_v1588] at f1578
    obtain ⟨v1589, hv_v1589⟩ : ∃ z : Int32, (F_init_a0_end v1544 v1545 (0 : Int32) (0 : Int32) (0 : Int32) (0 : Int32) 24 (fun i => List.getD [(nar .byte (i2b (Int64.toInt32 q4))), (nar .byte (i2b (Int64.toInt32 (ushrL q4 (8 : Int32))))), (nar .byte (i2b (Int64.toInt32 (ushrL q4 (16 : Int32))))), (nar .byte (i2b (Int64.toInt32 (ushrL q4 (24 : Int32))))), (nar .byte (i2b (Int64.toInt32 (ushrL q4 (32 : Int32))))), (nar .byte (i2b (Int64.toInt32 (ushrL q4 (40 : Int32))))), (nar .byte (i2b (Int64.toInt32 (ushrL q4 (48 : Int32))))), (nar .byte (i2b (Int64.toInt32 (ushrL q4 (56 : Int32))))), (0 : Int32), (0 : Int32), (0 : Int32), (0 : Int32), (0 : Int32), (0 : Int32), (0 : Int32), (0 : Int32), (0 : Int32), (0 : Int32), (0 : Int32), (0 : Int32), (0 : Int32), (0 : Int32), (0 : Int32), (0 : Int32)] i 0) (0 : Int32)) = z := ⟨_, rfl⟩
    rw [hv_v1589] at f1580
    obtain ⟨v1590, hv_v1590⟩ : ∃ z : Int32, (F_init_a0_position v1544 v1545 (0 : Int32) (0 : Int32) (0 : Int32) (0 : Int32) 24 (fun i => List.getD [(nar .byte (i2b (Int64.toInt32 q4))), (nar .byte (i2b (Int64.toInt32 (ushrL q4 (8 : Int32))))), (nar .byte (i2b (Int64.toInt32 (ushrL q4 (16 : Int32))))), (nar .byte (i2b (Int64.toInt32 (ushrL q4 (24 : Int32))))), (nar .byte (i2b (Int64.toInt32 (ushrL q4 (32 : Int32))))), (nar .byte (i2b (Int64.toInt32 (ushrL q4 (40 : Int32))))), (nar .byte (i2b (Int64.toInt32 (ushrL q4 (48 : Int32))))), (nar .byte (i2b (Int64.toInt32 (ushrL q4 (56 : Int32))))), (0 : Int32), (0 : Int32), (0 : Int32), (0 : Int32), (0 : Int32), (0 : Int32), (0 : Int32), (0 : Int32), (0 : Int32), (0 : Int32), (0 : Int32), (0 : Int32), (0 : Int32), (0 : Int32), (0 : Int32), (0 : Int32)] i 0) (0 : Int32)) = z := ⟨_, rfl⟩
    rw [hv_v1590] at f1581
    obtain ⟨v1591, hv_v1591⟩ : ∃ z : Int32, (F_init_a0_range v1544 v1545 (0 : Int32) (0 : Int32) (0 : Int32) (0 : Int32) 24 (fun i => List.getD [(nar .byte (i2b (Int64.toInt32 q4))), (nar .byte (i2b (Int64.toInt32 (ushrL q4 (8 : Int32))))), (nar .byte (i2b (Int64.toInt32 (ushrL q4 (16 : Int32))))), (nar .byte (i2b (Int64.toInt32 (ushrL q4 (24 : Int32))))), (nar .byte (i2b (Int64.toInt32 (ushrL q4 (32 : Int32))))), (nar .byte (i2b (Int64.toInt32 (ushrL q4 (40 : Int32))))), (nar .byte (i2b (Int64.toInt32 (ushrL q4 (48 : Int32))))), (nar .byte (i2b (Int64.toInt32 (ushrL q4 (56 : Int32))))), (0 : Int32), (0 : Int32), (0 : Int32), (0 : Int32), (0 : Int32), (0 : Int32), (0 : Int32), (0 : Int32), (0 : Int32), (0 : Int32), (0 : Int32), (0 : Int32), (0 : Int32), (0 : Int32), (0 : Int32), (0 : Int32)] i 0) (0 : Int32)) = z := ⟨_, rfl⟩
    rw [hv_v1591] at f1582
    refine k_astore K X1573 at_145 rfl (Ls' := #[.val (.int p0), .val (.int p1), .val (.int p2), .val (.int p3), .val (.long q4), .second, .val (.ref b1453), .val (.int v1544), .val (.int v1545), .val (.int v1546), .val (.int d1548), .val (.ref b1552), .unset, .unset, .unset]) rfl (q := 147) rfl ?_
    refine k_aload K X1573 at_147 rfl rfl (q := 149) rfl ?_
    refine k_virtualP K X1573 rfl at_149 (wd hw 30 rfl) (wd hw 31 rfl) (wd hw 33 rfl) (wd hw 32 rfl) (wd hw 4 rfl) (wd hw 34 rfl) (by decide) f1584 (rm5 l Z az hw [] b1552 (0 : Int32) v1590 v1589 T1571.heap f1579 f1581 f1580) (W := 0) (by decide) (by decide) (by decide) (by decide) rfl pd_4 (argsL := []) (rest := []) rfl rfl rfl (Nat.le_of_eq rfl) (q := 152) rfl ?_
    intro T1592 X1593 e1594
    refine k_iload K X1593 at_152 rfl (q := 154) rfl ?_
    refine k_iconst K X1593 at_154 (v := (5 : Int32)) rfl (q := 155) rfl ?_
    have J1597 : ∀ (d1596 : Int32), (if v1545 < (5 : Int32) then (0 : Int32) else (1 : Int32)) = d1596 → Run p e below s kc kn Q T1592 (mkF m 163 #[.val (.int p0), .val (.int p1), .val (.int p2), .val (.int p3), .val (.long q4), .second, .val (.ref b1453), .val (.int v1544), .val (.int v1545), .val (.int v1546), .val (.int d1548), .val (.ref b1552), .unset, .unset, .unset] [(.int d1596), (.int (F_whole (0 : Int32) v1590 v1589))]) := by
      intro d1596 hv_d1596
      have J1600 : ∀ (d1599 : Int32), (if (F_whole (0 : Int32) v1590 v1589) = d1596 then (1 : Int32) else (0 : Int32)) = d1599 → Run p e below s kc kn Q T1592 (mkF m 171 #[.val (.int p0), .val (.int p1), .val (.int p2), .val (.int p3), .val (.long q4), .second, .val (.ref b1453), .val (.int v1544), .val (.int v1545), .val (.int v1546), .val (.int d1548), .val (.ref b1552), .unset, .unset, .unset] [(.int d1599)]) := by
        intro d1599 hv_d1599
        refine k_istore K X1593 at_171 rfl (Ls' := #[.val (.int p0), .val (.int p1), .val (.int p2), .val (.int p3), .val (.long q4), .second, .val (.ref b1453), .val (.int v1544), .val (.int v1545), .val (.int v1546), .val (.int d1548), .val (.ref b1552), .val (.int d1599), .unset, .unset]) rfl (q := 173) rfl ?_
        refine k_aload K X1593 at_173 rfl rfl (q := 175) rfl ?_
        refine k_iload K X1593 at_175 rfl (q := 177) rfl ?_
        refine k_lconst0 K X1593 at_177 (q := 178) rfl ?_
        refine k_virtual K X1593 e1594 at_178 (wd hw 37 rfl) (wd hw 38 rfl) (wd hw 40 rfl) (wd hw 39 rfl) (wd hw 4 rfl) (wd hw 41 rfl) (by decide) f1584 (rm6 l Z az hw [] b1552 v1546 (0 : Int64) v1591 v1588 v1590 v1589 b1453 24 (fun i => List.getD [(nar .byte (i2b (Int64.toInt32 q4))), (nar .byte (i2b (Int64.toInt32 (ushrL q4 (8 : Int32))))), (nar .byte (i2b (Int64.toInt32 (ushrL q4 (16 : Int32))))), (nar .byte (i2b (Int64.toInt32 (ushrL q4 (24 : Int32))))), (nar .byte (i2b (Int64.toInt32 (ushrL q4 (32 : Int32))))), (nar .byte (i2b (Int64.toInt32 (ushrL q4 (40 : Int32))))), (nar .byte (i2b (Int64.toInt32 (ushrL q4 (48 : Int32))))), (nar .byte (i2b (Int64.toInt32 (ushrL q4 (56 : Int32))))), (0 : Int32), (0 : Int32), (0 : Int32), (0 : Int32), (0 : Int32), (0 : Int32), (0 : Int32), (0 : Int32), (0 : Int32), (0 : Int32), (0 : Int32), (0 : Int32), (0 : Int32), (0 : Int32), (0 : Int32), (0 : Int32)] i 0) (0 : Int32) T1571.heap n0 Z1587 f1582 f1578 f1581 f1580 f1577 f1583 f1584 ge1560 ne1559 f1579 (own_ob_6 p0 p1 p2 p3 q4 v1544 v1545 v1546 v1589 v1590 v1591 hv_v1544 hv_v1545 hv_v1546 hv_v1589 hv_v1590 hv_v1591)) (W := 0) (by decide) (by decide) (by decide) (by decide) rfl pd_5 (argsL := [(.int v1546), (.long (0 : Int64))]) (rest := []) rfl rfl rfl (Nat.le_of_eq rfl) (q := 181) rfl ?_
        rintro _ T1601 L1602 X1603 ⟨rfl, N1604, K1605, f1607, f1608, f1609, f1610, f1611, f1612⟩
        have f1613 := Ary.keep f1583 K1605 (ninS ne1559 nin0)
        have f1614 := Exa.keep f1584 K1605
        have N1615 := Fr.app N1585 N1604
        have K1616 := Keep.trans K1586 K1605 (allS (Or.inr bn1561) all0)
        have Z1617 := Nat.le_trans Z1587 K1605.1
        obtain ⟨v1618, hv_v1618⟩ : ∃ z : Int32, (F_direct_a0_code v1546 (0 : Int64) v1591 v1588 v1590 v1589 24 (fun i => List.getD [(nar .byte (i2b (Int64.toInt32 q4))), (nar .byte (i2b (Int64.toInt32 (ushrL q4 (8 : Int32))))), (nar .byte (i2b (Int64.toInt32 (ushrL q4 (16 : Int32))))), (nar .byte (i2b (Int64.toInt32 (ushrL q4 (24 : Int32))))), (nar .byte (i2b (Int64.toInt32 (ushrL q4 (32 : Int32))))), (nar .byte (i2b (Int64.toInt32 (ushrL q4 (40 : Int32))))), (nar .byte (i2b (Int64.toInt32 (ushrL q4 (48 : Int32))))), (nar .byte (i2b (Int64.toInt32 (ushrL q4 (56 : Int32))))), (0 : Int32), (0 : Int32), (0 : Int32), (0 : Int32), (0 : Int32), (0 : Int32), (0 : Int32), (0 : Int32), (0 : Int32), (0 : Int32), (0 : Int32), (0 : Int32), (0 : Int32), (0 : Int32), (0 : Int32), (0 : Int32)] i 0) (0 : Int32)) = z := ⟨_, rfl⟩
        rw [hv_v1618] at f1608
        obtain ⟨v1619, hv_v1619⟩ : ∃ z : Int32, (F_direct_a0_position v1546 (0 : Int64) v1591 v1588 v1590 v1589 24 (fun i => List.getD [(nar .byte (i2b (Int64.toInt32 q4))), (nar .byte (i2b (Int64.toInt32 (ushrL q4 (8 : Int32))))), (nar .byte (i2b (Int64.toInt32 (ushrL q4 (16 : Int32))))), (nar .byte (i2b (Int64.toInt32 (ushrL q4 (24 : Int32))))), (nar .byte (i2b (Int64.toInt32 (ushrL q4 (32 : Int32))))), (nar .byte (i2b (Int64.toInt32 (ushrL q4 (40 : Int32))))), (nar .byte (i2b (Int64.toInt32 (ushrL q4 (48 : Int32))))), (nar .byte (i2b (Int64.toInt32 (ushrL q4 (56 : Int32))))), (0 : Int32), (0 : Int32), (0 : Int32), (0 : Int32), (0 : Int32), (0 : Int32), (0 : Int32), (0 : Int32), (0 : Int32), (0 : Int32), (0 : Int32), (0 : Int32), (0 : Int32), (0 : Int32), (0 : Int32), (0 : Int32)] i 0) (0 : Int32)) = z := ⟨_, rfl⟩
        rw [hv_v1619] at f1611
        obtain ⟨v1620, hv_v1620⟩ : ∃ z : Int32, (F_direct_a0_range v1546 (0 : Int64) v1591 v1588 v1590 v1589 24 (fun i => List.getD [(nar .byte (i2b (Int64.toInt32 q4))), (nar .byte (i2b (Int64.toInt32 (ushrL q4 (8 : Int32))))), (nar .byte (i2b (Int64.toInt32 (ushrL q4 (16 : Int32))))), (nar .byte (i2b (Int64.toInt32 (ushrL q4 (24 : Int32))))), (nar .byte (i2b (Int64.toInt32 (ushrL q4 (32 : Int32))))), (nar .byte (i2b (Int64.toInt32 (ushrL q4 (40 : Int32))))), (nar .byte (i2b (Int64.toInt32 (ushrL q4 (48 : Int32))))), (nar .byte (i2b (Int64.toInt32 (ushrL q4 (56 : Int32))))), (0 : Int32), (0 : Int32), (0 : Int32), (0 : Int32), (0 : Int32), (0 : Int32), (0 : Int32), (0 : Int32), (0 : Int32), (0 : Int32), (0 : Int32), (0 : Int32), (0 : Int32), (0 : Int32), (0 : Int32), (0 : Int32)] i 0) (0 : Int32)) = z := ⟨_, rfl⟩
        rw [hv_v1620] at f1612
        refine k_pop2 K X1603 at_181 (q := 182) rfl ?_
        refine k_iload K X1603 at_182 rfl (q := 184) rfl ?_
        have J1648 : ∀ (T1649 : State) (h1652 : Heap) (Lc1656 : List Loc) (d1639 : Int32), Stand p l e room_1 s m #[(.int p0), (.int p1), (.int p2), (.int p3), (.long q4)] below meth c T1649 Lc1656 2 30 → Fr n0 Lc1656 → T1649.heap = h1652 → Keep h0 h1652 [] → n0 ≤ h1652.size → Ary Z h1652 b1453 .byte 24 (fun i => Value.int (List.getD [(nar .byte (i2b (Int64.toInt32 q4))), (nar .byte (i2b (Int64.toInt32 (ushrL q4 (8 : Int32))))), (nar .byte (i2b (Int64.toInt32 (ushrL q4 (16 : Int32))))), (nar .byte (i2b (Int64.toInt32 (ushrL q4 (24 : Int32))))), (nar .byte (i2b (Int64.toInt32 (ushrL q4 (32 : Int32))))), (nar .byte (i2b (Int64.toInt32 (ushrL q4 (40 : Int32))))), (nar .byte (i2b (Int64.toInt32 (ushrL q4 (48 : Int32))))), (nar .byte (i2b (Int64.toInt32 (ushrL q4 (56 : Int32))))), (0 : Int32), (0 : Int32), (0 : Int32), (0 : Int32), (0 : Int32), (0 : Int32), (0 : Int32), (0 : Int32), (0 : Int32), (0 : Int32), (0 : Int32), (0 : Int32), (0 : Int32), (0 : Int32), (0 : Int32), (0 : Int32)] i 0)) → Exa Z h1652 b1552 "com/example/tidelake/tidelake/hub/RangeCoder$Decoder" → Fld Z h1652 b1552 "com/example/tidelake/tidelake/hub/RangeCoder$Decoder" "bytes" "[B" (.ref b1453) → Fld Z h1652 b1552 "com/example/tidelake/tidelake/hub/RangeCoder$Decoder" "code" "I" (.int v1618) → Fld Z h1652 b1552 "com/example/tidelake/tidelake/hub/RangeCoder$Decoder" "damaged" "Z" (.int d1639) → Fld Z h1652 b1552 "com/example/tidelake/tidelake/hub/RangeCoder$Decoder" "end" "I" (.int v1589) → Fld Z h1652 b1552 "com/example/tidelake/tidelake/hub/RangeCoder$Decoder" "position" "I" (.int v1619) → Fld Z h1652 b1552 "com/example/tidelake/tidelake/hub/RangeCoder$Decoder" "range" "I" (.int v1620) → (if d1548 = (0 : Int32) then (0 : Int32) else (1 : Int32)) = d1639 → Run p e below s kc kn Q T1649 (mkF m 192 #[.val (.int p0), .val (.int p1), .val (.int p2), .val (.int p3), .val (.long q4), .second, .val (.ref b1453), .val (.int v1544), .val (.int v1545), .val (.int v1546), .val (.int d1548), .val (.ref b1552), .val (.int d1599), .unset, .unset] []) := by
          intro T1649 h1652 Lc1656 d1639 X1650 N1653 e1651 K1654 Z1655 f1640 f1641 f1642 f1643 f1644 f1645 f1646 f1647 hv_d1639
          refine k_iload K X1650 at_192 rfl (q := 194) rfl ?_
          have J1660 : ∀ (d1659 : Int32), (if d1548 = (0 : Int32) then (if v1545 < ((5 : Int32) + (v1546 / (8 : Int32))) then (0 : Int32) else (1 : Int32)) else (0 : Int32)) = d1659 → Run p e below s kc kn Q T1649 (mkF m 214 #[.val (.int p0), .val (.int p1), .val (.int p2), .val (.int p3), .val (.long q4), .second, .val (.ref b1453), .val (.int v1544), .val (.int v1545), .val (.int v1546), .val (.int d1548), .val (.ref b1552), .val (.int d1599), .unset, .unset] [(.int d1659)]) := by
            intro d1659 hv_d1659
            refine k_istore K X1650 at_214 rfl (Ls' := #[.val (.int p0), .val (.int p1), .val (.int p2), .val (.int p3), .val (.long q4), .second, .val (.ref b1453), .val (.int v1544), .val (.int v1545), .val (.int v1546), .val (.int d1548), .val (.ref b1552), .val (.int d1599), .val (.int d1659), .unset]) rfl (q := 216) rfl ?_
            refine k_aload K X1650 at_216 rfl rfl (q := 218) rfl ?_
            refine k_virtualP K X1650 e1651 at_218 (wd hw 30 rfl) (wd hw 31 rfl) (wd hw 33 rfl) (wd hw 32 rfl) (wd hw 4 rfl) (wd hw 34 rfl) (by decide) f1641 (rm5 l Z az hw [] b1552 d1639 v1619 v1589 h1652 f1644 f1646 f1645) (W := 0) (by decide) (by decide) (by decide) (by decide) rfl pd_4 (argsL := []) (rest := []) rfl rfl rfl (Nat.le_of_eq rfl) (q := 221) rfl ?_
            intro T1661 X1662 e1663
            refine k_iload K X1662 at_221 rfl (q := 223) rfl ?_
            have J1666 : ∀ (d1665 : Int32), (if (F_whole d1639 v1619 v1589) = d1659 then (1 : Int32) else (0 : Int32)) = d1665 → Run p e below s kc kn Q T1661 (mkF m 231 #[.val (.int p0), .val (.int p1), .val (.int p2), .val (.int p3), .val (.long q4), .second, .val (.ref b1453), .val (.int v1544), .val (.int v1545), .val (.int v1546), .val (.int d1548), .val (.ref b1552), .val (.int d1599), .val (.int d1659), .unset] [(.int d1665)]) := by
              intro d1665 hv_d1665
              refine k_istore K X1662 at_231 rfl (Ls' := #[.val (.int p0), .val (.int p1), .val (.int p2), .val (.int p3), .val (.long q4), .second, .val (.ref b1453), .val (.int v1544), .val (.int v1545), .val (.int v1546), .val (.int d1548), .val (.ref b1552), .val (.int d1599), .val (.int d1659), .val (.int d1665)]) rfl (q := 233) rfl ?_
              refine k_iload K X1662 at_233 rfl (q := 235) rfl ?_
              have J1670 : ∀ (d1669 : Int32), (if d1599 = (0 : Int32) then (0 : Int32) else (if d1665 = (0 : Int32) then (0 : Int32) else (1 : Int32))) = d1669 → Run p e below s kc kn Q T1661 (mkF m 248 #[.val (.int p0), .val (.int p1), .val (.int p2), .val (.int p3), .val (.long q4), .second, .val (.ref b1453), .val (.int v1544), .val (.int v1545), .val (.int v1546), .val (.int d1548), .val (.ref b1552), .val (.int d1599), .val (.int d1659), .val (.int d1665)] [(.int d1669)]) := by
                intro d1669 hv_d1669
                exact k_retz K X1662 e1663 at_248 (Nat.le_trans (by decide) hkc) (Nat.le_trans (by decide) hkn) (hQ _ _ _ ⟨(by show some (Value.int (nar .boolean d1669)) = some (Value.int (F_law p0 p1 p2 p3 q4)); first | (simp only [F_law, hv_v1544, hv_v1545, hv_v1546, hv_d1548, hv_v1588, hv_v1589, hv_v1590, hv_v1591, hv_d1596, hv_d1599, hv_v1618, hv_v1619, hv_v1620, hv_d1639, hv_d1659, hv_d1665, hv_d1669]; done) | (subst hv_v1544; subst hv_v1545; subst hv_v1546; subst hv_d1548; subst hv_v1588; subst hv_v1589; subst hv_v1590; subst hv_v1591; subst hv_d1596; subst hv_d1599; subst hv_v1618; subst hv_v1619; subst hv_v1620; subst hv_d1639; subst hv_d1659; subst hv_d1665; subst hv_d1669; simp only [F_law])), N1653⟩)
              refine k_if_eq K X1662 at_235 (by decide) (q := 247) rfl (q' := 238) rfl ?_ ?_
              · intro hc1671
                refine k_iconst K X1662 at_247 (v := (0 : Int32)) rfl (q := 248) rfl ?_
                exact J1670 _ (by first | (simp only [if_pos hc1671]; done) | rfl)
              · intro hc1671
                refine k_iload K X1662 at_238 rfl (q := 240) rfl ?_
                refine k_if_eq K X1662 at_240 (by decide) (q := 247) rfl (q' := 243) rfl ?_ ?_
                · intro hc1672
                  refine k_iconst K X1662 at_247 (v := (0 : Int32)) rfl (q := 248) rfl ?_
                  exact J1670 _ (by first | (simp only [if_neg hc1671, if_pos hc1672]; done) | rfl)
                · intro hc1672
                  refine k_iconst K X1662 at_243 (v := (1 : Int32)) rfl (q := 244) rfl ?_
                  refine k_goto K X1662 at_244 (by decide) (q := 248) rfl ?_
                  exact J1670 _ (by first | (simp only [if_neg hc1671, if_neg hc1672]; done) | rfl)
            refine k_icmp_ne K X1662 at_223 (by decide) (q := 230) rfl (q' := 226) rfl ?_ ?_
            · intro hc1673
              refine k_iconst K X1662 at_230 (v := (0 : Int32)) rfl (q := 231) rfl ?_
              exact J1666 _ (by first | (simp only [if_neg hc1673]; done) | rfl)
            · intro hc1673
              refine k_iconst K X1662 at_226 (v := (1 : Int32)) rfl (q := 227) rfl ?_
              refine k_goto K X1662 at_227 (by decide) (q := 231) rfl ?_
              exact J1666 _ (by first | (simp only [if_pos hc1673]; done) | rfl)
          refine k_if_ne K X1650 at_194 (by decide) (q := 213) rfl (q' := 197) rfl ?_ ?_
          · intro hc1674
            refine k_iconst K X1650 at_213 (v := (0 : Int32)) rfl (q := 214) rfl ?_
            exact J1660 _ (by first | (simp only [if_neg hc1674]; done) | rfl)
          · intro hc1674
            refine k_iconst K X1650 at_197 (v := (5 : Int32)) rfl (q := 198) rfl ?_
            refine k_iload K X1650 at_198 rfl (q := 200) rfl ?_
            refine k_bipush K X1650 at_200 (v := (8 : Int32)) rfl (q := 202) rfl ?_
            refine k_idiv K X1650 at_202 (by decide) (q := 203) rfl ?_
            refine k_iadd K X1650 at_203 (q := 204) rfl ?_
            refine k_iload K X1650 at_204 rfl (q := 206) rfl ?_
            refine k_icmp_gt K X1650 at_206 (by decide) (q := 213) rfl (q' := 209) rfl ?_ ?_
            · intro hc1675
              refine k_iconst K X1650 at_213 (v := (0 : Int32)) rfl (q := 214) rfl ?_
              exact J1660 _ (by first | (simp only [if_pos hc1674, if_pos hc1675]; done) | rfl)
            · intro hc1675
              refine k_iconst K X1650 at_209 (v := (1 : Int32)) rfl (q := 210) rfl ?_
              refine k_goto K X1650 at_210 (by decide) (q := 214) rfl ?_
              exact J1660 _ (by first | (simp only [if_pos hc1674, if_neg hc1675]; done) | rfl)
        refine k_if_eq K X1603 at_184 (by decide) (q := 192) rfl (q' := 187) rfl ?_ ?_
        · intro hc1676
          exact J1648 T1601 _ _ _ X1603 N1615 rfl K1616 Z1617 f1613 f1614 f1607 f1608 f1609 f1610 f1611 f1612 (by first | (simp only [if_pos hc1676]; done) | rfl)
        · intro hc1676
          refine k_aload K X1603 at_187 rfl rfl (q := 189) rfl ?_
          refine k_virtual K X1603 rfl at_189 (wd hw 51 rfl) (wd hw 52 rfl) (wd hw 54 rfl) (wd hw 53 rfl) (wd hw 4 rfl) (wd hw 55 rfl) (by decide) f1614 (rm9 l Z az hw [] b1552 (0 : Int32) v1620 (.ref b1453) v1619 v1589 v1618 T1601.heap n0 Z1617 f1614 f1609 ge1560 f1612 f1607 f1611 f1610 f1608) (W := 0) (by decide) (by decide) (by decide) (by decide) rfl pd_1 (argsL := []) (rest := []) rfl rfl rfl (Nat.le_of_eq rfl) (q := 192) rfl ?_
          rintro _ T1677 L1678 X1679 ⟨rfl, N1680, K1681, f1683, f1684, f1685, f1686, f1687, f1688⟩
          have f1689 := Ary.keep f1613 K1681 (ninS ne1559 nin0)
          have f1690 := Exa.keep f1614 K1681
          have N1691 := Fr.app N1615 N1680
          have K1692 := Keep.trans K1616 K1681 (allS (Or.inr bn1561) all0)
          have Z1693 := Nat.le_trans Z1617 K1681.1
          exact J1648 T1677 _ _ _ X1679 N1691 rfl K1692 Z1693 f1689 f1690 f1683 f1684 f1685 f1686 f1687 f1688 (by first | (simp only [if_neg hc1676]; done) | rfl)
      refine k_icmp_ne K X1593 at_163 (by decide) (q := 170) rfl (q' := 166) rfl ?_ ?_
      · intro hc1694
        refine k_iconst K X1593 at_170 (v := (0 : Int32)) rfl (q := 171) rfl ?_
        exact J1600 _ (by first | (simp only [if_neg hc1694]; done) | rfl)
      · intro hc1694
        refine k_iconst K X1593 at_166 (v := (1 : Int32)) rfl (q := 167) rfl ?_
        refine k_goto K X1593 at_167 (by decide) (q := 171) rfl ?_
        exact J1600 _ (by first | (simp only [if_pos hc1694]; done) | rfl)
    refine k_icmp_lt K X1593 at_155 (by decide) (q := 162) rfl (q' := 158) rfl ?_ ?_
    · intro hc1695
      refine k_iconst K X1593 at_162 (v := (0 : Int32)) rfl (q := 163) rfl ?_
      exact J1597 _ (by first | (simp only [if_pos hc1695]; done) | rfl)
    · intro hc1695
      refine k_iconst K X1593 at_158 (v := (1 : Int32)) rfl (q := 159) rfl ?_
      refine k_goto K X1593 at_159 (by decide) (q := 163) rfl ?_
      exact J1597 _ (by first | (simp only [if_neg hc1695]; done) | rfl)
  refine k_if_eq K X1536 at_122 (by decide) (q := 129) rfl (q' := 125) rfl ?_ ?_
  · intro hc1696
    refine k_iconst K X1536 at_129 (v := (0 : Int32)) rfl (q := 130) rfl ?_
    exact J1549 _ (by first | (simp only [if_pos hc1696]; done) | rfl)
  · intro hc1696
    refine k_iconst K X1536 at_125 (v := (1 : Int32)) rfl (q := 126) rfl ?_
    refine k_goto K X1536 at_126 (by decide) (q := 130) rfl ?_
    exact J1549 _ (by first | (simp only [if_neg hc1696]; done) | rfl)
theorem law_eq (p0 p1 p2 p3 : Int32) (q4 : Int64) : F_law p0 p1 p2 p3 q4 = 1 := by
  have O := own_3 p0
  have Ln := own_md p1 (25 - (p0 &&& 3)) (by omega)
  rw [O.2.2] at Ln
  have N := own_md p2 65 (by decide)
  have V := own_5 (p0 &&& 3) ((p1 &&& 2147483647) % (25 - (p0 &&& 3))) O.1 O.2.1 Ln.1 Ln.2
  have e65 : (65 : Int32).toInt = 65 := rfl
  simp only [F_law, own_ip, own_ie, own_ir, F_direct_a0_position]
  generalize (fun i => List.getD _ i (0 : Int32)) = g
  generalize F_init_a0_code _ _ _ _ _ _ _ _ _ = cd
  generalize (p1 &&& 2147483647) % (25 - (p0 &&& 3)) = l at *
  generalize (p2 &&& 2147483647) % 65 = c at *
  generalize p0 &&& 3 = o at *
  have L := own_L4 c 0 (-1) cd (o + 1 + 1 + 1 + 1 + 1) (o + l) 24 g 0 c.toInt.toNat 0 0 (-1) cd (o + 1 + 1 + 1 + 1 + 1) (own_dv0 ⟨rfl, by omega, by omega, by omega, by omega, by omega⟩)
  have e0 : (0 : Int32).toInt = 0 := rfl
  have e5 : (5 : Int32).toInt = 5 := rfl
  rw [e0] at L
  generalize L6_6_4 _ _ _ _ _ _ _ _ _ _ _ _ _ _ _ = z at *
  have h1 : o + l < o + 1 + 1 + 1 + 1 + 1 ↔ l < 5 := by rw [own_ltI, own_ltI, e5]; omega
  have d8 := (c_idiv c 8 8 rfl (by decide)).1 (by omega)
  have s5 := c_iadd 5 (c / 8); have b5 := rng32 (5 + c / 8)
  have h2 : o + l < z ↔ l < 5 + c / 8 := by rw [own_ltI, own_ltI]; omega
  simp only [F_whole, h1, h2]
  by_cases k1 : l < 5 <;> by_cases k2 : l < 5 + c / 8 <;> by_cases k3 : p3 &&& 1 = 0 <;> simp only [k1, k2, k3, if_true, if_false] <;> decide
set_option maxRecDepth 65536 in
set_option maxHeartbeats 40000000 in
theorem comes_1 {Post : Tables → Env → Array Value → State → Outcome → State → Prop} (hpost : ∀ tb e args s v u, (limb_1_1.after args s (.returned v) u = true ∧ limb_1_2.after args s (.returned v) u = true ∧ True) → FrameEnd s (.returned v) u (Jvm.fieldLocs frame_1_writes args s ++ Jvm.arrayLocs frame_1_arrays args s ++ Jvm.staticLocs frame_1_statics s) 16 128 → Post tb e args s (.returned v) u) :
    ArmFor flags0 classFile x code maxLocals ret World_1 tables_1 room_1 Calls_1 rest_1 Pre_1 Post := by
  intro l hfl _ _ p e ha hc hk s m args below hf hA hF happ hP
  obtain ⟨hcalls, hrest, hpre⟩ := hP
  obtain ⟨-, -, -, hnamed, -, -, -, hat⟩ := (Spec.applies_iff hf).mp happ
  obtain ⟨hg, hn⟩ := and_e (Cond.before_iff.mp (show (Jvm.Cond.and given_1 narrow_1).before args s = true from hpre))
  obtain ⟨gc, g0⟩ := and_e hg
  obtain ⟨ga0, g1⟩ := and_e g0
  obtain ⟨ga1, g2⟩ := and_e g1
  obtain ⟨ga2, g3⟩ := and_e g2
  obtain ⟨ga3, g4⟩ := and_e g3
  obtain ⟨w0, w1, w2, w3, w4, rfl⟩ : ∃ w0 w1 w2 w3 w4 : Value, args = #[w0, w1, w2, w3, w4] := by
    have hs : args.size = 5 := by simpa [Cond.value, given_1] using gc
    obtain ⟨L⟩ := args
    match L, hs with
    | [w0, w1, w2, w3, w4], _ => exact ⟨w0, w1, w2, w3, w4, rfl⟩
  have hw := fun d (hd : d ∈ tables_1) => atoms_spec (ws := Jvm.Cond.code x code maxLocals ret :: tables_1) hat d (List.mem_cons_of_mem _ hd)
  obtain ⟨i0, ei0⟩ := is_v ga0
  obtain rfl : w0 = (.int i0) := Option.some.inj ei0
  obtain ⟨i1, ei1⟩ := is_v ga1
  obtain rfl : w1 = (.int i1) := Option.some.inj ei1
  obtain ⟨i2, ei2⟩ := is_v ga2
  obtain rfl : w2 = (.int i2) := Option.some.inj ei2
  obtain ⟨i3, ei3⟩ := is_v ga3
  obtain rfl : w3 = (.int i3) := Option.some.inj ei3
  obtain ⟨i4, ei4⟩ := isL_v g4
  obtain rfl : w4 = (.long i4) := Option.some.inj ei4
  obtain ⟨n, o, h1, h2, h3, _, L, rfl, ⟨rfl, N⟩, hq⟩ := rm0 l s _ hw tables_1 i0 i1 i2 i3 i4 s.heap s.heap.size (Nat.le_refl _) p e ha hc hk s m _ below hf ((Spec.applies_iff_loose hf).mp happ).1 ⟨rfl, State.Warmed39.refl s, rfl⟩ trivial
  rw [law_eq] at *
  refine ⟨n, _, h1, h2, h3, hpost _ _ _ _ _ _ ⟨Cond.after_iff.mpr rfl, Cond.after_iff.mpr (eq_i res_at (Term.int_eval (1)) rfl), trivial⟩ ⟨hq.1, hq.2.1, (hq.2.2.sift fun y hy => Or.inr (N y hy)).mono (by decide) (by decide)⟩⟩
theorem main_1_1 : Claimed_1_1 := comes_1 fun _ _ _ _ _ _ h hF => ⟨h.1, hF⟩
theorem main_1_2 : Claimed_1_2 := comes_1 fun _ _ _ _ _ _ h hF => ⟨h.2.1, hF⟩
end Jvm.Pilot.@@N@@
namespace Jvm.Pilot.@@N@@
open Jvm Jvm.ClassFile Sem Op Lib Jvm.Free Jvm.Stand Jvm.Pilot.@@N@@.Jvm.D
/-! MADE BY PROGRAM (witnessworld.py) out of the Statement's table words and the real class files: 15 classes; the members and pool entries that the words name. The judged class is class 1, her method 1. -/
namespace start1
open Jvm.ClassFile
def u (s : String) : CpInfo := .utf8 (stringToUtf16 s)
/-- a pool by its gaps: so many unusable entries, then the entry; so many at the end -/
def gap : Nat → List CpInfo → List CpInfo
  | 0, r => r
  | n + 1, r => .unusable :: gap n r
def poolList (es : List (Nat × CpInfo)) (last : Nat) : List CpInfo := es.foldr (fun e r => gap e.1 (e.2 :: r)) (gap last [])
def pool (es : List (Nat × CpInfo)) (last : Nat) : Array CpInfo := ⟨poolList es last⟩
def fileOf (pool : Array CpInfo) (this : Nat) (attrs : Array Attribute := #[]) (ms : Array MethodInfo := #[]) (fl : Nat := 33) (sup : Nat := 0) (ifs : Array Nat := #[]) (fds : Array FieldInfo := #[]) : ClassFile where
  minorVersion := 0
  majorVersion := 65
  constantPool := pool
  accessFlags := fl
  thisClass := this
  superClass := sup
  interfaces := ifs
  fields := fds
  methods := ms
  attributes := attrs
def plain (name : String) (sup : Option ClassId) : Class where
  name := name
  kind := .ordinary
  loader := none
  accessFlags := 33
  super := sup
  interfaces := #[]
  cf := none
  fields := #[]
  methods := #[]
  instanceTypes := #[]
  staticTypes := #[]
  resolved := #[]
  callSites := []
  init := .initialized
  statics := none
  mirror := none

def pool0 : Array CpInfo := pool [(5, u "<init>"), (0, u "()V"), (1, .class_ 10), (1, u "java/lang/Object")] 113

def k0c0 : Code := { maxStack := 0, maxLocals := 1, code := object_method_1_code, exceptionTable := #[], attributes := #[] }
def k0m0 : Method := { name := "<init>", desc := "()V", sig := { parameters := [], returnType := none }, accessFlags := 1, code := some k0c0 }
/-- java/lang/Object -/
def k0 : Class := { plain "java/lang/Object" none with
  accessFlags := 33
  interfaces := #[]
  cf := some (fileOf pool0 8 #[] #[{ accessFlags := 1, nameIndex := 5, descriptorIndex := 6, attributes := #[] }] 33 0 #[] #[])
  fields := #[]
  methods := #[k0m0]
  instanceTypes := #[]
  staticTypes := #[]
  resolved := Array.replicate 124 none
  statics := none }

def pool1 : Array CpInfo := pool [(2, .class_ 4), (1, u "java/lang/Object"), (0, u "<init>"), (0, u "()V"), (0, .integer 2147483647), (0, .class_ 9), (0, u "com/example/tidelake/tidelake/hub/RangeCoder$Decoder"), (0, .methodref 8 11), (0, .nameAndType 5 12), (0, u "([BII)V"), (0, .methodref 8 14), (0, .nameAndType 15 16), (0, u "whole"), (0, u "()Z"), (0, .methodref 8 18), (0, .nameAndType 19 20), (0, u "direct"), (0, u "(IJ)J"), (0, .methodref 8 22), (0, .nameAndType 23 6), (0, u "damaged"), (0, .class_ 25), (0, u "com/example/tidelake/tidelake/hub/DecoderWholePinLaw"), (2, u "law"), (0, u "(IIIIJ)Z")] 9

def k1m0 : Method := { name := "<init>", desc := "()V", sig := { parameters := [], returnType := none }, accessFlags := 1, code := none }
def k1c1 : Code := { maxStack := 5, maxLocals := 15, code := code, exceptionTable := #[], attributes := #[] }
def k1m1 : Method := { name := "law", desc := "(IIIIJ)Z", sig := { parameters := [.int, .int, .int, .int, .long], returnType := some .boolean }, accessFlags := 9, code := some k1c1 }
/-- com/example/tidelake/tidelake/hub/DecoderWholePinLaw -/
def k1 : Class := { plain "com/example/tidelake/tidelake/hub/DecoderWholePinLaw" (some 0) with
  accessFlags := 49
  interfaces := #[]
  cf := some (fileOf pool1 24 #[] #[{ accessFlags := 1, nameIndex := 5, descriptorIndex := 6, attributes := #[] }, { accessFlags := 9, nameIndex := 28, descriptorIndex := 29, attributes := #[] }] 49 2 #[] #[])
  fields := #[]
  methods := #[k1m0, k1m1]
  instanceTypes := #[]
  staticTypes := #[]
  resolved := Array.replicate 39 none
  statics := none }

def pool2 : Array CpInfo := pool [(1, .class_ 2), (0, u "com/example/tidelake/tidelake/hub/RangeCoder"), (0, .methodref 4 5), (0, .class_ 6), (0, .nameAndType 7 8), (0, u "java/lang/Object"), (0, u "<init>"), (0, u "()V"), (44, u "SHARES"), (0, u "[I"), (9, u "COSTS"), (18, u "STEADY"), (0, u "I"), (2, u "FRESH"), (0, u "PROBABILITY_BITS"), (1, u "ONE"), (0, u "CODING_BITS"), (1, u "LEAST"), (0, u "TOP"), (1, u "COST_UNIT"), (1, u "NUMBER_MODEL"), (21, .class_ 121), (0, u "com/example/tidelake/tidelake/hub/RangeCoder$Cost"), (0, .class_ 123), (0, u "com/example/tidelake/tidelake/hub/RangeCoder$Decoder"), (0, .class_ 125), (0, u "com/example/tidelake/tidelake/hub/RangeCoder$Encoder")] 4

def k2c0 : Code := { maxStack := 1, maxLocals := 1, code := prog_119_method_1_code, exceptionTable := #[], attributes := #[] }
def k2m0 : Method := { name := "<init>", desc := "()V", sig := { parameters := [], returnType := none }, accessFlags := 0, code := some k2c0 }
/-- com/example/tidelake/tidelake/hub/RangeCoder -/
def k2 : Class := { plain "com/example/tidelake/tidelake/hub/RangeCoder" (some 0) with
  accessFlags := 1056
  interfaces := #[]
  cf := some (fileOf pool2 1 #[.nestMembers #[120, 122, 124]] #[{ accessFlags := 0, nameIndex := 7, descriptorIndex := 8, attributes := #[] }] 1056 4 #[] #[{ accessFlags := 26, nameIndex := 83, descriptorIndex := 84, attributes := #[] }, { accessFlags := 26, nameIndex := 87, descriptorIndex := 84, attributes := #[] }, { accessFlags := 26, nameIndex := 88, descriptorIndex := 84, attributes := #[] }, { accessFlags := 26, nameIndex := 90, descriptorIndex := 84, attributes := #[] }, { accessFlags := 26, nameIndex := 91, descriptorIndex := 84, attributes := #[] }, { accessFlags := 26, nameIndex := 93, descriptorIndex := 84, attributes := #[] }, { accessFlags := 26, nameIndex := 53, descriptorIndex := 54, attributes := #[] }, { accessFlags := 26, nameIndex := 94, descriptorIndex := 84, attributes := #[] }, { accessFlags := 26, nameIndex := 64, descriptorIndex := 54, attributes := #[] }, { accessFlags := 26, nameIndex := 96, descriptorIndex := 84, attributes := #[] }, { accessFlags := 24, nameIndex := 98, descriptorIndex := 84, attributes := #[] }])
  fields := #[{ name := "STEADY", type := .int, accessFlags := 26, slot := 0, constantValue := 0 }, { name := "FRESH", type := .int, accessFlags := 26, slot := 1, constantValue := 0 }, { name := "PROBABILITY_BITS", type := .int, accessFlags := 26, slot := 2, constantValue := 0 }, { name := "ONE", type := .int, accessFlags := 26, slot := 3, constantValue := 0 }, { name := "CODING_BITS", type := .int, accessFlags := 26, slot := 4, constantValue := 0 }, { name := "LEAST", type := .int, accessFlags := 26, slot := 5, constantValue := 0 }, { name := "SHARES", type := (.array .int), accessFlags := 26, slot := 6, constantValue := 0 }, { name := "TOP", type := .int, accessFlags := 26, slot := 7, constantValue := 0 }, { name := "COSTS", type := (.array .int), accessFlags := 26, slot := 8, constantValue := 0 }, { name := "COST_UNIT", type := .int, accessFlags := 26, slot := 9, constantValue := 0 }, { name := "NUMBER_MODEL", type := .int, accessFlags := 24, slot := 10, constantValue := 0 }]
  methods := #[k2m0]
  instanceTypes := #[]
  staticTypes := #[.int, .int, .int, .int, .int, .int, (.array .int), .int, (.array .int), .int, .int]
  resolved := Array.replicate 130 none
  statics := none }

def pool3 : Array CpInfo := pool [(1, .class_ 2), (0, u "com/example/tidelake/tidelake/hub/RangeCoder"), (0, .methodref 1 4), (0, .nameAndType 5 6), (0, u "<init>"), (0, u "()V"), (0, .fieldref 8 9), (0, .class_ 10), (0, .nameAndType 11 12), (0, u "com/example/tidelake/tidelake/hub/RangeCoder$Decoder"), (0, u "range"), (0, u "I"), (0, .fieldref 8 14), (0, .nameAndType 15 16), (0, u "bytes"), (0, u "[B"), (0, .fieldref 8 18), (0, .nameAndType 19 12), (0, u "position"), (0, .fieldref 8 21), (0, .nameAndType 22 12), (0, u "end"), (0, .fieldref 8 24), (0, .nameAndType 25 12), (0, u "code"), (0, .methodref 8 27), (0, .nameAndType 28 29), (0, u "next"), (0, u "()I"), (4, .methodref 35 36), (0, .class_ 37), (0, .nameAndType 38 39), (0, u "java/lang/Integer"), (0, u "compareUnsigned"), (0, u "(II)I"), (3, .integer 16777216), (0, .fieldref 8 45), (0, .nameAndType 46 47), (0, u "damaged"), (0, u "Z"), (0, u "([BII)V"), (6, u "direct"), (0, u "(IJ)J"), (1, u "()Z"), (0, u "whole")] 5

def k3c0 : Code := { maxStack := 3, maxLocals := 5, code := prog_121_method_1_code, exceptionTable := #[], attributes := #[] }
def k3m0 : Method := { name := "<init>", desc := "([BII)V", sig := { parameters := [(.array .byte), .int, .int], returnType := none }, accessFlags := 0, code := some k3c0 }
def k3c1 : Code := { maxStack := 4, maxLocals := 8, code := prog_121_method_3_code, exceptionTable := #[], attributes := #[] }
def k3m1 : Method := { name := "direct", desc := "(IJ)J", sig := { parameters := [.int, .long], returnType := some .long }, accessFlags := 0, code := some k3c1 }
def k3c2 : Code := { maxStack := 2, maxLocals := 1, code := prog_121_method_5_code, exceptionTable := #[], attributes := #[] }
def k3m2 : Method := { name := "damaged", desc := "()V", sig := { parameters := [], returnType := none }, accessFlags := 0, code := some k3c2 }
def k3c3 : Code := { maxStack := 2, maxLocals := 1, code := prog_121_method_7_code, exceptionTable := #[], attributes := #[] }
def k3m3 : Method := { name := "whole", desc := "()Z", sig := { parameters := [], returnType := some .boolean }, accessFlags := 0, code := some k3c3 }
def k3c4 : Code := { maxStack := 3, maxLocals := 2, code := prog_121_method_8_code, exceptionTable := #[], attributes := #[] }
def k3m4 : Method := { name := "next", desc := "()I", sig := { parameters := [], returnType := some .int }, accessFlags := 2, code := some k3c4 }
/-- com/example/tidelake/tidelake/hub/RangeCoder$Decoder -/
def k3 : Class := { plain "com/example/tidelake/tidelake/hub/RangeCoder$Decoder" (some 2) with
  accessFlags := 48
  interfaces := #[]
  cf := some (fileOf pool3 8 #[.nestHost 1] #[{ accessFlags := 0, nameIndex := 5, descriptorIndex := 48, attributes := #[] }, { accessFlags := 0, nameIndex := 55, descriptorIndex := 56, attributes := #[] }, { accessFlags := 0, nameIndex := 46, descriptorIndex := 6, attributes := #[] }, { accessFlags := 0, nameIndex := 59, descriptorIndex := 58, attributes := #[] }, { accessFlags := 2, nameIndex := 28, descriptorIndex := 29, attributes := #[] }] 48 1 #[] #[{ accessFlags := 18, nameIndex := 15, descriptorIndex := 16, attributes := #[] }, { accessFlags := 2, nameIndex := 19, descriptorIndex := 12, attributes := #[] }, { accessFlags := 18, nameIndex := 22, descriptorIndex := 12, attributes := #[] }, { accessFlags := 2, nameIndex := 11, descriptorIndex := 12, attributes := #[] }, { accessFlags := 2, nameIndex := 25, descriptorIndex := 12, attributes := #[] }, { accessFlags := 2, nameIndex := 46, descriptorIndex := 47, attributes := #[] }])
  fields := #[{ name := "bytes", type := (.array .byte), accessFlags := 18, slot := 0, constantValue := 0 }, { name := "position", type := .int, accessFlags := 2, slot := 1, constantValue := 0 }, { name := "end", type := .int, accessFlags := 18, slot := 2, constantValue := 0 }, { name := "range", type := .int, accessFlags := 2, slot := 3, constantValue := 0 }, { name := "code", type := .int, accessFlags := 2, slot := 4, constantValue := 0 }, { name := "damaged", type := .boolean, accessFlags := 2, slot := 5, constantValue := 0 }]
  methods := #[k3m0, k3m1, k3m2, k3m3, k3m4]
  instanceTypes := #[(.array .byte), .int, .int, .int, .int, .boolean]
  staticTypes := #[]
  resolved := Array.replicate 65 none
  statics := none }

def pool4 : Array CpInfo := pool [(1, .class_ 2), (0, u "java/io/Serializable"), (0, .class_ 4), (0, u "java/lang/Object")] 2

/-- java/io/Serializable -/
def k4 : Class := { plain "java/io/Serializable" (some 0) with
  accessFlags := 1537
  interfaces := #[]
  cf := some (fileOf pool4 1 #[] #[] 1537 3 #[] #[])
  fields := #[]
  methods := #[]
  instanceTypes := #[]
  staticTypes := #[]
  resolved := Array.replicate 7 none
  statics := none }

def pool5 : Array CpInfo := pool [(2, .class_ 4), (1, u "java/lang/Object"), (0, u "<init>"), (0, u "()V"), (1, .class_ 10), (1, u "java/lang/Number"), (2, .class_ 14), (0, u "java/io/Serializable"), (0, u "serialVersionUID"), (0, u "J")] 20

def k5m0 : Method := { name := "<init>", desc := "()V", sig := { parameters := [], returnType := none }, accessFlags := 1, code := none }
/-- java/lang/Number -/
def k5 : Class := { plain "java/lang/Number" (some 0) with
  accessFlags := 1057
  interfaces := #[4]
  cf := some (fileOf pool5 8 #[] #[{ accessFlags := 1, nameIndex := 5, descriptorIndex := 6, attributes := #[] }] 1057 2 #[13] #[{ accessFlags := 26, nameIndex := 15, descriptorIndex := 16, attributes := #[] }])
  fields := #[{ name := "serialVersionUID", type := .long, accessFlags := 26, slot := 0, constantValue := 0 }]
  methods := #[k5m0]
  instanceTypes := #[]
  staticTypes := #[.long]
  resolved := Array.replicate 37 none
  statics := none }

def pool6 : Array CpInfo := pool [(1, .class_ 2), (0, u "java/lang/Comparable"), (0, .class_ 4), (0, u "java/lang/Object")] 7

/-- java/lang/Comparable -/
def k6 : Class := { plain "java/lang/Comparable" (some 0) with
  accessFlags := 1537
  interfaces := #[]
  cf := some (fileOf pool6 1 #[] #[] 1537 3 #[] #[])
  fields := #[]
  methods := #[]
  instanceTypes := #[]
  staticTypes := #[]
  resolved := Array.replicate 12 none
  statics := none }

def pool7 : Array CpInfo := pool [(1, .class_ 2), (0, u "java/lang/constant/Constable"), (0, .class_ 4), (0, u "java/lang/Object")] 6

/-- java/lang/constant/Constable -/
def k7 : Class := { plain "java/lang/constant/Constable" (some 0) with
  accessFlags := 1537
  interfaces := #[]
  cf := some (fileOf pool7 1 #[] #[] 1537 3 #[] #[])
  fields := #[]
  methods := #[]
  instanceTypes := #[]
  staticTypes := #[]
  resolved := Array.replicate 11 none
  statics := none }

def pool8 : Array CpInfo := pool [(1, .class_ 2), (0, u "java/lang/constant/ConstantDesc"), (0, .class_ 4), (0, u "java/lang/Object")] 32

/-- java/lang/constant/ConstantDesc -/
def k8 : Class := { plain "java/lang/constant/ConstantDesc" (some 0) with
  accessFlags := 1537
  interfaces := #[]
  cf := some (fileOf pool8 1 #[] #[] 1537 3 #[] #[])
  fields := #[]
  methods := #[]
  instanceTypes := #[]
  staticTypes := #[]
  resolved := Array.replicate 37 none
  statics := none }

def pool9 : Array CpInfo := pool [(1, .class_ 2), (0, u "java/lang/Integer"), (16, u "digits"), (0, u "[C"), (39, u "(II)I"), (24, u "DigitOnes"), (0, u "[B"), (2, u "DigitTens"), (37, .integer 2147483648), (61, .class_ 190), (0, u "java/lang/Integer$IntegerCache"), (3, u "I"), (8, .class_ 204), (0, u "java/lang/Number"), (2, u "value"), (51, .methodref 1 260), (0, .nameAndType 261 60), (0, u "compare"), (40, u "TYPE"), (0, u "Ljava/lang/Class;"), (0, .class_ 305), (0, u "java/lang/Comparable"), (0, .class_ 307), (0, u "java/lang/constant/Constable"), (0, .class_ 309), (0, u "java/lang/constant/ConstantDesc"), (0, u "MIN_VALUE"), (1, u "MAX_VALUE"), (3, u "SIZE"), (1, u "BYTES"), (1, u "serialVersionUID"), (0, u "J"), (76, u "compareUnsigned")] 54

def k9c0 : Code := { maxStack := 2, maxLocals := 2, code := jdk_33_method_40_code, exceptionTable := #[], attributes := #[] }
def k9m0 : Method := { name := "compare", desc := "(II)I", sig := { parameters := [.int, .int], returnType := some .int }, accessFlags := 9, code := some k9c0 }
def k9c1 : Code := { maxStack := 3, maxLocals := 2, code := jdk_33_method_41_code, exceptionTable := #[], attributes := #[] }
def k9m1 : Method := { name := "compareUnsigned", desc := "(II)I", sig := { parameters := [.int, .int], returnType := some .int }, accessFlags := 9, code := some k9c1 }
/-- java/lang/Integer -/
def k9 : Class := { plain "java/lang/Integer" (some 5) with
  accessFlags := 49
  interfaces := #[6, 7, 8]
  cf := some (fileOf pool9 1 #[.nestMembers #[189]] #[{ accessFlags := 9, nameIndex := 261, descriptorIndex := 60, attributes := #[] }, { accessFlags := 9, nameIndex := 398, descriptorIndex := 60, attributes := #[] }] 49 203 #[304, 306, 308] #[{ accessFlags := 25, nameIndex := 310, descriptorIndex := 194, attributes := #[] }, { accessFlags := 25, nameIndex := 312, descriptorIndex := 194, attributes := #[] }, { accessFlags := 25, nameIndex := 302, descriptorIndex := 303, attributes := #[] }, { accessFlags := 24, nameIndex := 19, descriptorIndex := 20, attributes := #[] }, { accessFlags := 24, nameIndex := 89, descriptorIndex := 86, attributes := #[] }, { accessFlags := 24, nameIndex := 85, descriptorIndex := 86, attributes := #[] }, { accessFlags := 18, nameIndex := 207, descriptorIndex := 194, attributes := #[] }, { accessFlags := 25, nameIndex := 316, descriptorIndex := 194, attributes := #[] }, { accessFlags := 25, nameIndex := 318, descriptorIndex := 194, attributes := #[] }, { accessFlags := 26, nameIndex := 320, descriptorIndex := 321, attributes := #[] }])
  fields := #[{ name := "MIN_VALUE", type := .int, accessFlags := 25, slot := 0, constantValue := 0 }, { name := "MAX_VALUE", type := .int, accessFlags := 25, slot := 1, constantValue := 0 }, { name := "TYPE", type := (.object "java/lang/Class"), accessFlags := 25, slot := 2, constantValue := 0 }, { name := "digits", type := (.array .char), accessFlags := 24, slot := 3, constantValue := 0 }, { name := "DigitTens", type := (.array .byte), accessFlags := 24, slot := 4, constantValue := 0 }, { name := "DigitOnes", type := (.array .byte), accessFlags := 24, slot := 5, constantValue := 0 }, { name := "value", type := .int, accessFlags := 18, slot := 0, constantValue := 0 }, { name := "SIZE", type := .int, accessFlags := 25, slot := 6, constantValue := 0 }, { name := "BYTES", type := .int, accessFlags := 25, slot := 7, constantValue := 0 }, { name := "serialVersionUID", type := .long, accessFlags := 26, slot := 8, constantValue := 0 }]
  methods := #[k9m0, k9m1]
  instanceTypes := #[.int]
  staticTypes := #[.int, .int, (.object "java/lang/Class"), (.array .char), (.array .byte), (.array .byte), .int, .int, .long]
  resolved := Array.replicate 453 none
  statics := none }

def pool10 : Array CpInfo := pool [(1, u "java/lang/Cloneable"), (0, .class_ 1), (0, u "java/lang/Object"), (0, .class_ 3)] 3

/-- java/lang/Cloneable -/
def k10 : Class := { plain "java/lang/Cloneable" (some 0) with
  accessFlags := 1537
  interfaces := #[]
  cf := some (fileOf pool10 2 #[] #[] 1537 4 #[] #[])
  fields := #[]
  methods := #[]
  instanceTypes := #[]
  staticTypes := #[]
  resolved := Array.replicate 8 none
  statics := none }

/-- the primitive byte -/
def k11 : Class := { plain "byte" none with kind := .primitive 'B', accessFlags := 0x411 }
/-- [B -/
def k12 : Class := { plain "[B" (some 0) with kind := .array 11 .byte, interfaces := #[10, 4], accessFlags := 1041 }

/-- the primitive int -/
def k13 : Class := { plain "int" none with kind := .primitive 'I', accessFlags := 0x411 }
/-- [I -/
def k14 : Class := { plain "[I" (some 0) with kind := .array 13 .int, interfaces := #[10, 4], accessFlags := 1041 }

def heap : Heap := #[]
def classes : Array Class := #[k0, k1, k2, k3, k4, k5, k6, k7, k8, k9, k10, k11, k12, k13, k14]
def interned : List (Array UInt16 × Addr) := []
def slotsUsed : Nat := 0
def theMethod : MethodId := ⟨1, 1⟩
def args0 : Array Value := #[.int 5, .int 7, .int 9, .int 11, .long 13]
def aboutOver (below : List Frame) : State where
  vm := { classes := classes, interned := interned.toArray }
  heap := heap
  slotsUsed := slotsUsed
  threads := #[{ frames := .invoking theMethod args0 :: below }]
def below0 : List Frame := [.native { method := ⟨0, 0⟩, args := #[] }]
def about1 : State := aboutOver below0
def p0 : Program := .bare "" "" ""
def e0 : Env := launch0.env 0 0 0
theorem w_frames : about1.frames = Frame.invoking theMethod args0 :: below0 := rfl
set_option maxRecDepth 65536 in
theorem w_args : argsFit about1.vm theMethod args0 = true := by decide +kernel
set_option maxRecDepth 65536 in
theorem w_heap : heapFits about1 = true := by decide +kernel
set_option maxRecDepth 65536 in
theorem w_runnable : about1.curStatus? = some .runnable := by decide +kernel
set_option maxRecDepth 65536 in
theorem w_alone : about1.alone = true := by decide +kernel
set_option maxRecDepth 65536 in
theorem w_named : about1.methodNamed? x = some theMethod := by decide +kernel
set_option maxRecDepth 65536 in
theorem w_hears : about1.hears theMethod below0 = true := by decide +kernel
set_option maxRecDepth 65536 in
theorem w_ripe : about1.ripe theMethod args0 below0 = true := by decide +kernel
theorem w_running : about1.status = .running := rfl
set_option maxRecDepth 65536 in
theorem w_room : about1.hasRoom e0.platform room_1 = true :=
  launch0.hasRoom_least _ room_1 (by decide +kernel) (by decide +kernel) (by decide +kernel) (by decide +kernel) (by decide +kernel) (by decide +kernel)
theorem allAtoms_all (ts : List Jvm.Cond) (a : Array Jvm.Value) (st : Jvm.State) : (allAtoms ts).before a st = ts.all (fun c => c.before a st) := by
  induction ts with
  | nil => rfl
  | cons c t ih =>
    show (Jvm.Cond.and c (allAtoms t)).before a st = _
    rw [Jvm.Cond.before_and, ih, List.all_cons]
def words1 : List Jvm.Cond := Jvm.Cond.code x code maxLocals ret :: tables_1
/-- a 'code' word, met by the world's own term for the bytes: nothing is compared byte by byte -/
theorem code_word {y : MethodName} {bytes : ByteArray} {mx : Nat} {rt : Option FieldType} {a : Array Value} {s : State} {m : MethodId} {meth : Method} {c : Code} (h1 : s.methodNamed? y = some m) (h2 : s.vm.method? m = some meth) (h3 : meth.code = some c) (h4 : c.code = bytes)
    (h5 : (c.maxLocals == mx && c.exceptionTable.isEmpty && decide (c.maxStack ≤ mostOperands) && decide (meth.sig.returnType = rt) && !meth.locks && decide (parseMethodDescriptor y.desc = some meth.sig)) = true) : (Jvm.Cond.code y bytes mx rt).before a s = true := by
  simp only [Bool.and_eq_true, beq_iff_eq, Bool.not_eq_true', decide_eq_true_eq] at h5
  obtain ⟨⟨⟨⟨⟨g1, g2⟩, g3⟩, g4⟩, g5⟩, g6⟩ := h5
  simp [Cond.before, Cond.holds, Cond.value, h1, h2, h3, h4, g1, g2, g3, g4, g5, g6]
def isCode : Jvm.Cond → Bool
  | .code _ _ _ _ => true
  | _ => false
theorem all_split {L : List Jvm.Cond} {P : Jvm.Cond → Bool} (h1 : L.all (fun c => isCode c || P c) = true) (h2 : ∀ c ∈ L.filter isCode, P c = true) : L.all P = true := by
  refine List.all_eq_true.mpr fun c hc => ?_
  have h := List.all_eq_true.mp h1 c hc
  rcases Bool.eq_false_or_eq_true (isCode c) with hi | hi
  · exact h2 c (List.mem_filter.mpr ⟨hc, hi⟩)
  · simpa [hi] using h
set_option maxRecDepth 65536 in
theorem w_c0 : (Jvm.Cond.code x code maxLocals ret).before args0 about1 = true := code_word (m := ⟨1, 1⟩) (meth := k1m1) (c := k1c1) (by decide +kernel) rfl rfl rfl (by decide +kernel)
set_option maxRecDepth 65536 in
theorem w_c1 : (Jvm.Cond.code ({ cls := "com/example/tidelake/tidelake/hub/RangeCoder$Decoder", name := "<init>", desc := "([BII)V" } : Jvm.MethodName) prog_121_method_1_code (5 : Nat) (Option.none : Option Jvm.ClassFile.FieldType)).before args0 about1 = true := code_word (m := ⟨3, 0⟩) (meth := k3m0) (c := k3c0) (by decide +kernel) rfl rfl rfl (by decide +kernel)
set_option maxRecDepth 65536 in
theorem w_c2 : (Jvm.Cond.code ({ cls := "com/example/tidelake/tidelake/hub/RangeCoder", name := "<init>", desc := "()V" } : Jvm.MethodName) prog_119_method_1_code (1 : Nat) (Option.none : Option Jvm.ClassFile.FieldType)).before args0 about1 = true := code_word (m := ⟨2, 0⟩) (meth := k2m0) (c := k2c0) (by decide +kernel) rfl rfl rfl (by decide +kernel)
set_option maxRecDepth 65536 in
theorem w_c3 : (Jvm.Cond.code ({ cls := "java/lang/Object", name := "<init>", desc := "()V" } : Jvm.MethodName) object_method_1_code (1 : Nat) (Option.none : Option Jvm.ClassFile.FieldType)).before args0 about1 = true := code_word (m := ⟨0, 0⟩) (meth := k0m0) (c := k0c0) (by decide +kernel) rfl rfl rfl (by decide +kernel)
set_option maxRecDepth 65536 in
theorem w_c4 : (Jvm.Cond.code ({ cls := "com/example/tidelake/tidelake/hub/RangeCoder$Decoder", name := "next", desc := "()I" } : Jvm.MethodName) prog_121_method_8_code (2 : Nat) (Option.some Jvm.ClassFile.FieldType.int)).before args0 about1 = true := code_word (m := ⟨3, 4⟩) (meth := k3m4) (c := k3c4) (by decide +kernel) rfl rfl rfl (by decide +kernel)
set_option maxRecDepth 65536 in
theorem w_c5 : (Jvm.Cond.code ({ cls := "com/example/tidelake/tidelake/hub/RangeCoder$Decoder", name := "whole", desc := "()Z" } : Jvm.MethodName) prog_121_method_7_code (1 : Nat) (Option.some Jvm.ClassFile.FieldType.boolean)).before args0 about1 = true := code_word (m := ⟨3, 3⟩) (meth := k3m3) (c := k3c3) (by decide +kernel) rfl rfl rfl (by decide +kernel)
set_option maxRecDepth 65536 in
theorem w_c6 : (Jvm.Cond.code ({ cls := "com/example/tidelake/tidelake/hub/RangeCoder$Decoder", name := "direct", desc := "(IJ)J" } : Jvm.MethodName) prog_121_method_3_code (8 : Nat) (Option.some Jvm.ClassFile.FieldType.long)).before args0 about1 = true := code_word (m := ⟨3, 1⟩) (meth := k3m1) (c := k3c1) (by decide +kernel) rfl rfl rfl (by decide +kernel)
set_option maxRecDepth 65536 in
theorem w_c7 : (Jvm.Cond.code ({ cls := "java/lang/Integer", name := "compareUnsigned", desc := "(II)I" } : Jvm.MethodName) jdk_33_method_41_code (2 : Nat) (Option.some Jvm.ClassFile.FieldType.int)).before args0 about1 = true := code_word (m := ⟨9, 1⟩) (meth := k9m1) (c := k9c1) (by decide +kernel) rfl rfl rfl (by decide +kernel)
set_option maxRecDepth 65536 in
theorem w_c8 : (Jvm.Cond.code ({ cls := "java/lang/Integer", name := "compare", desc := "(II)I" } : Jvm.MethodName) jdk_33_method_40_code (2 : Nat) (Option.some Jvm.ClassFile.FieldType.int)).before args0 about1 = true := code_word (m := ⟨9, 0⟩) (meth := k9m0) (c := k9c0) (by decide +kernel) rfl rfl rfl (by decide +kernel)
set_option maxRecDepth 65536 in
theorem w_c9 : (Jvm.Cond.code ({ cls := "com/example/tidelake/tidelake/hub/RangeCoder$Decoder", name := "damaged", desc := "()V" } : Jvm.MethodName) prog_121_method_5_code (1 : Nat) (Option.none : Option Jvm.ClassFile.FieldType)).before args0 about1 = true := code_word (m := ⟨3, 2⟩) (meth := k3m2) (c := k3c2) (by decide +kernel) rfl rfl rfl (by decide +kernel)
def codes1 : List Jvm.Cond := [Jvm.Cond.code x code maxLocals ret, Jvm.Cond.code ({ cls := "com/example/tidelake/tidelake/hub/RangeCoder$Decoder", name := "<init>", desc := "([BII)V" } : Jvm.MethodName) prog_121_method_1_code (5 : Nat) (Option.none : Option Jvm.ClassFile.FieldType), Jvm.Cond.code ({ cls := "com/example/tidelake/tidelake/hub/RangeCoder", name := "<init>", desc := "()V" } : Jvm.MethodName) prog_119_method_1_code (1 : Nat) (Option.none : Option Jvm.ClassFile.FieldType), Jvm.Cond.code ({ cls := "java/lang/Object", name := "<init>", desc := "()V" } : Jvm.MethodName) object_method_1_code (1 : Nat) (Option.none : Option Jvm.ClassFile.FieldType), Jvm.Cond.code ({ cls := "com/example/tidelake/tidelake/hub/RangeCoder$Decoder", name := "next", desc := "()I" } : Jvm.MethodName) prog_121_method_8_code (2 : Nat) (Option.some Jvm.ClassFile.FieldType.int), Jvm.Cond.code ({ cls := "com/example/tidelake/tidelake/hub/RangeCoder$Decoder", name := "whole", desc := "()Z" } : Jvm.MethodName) prog_121_method_7_code (1 : Nat) (Option.some Jvm.ClassFile.FieldType.boolean), Jvm.Cond.code ({ cls := "com/example/tidelake/tidelake/hub/RangeCoder$Decoder", name := "direct", desc := "(IJ)J" } : Jvm.MethodName) prog_121_method_3_code (8 : Nat) (Option.some Jvm.ClassFile.FieldType.long), Jvm.Cond.code ({ cls := "java/lang/Integer", name := "compareUnsigned", desc := "(II)I" } : Jvm.MethodName) jdk_33_method_41_code (2 : Nat) (Option.some Jvm.ClassFile.FieldType.int), Jvm.Cond.code ({ cls := "java/lang/Integer", name := "compare", desc := "(II)I" } : Jvm.MethodName) jdk_33_method_40_code (2 : Nat) (Option.some Jvm.ClassFile.FieldType.int), Jvm.Cond.code ({ cls := "com/example/tidelake/tidelake/hub/RangeCoder$Decoder", name := "damaged", desc := "()V" } : Jvm.MethodName) prog_121_method_5_code (1 : Nat) (Option.none : Option Jvm.ClassFile.FieldType)]
set_option maxRecDepth 65536 in
theorem codes_eq : words1.filter isCode = codes1 := rfl
theorem w_codes : ∀ c ∈ words1.filter isCode, c.before args0 about1 = true := by
  rw [codes_eq]
  intro c hc
  simp only [codes1, List.mem_cons, List.not_mem_nil, or_false] at hc
  rcases hc with rfl | rfl | rfl | rfl | rfl | rfl | rfl | rfl | rfl | rfl
  · exact w_c0
  · exact w_c1
  · exact w_c2
  · exact w_c3
  · exact w_c4
  · exact w_c5
  · exact w_c6
  · exact w_c7
  · exact w_c8
  · exact w_c9
set_option maxRecDepth 65536 in
theorem w_t1 : (words1.take 24).all (fun c => isCode c || c.before args0 about1) = true := by decide +kernel
set_option maxRecDepth 65536 in
theorem w_t2 : ((words1.drop 24).take 24).all (fun c => isCode c || c.before args0 about1) = true := by decide +kernel
set_option maxRecDepth 65536 in
theorem w_t3 : ((words1.drop 24).drop 24).all (fun c => isCode c || c.before args0 about1) = true := by decide +kernel
theorem w_tables : (allAtoms (Jvm.Cond.code x code maxLocals ret :: tables_1)).before args0 about1 = true := by
  rw [allAtoms_all]
  show words1.all (fun c => c.before args0 about1) = true
  refine all_split ?_ w_codes
  rw [← List.take_append_drop 24 words1, List.all_append, w_t1, ← List.take_append_drop 24 (words1.drop 24), List.all_append, w_t2, w_t3]
  rfl
set_option maxRecDepth 65536 in
theorem w_case : (Jvm.Cond.and given_1 narrow_1).before args0 about1 = true := by decide +kernel
theorem w_applies : (headSpec (Jvm.Cond.code x code maxLocals ret :: tables_1) room_1).applies x e0.platform about1 = true :=
  (Spec.applies_iff w_frames).mpr ⟨w_running, w_runnable, w_alone, w_named, w_hears, w_ripe, w_room, w_tables⟩
theorem atStart : AtStart classFile x code maxLocals ret World_1 tables_1 room_1 Calls_1 rest_1 Pre_1 launch0 p0 e0 about1 theMethod args0 below0 :=
  ⟨lists_1, trivial, launch0.admits_env _ _ _, launch0.least_env, fairChoices_fair.cas, fairChoices_fair.clock, w_frames, w_args, w_heap, w_applies, trivial, trivial, w_case⟩
end start1
theorem witness_1 : WitnessClaimed_1 := ⟨start1.p0, start1.e0, start1.about1, start1.theMethod, start1.args0, start1.below0, start1.atStart⟩
end Jvm.Pilot.@@N@@
