import JvmDerived
import JvmDerived.Pilot.@@N@@Statement
import JvmDerived.Pilot.@@N@@Code
set_option linter.unusedVariables false
set_option linter.unusedSimpArgs false
namespace Jvm.Pilot.@@N@@
open Jvm Jvm.ClassFile Sem Op Lib Jvm.Free Jvm.Stand Jvm.LawKit Jvm.RoadKit Bundle Jvm.Pilot.@@N@@.Jvm.D
section OwnKit
variable {p : Program} {l : Launch} {e : Env} {R : Room} {s : State} {m : MethodId} {args : Array Value} {below : List Frame} {meth : Method} {c : Code} {T T' : State} {locs : List Loc} {cells slots kc kn : Nat} {Q : Option Value → Heap → List Loc → Prop} {f f' : JFrame} {pc q q' : Nat} {Ls Ls' : Array Slot} {st : List Value} {Z : State} {a0 : Array Value} {h : Heap} {by' : ByteArray} {ml : Nat} {own nm : String} {ret : Option FieldType}
/-- from this state, with this frame on top, the body returns as Q says -/
def Run (p : Program) (e : Env) (below : List Frame) (s : State) (kc kn : Nat) (Q : Option Value → Heap → List Loc → Prop) (T : State) (f : JFrame) : Prop :=
  ∃ t o, Steps p.tables e below (T.setTop f) t ∧ t.status = .running ∧ Ended t below o ∧ ∃ v L, o = .returned v ∧ Q v t.heap L ∧ FrameEnd s o t L kc kn
theorem Run.by (st : ∀ t, Steps p.tables e below (T'.setTop f') t → Steps p.tables e below (T.setTop f) t) (k : Run p e below s kc kn Q T' f') : Run p e below s kc kn Q T f := by
  obtain ⟨t, o, h1, r⟩ := k
  exact ⟨t, o, st t h1, r⟩
theorem Run.on (k : Run p e below s kc kn Q T' f') (st : Steps p.tables e below (T.setTop f) (T'.setTop f')) : Run p e below s kc kn Q T f := k.by fun _ h1 => st.trans h1
/-- what a walk knows of its method throughout -/
def Fx (p : Program) (s : State) (m : MethodId) (meth : Method) (c : Code) (by' : ByteArray) (ml : Nat) (own nm : String) (ret : Option FieldType) (Z : State) : Prop :=
  p.tables.exec = Jvm.exec ∧ c.code = by' ∧ c.maxLocals = ml ∧ s.vm.findClass own = some m.cls ∧ Z.Warmed39 s.vm ∧ meth.sig.returnType = ret ∧ meth.locks = false ∧ meth.name = nm
def ushrI (x k : Int32) : Int32 := (x.toUInt32 >>> (k &&& 31).toUInt32).toInt32
def ushrL (x : Int64) (k : Int32) : Int64 := (x.toUInt64 >>> (k &&& 0x3f).toInt64.toUInt64).toInt64
def i2b (x : Int32) : Int32 := x.toInt8.toInt32
theorem k_iloadN (K : Fx p s m meth c by' ml own nm ret Z) (X : Stand p l e R s m args below meth c T locs cells slots) {k' : Fin 4} {v : Int32} (hd : decode by' pc = .ok (.iload_n k', 1)) (hl : Ls[k'.val]? = some (.val (.int v))) (hq : pc + 1 = q) (k : Run p e below s kc kn Q T (mkF m q Ls (.int v :: st))) : Run p e below s kc kn Q T (mkF m pc Ls st) := by
  subst hq; exact k.by fun t => XS.iloadN X.here K.1 rfl (hb K.2.1 hd) hl
theorem k_iload (K : Fx p s m meth c by' ml own nm ret Z) (X : Stand p l e R s m args below meth c T locs cells slots) {k' : Nat} {v : Int32} (hd : decode by' pc = .ok (.iload k', 2)) (hl : Ls[k']? = some (.val (.int v))) (hq : pc + 2 = q) (k : Run p e below s kc kn Q T (mkF m q Ls (.int v :: st))) : Run p e below s kc kn Q T (mkF m pc Ls st) := by
  subst hq; exact k.by fun t => XS.iload X.here K.1 rfl (hb K.2.1 hd) hl
theorem k_lloadN (K : Fx p s m meth c by' ml own nm ret Z) (X : Stand p l e R s m args below meth c T locs cells slots) {k' : Fin 4} {v : Int64} (hd : decode by' pc = .ok (.lload_n k', 1)) (hl : Ls[k'.val]? = some (.val (.long v))) (hq : pc + 1 = q) (k : Run p e below s kc kn Q T (mkF m q Ls (.long v :: st))) : Run p e below s kc kn Q T (mkF m pc Ls st) := by
  subst hq; exact k.by fun t => XS.lloadN X.here K.1 rfl (hb K.2.1 hd) hl
theorem k_aloadN (K : Fx p s m meth c by' ml own nm ret Z) (X : Stand p l e R s m args below meth c T locs cells slots) {k' : Fin 4} {v : Value} (hd : decode by' pc = .ok (.aload_n k', 1)) (hl : Ls[k'.val]? = some (.val v)) (hv : v.isRef = true) (hq : pc + 1 = q) (k : Run p e below s kc kn Q T (mkF m q Ls (v :: st))) : Run p e below s kc kn Q T (mkF m pc Ls st) := by
  subst hq; exact k.by fun t => XS.aloadN X.here K.1 rfl (hb K.2.1 hd) hl hv
theorem k_aload (K : Fx p s m meth c by' ml own nm ret Z) (X : Stand p l e R s m args below meth c T locs cells slots) {k' : Nat} {v : Value} (hd : decode by' pc = .ok (.aload k', 2)) (hl : Ls[k']? = some (.val v)) (hv : v.isRef = true) (hq : pc + 2 = q) (k : Run p e below s kc kn Q T (mkF m q Ls (v :: st))) : Run p e below s kc kn Q T (mkF m pc Ls st) := by
  subst hq; exact k.by fun t => XS.aload X.here K.1 rfl (hb K.2.1 hd) hl hv
theorem k_istoreN (K : Fx p s m meth c by' ml own nm ret Z) (X : Stand p l e R s m args below meth c T locs cells slots) {k' : Fin 4} {v x : Int32} (hd : decode by' pc = .ok (.istore_n k', 1)) (hv : x = v) (hl : storeLocals Ls k'.val (.int v) = some Ls') (hq : pc + 1 = q) (k : Run p e below s kc kn Q T (mkF m q Ls' st)) : Run p e below s kc kn Q T (mkF m pc Ls (.int x :: st)) := by
  subst hq hv; exact k.by fun t => XS.istoreN X.here K.1 rfl (hb K.2.1 hd) rfl hl
theorem k_istore (K : Fx p s m meth c by' ml own nm ret Z) (X : Stand p l e R s m args below meth c T locs cells slots) {k' : Nat} {v x : Int32} (hd : decode by' pc = .ok (.istore k', 2)) (hv : x = v) (hl : storeLocals Ls k' (.int v) = some Ls') (hq : pc + 2 = q) (k : Run p e below s kc kn Q T (mkF m q Ls' st)) : Run p e below s kc kn Q T (mkF m pc Ls (.int x :: st)) := by
  subst hq hv; exact k.by fun t => XS.istore X.here K.1 rfl (hb K.2.1 hd) rfl hl
theorem k_lstoreN (K : Fx p s m meth c by' ml own nm ret Z) (X : Stand p l e R s m args below meth c T locs cells slots) {k' : Fin 4} {v x : Int64} (hd : decode by' pc = .ok (.lstore_n k', 1)) (hv : x = v) (hl : storeLocals Ls k'.val (.long v) = some Ls') (hq : pc + 1 = q) (k : Run p e below s kc kn Q T (mkF m q Ls' st)) : Run p e below s kc kn Q T (mkF m pc Ls (.long x :: st)) := by
  subst hq hv; exact k.by fun t => XS.lstoreN X.here K.1 rfl (hb K.2.1 hd) rfl hl
theorem k_astoreN (K : Fx p s m meth c by' ml own nm ret Z) (X : Stand p l e R s m args below meth c T locs cells slots) {k' : Fin 4} {v : Value} (hd : decode by' pc = .ok (.astore_n k', 1)) (hv : v.isRef = true) (hl : storeLocals Ls k'.val v = some Ls') (hq : pc + 1 = q) (k : Run p e below s kc kn Q T (mkF m q Ls' st)) : Run p e below s kc kn Q T (mkF m pc Ls (v :: st)) := by
  subst hq; exact k.by fun t => XS.astoreN X.here K.1 rfl (hb K.2.1 hd) rfl hv hl
theorem k_astore (K : Fx p s m meth c by' ml own nm ret Z) (X : Stand p l e R s m args below meth c T locs cells slots) {k' : Nat} {v : Value} (hd : decode by' pc = .ok (.astore k', 2)) (hv : v.isRef = true) (hl : storeLocals Ls k' v = some Ls') (hq : pc + 2 = q) (k : Run p e below s kc kn Q T (mkF m q Ls' st)) : Run p e below s kc kn Q T (mkF m pc Ls (v :: st)) := by
  subst hq; exact k.by fun t => XS.astore X.here K.1 rfl (hb K.2.1 hd) rfl hv hl
theorem k_iinc (K : Fx p s m meth c by' ml own nm ret Z) (X : Stand p l e R s m args below meth c T locs cells slots) {k' : Nat} {cst : Int} {x v : Int32} (hd : decode by' pc = .ok (.iinc k' cst, 3)) (hg : Ls[k']? = some (.val (.int x))) (hv : x + Int32.ofInt cst = v) (hl : storeLocals Ls k' (.int v) = some Ls') (hq : pc + 3 = q) (k : Run p e below s kc kn Q T (mkF m q Ls' st)) : Run p e below s kc kn Q T (mkF m pc Ls st) := by
  subst hq hv; exact k.by fun t => XS.iinc X.here K.1 rfl (hb K.2.1 hd) hg hl
theorem k_iconst (K : Fx p s m meth c by' ml own nm ret Z) (X : Stand p l e R s m args below meth c T locs cells slots) {i : Int} {v : Int32} (hd : decode by' pc = .ok (.iconst i, 1)) (hv : Int32.ofInt i = v) (hq : pc + 1 = q) (k : Run p e below s kc kn Q T (mkF m q Ls (.int v :: st))) : Run p e below s kc kn Q T (mkF m pc Ls st) := by
  subst hq hv; exact k.by fun t => XS.iconst X.here K.1 rfl (hb K.2.1 hd)
theorem k_bipush (K : Fx p s m meth c by' ml own nm ret Z) (X : Stand p l e R s m args below meth c T locs cells slots) {i : Int} {v : Int32} (hd : decode by' pc = .ok (.bipush i, 2)) (hv : (Int8.ofInt i).toInt32 = v) (hq : pc + 2 = q) (k : Run p e below s kc kn Q T (mkF m q Ls (.int v :: st))) : Run p e below s kc kn Q T (mkF m pc Ls st) := by
  subst hq hv; exact k.by fun t => XS.bipush X.here K.1 rfl (hb K.2.1 hd)
theorem k_iadd (K : Fx p s m meth c by' ml own nm ret Z) (X : Stand p l e R s m args below meth c T locs cells slots) {x y : Int32} (hd : decode by' pc = .ok (.iadd, 1)) (hq : pc + 1 = q) (k : Run p e below s kc kn Q T (mkF m q Ls (.int (x + y) :: st))) : Run p e below s kc kn Q T (mkF m pc Ls (.int y :: .int x :: st)) := by
  subst hq; exact k.by fun t => XS.iadd X.here K.1 rfl (hb K.2.1 hd) rfl
theorem k_ladd (K : Fx p s m meth c by' ml own nm ret Z) (X : Stand p l e R s m args below meth c T locs cells slots) {x y : Int64} (hd : decode by' pc = .ok (.ladd, 1)) (hq : pc + 1 = q) (k : Run p e below s kc kn Q T (mkF m q Ls (.long (x + y) :: st))) : Run p e below s kc kn Q T (mkF m pc Ls (.long y :: .long x :: st)) := by
  subst hq; exact k.by fun t => XS.ladd X.here K.1 rfl (hb K.2.1 hd) rfl
theorem k_isub (K : Fx p s m meth c by' ml own nm ret Z) (X : Stand p l e R s m args below meth c T locs cells slots) {x y : Int32} (hd : decode by' pc = .ok (.isub, 1)) (hq : pc + 1 = q) (k : Run p e below s kc kn Q T (mkF m q Ls (.int (x - y) :: st))) : Run p e below s kc kn Q T (mkF m pc Ls (.int y :: .int x :: st)) := by
  subst hq; exact k.by fun t => XS.isub X.here K.1 rfl (hb K.2.1 hd) rfl
theorem k_lmul (K : Fx p s m meth c by' ml own nm ret Z) (X : Stand p l e R s m args below meth c T locs cells slots) {x y : Int64} (hd : decode by' pc = .ok (.lmul, 1)) (hq : pc + 1 = q) (k : Run p e below s kc kn Q T (mkF m q Ls (.long (x * y) :: st))) : Run p e below s kc kn Q T (mkF m pc Ls (.long y :: .long x :: st)) := by
  subst hq; exact k.by fun t => XS.lmul X.here K.1 rfl (hb K.2.1 hd) rfl
theorem k_iand (K : Fx p s m meth c by' ml own nm ret Z) (X : Stand p l e R s m args below meth c T locs cells slots) {x y : Int32} (hd : decode by' pc = .ok (.iand, 1)) (hq : pc + 1 = q) (k : Run p e below s kc kn Q T (mkF m q Ls (.int (x &&& y) :: st))) : Run p e below s kc kn Q T (mkF m pc Ls (.int y :: .int x :: st)) := by
  subst hq; exact k.by fun t => XS.iand X.here K.1 rfl (hb K.2.1 hd) rfl
theorem k_iushr (K : Fx p s m meth c by' ml own nm ret Z) (X : Stand p l e R s m args below meth c T locs cells slots) {x y : Int32} (hd : decode by' pc = .ok (.iushr, 1)) (hq : pc + 1 = q) (k : Run p e below s kc kn Q T (mkF m q Ls (.int (ushrI x y) :: st))) : Run p e below s kc kn Q T (mkF m pc Ls (.int y :: .int x :: st)) := by
  subst hq; exact k.by fun t => XS.iushr X.here K.1 rfl (hb K.2.1 hd) rfl
theorem k_lushr (K : Fx p s m meth c by' ml own nm ret Z) (X : Stand p l e R s m args below meth c T locs cells slots) {x : Int64} {y : Int32} (hd : decode by' pc = .ok (.lushr, 1)) (hq : pc + 1 = q) (k : Run p e below s kc kn Q T (mkF m q Ls (.long (ushrL x y) :: st))) : Run p e below s kc kn Q T (mkF m pc Ls (.int y :: .long x :: st)) := by
  subst hq; exact k.by fun t => XS.lushr X.here K.1 rfl (hb K.2.1 hd) rfl
theorem k_i2l (K : Fx p s m meth c by' ml own nm ret Z) (X : Stand p l e R s m args below meth c T locs cells slots) {x : Int32} (hd : decode by' pc = .ok (.i2l, 1)) (hq : pc + 1 = q) (k : Run p e below s kc kn Q T (mkF m q Ls (.long x.toInt64 :: st))) : Run p e below s kc kn Q T (mkF m pc Ls (.int x :: st)) := by
  subst hq; exact k.by fun t => XS.i2l X.here K.1 rfl (hb K.2.1 hd) rfl
theorem k_l2i (K : Fx p s m meth c by' ml own nm ret Z) (X : Stand p l e R s m args below meth c T locs cells slots) {x : Int64} (hd : decode by' pc = .ok (.l2i, 1)) (hq : pc + 1 = q) (k : Run p e below s kc kn Q T (mkF m q Ls (.int x.toInt32 :: st))) : Run p e below s kc kn Q T (mkF m pc Ls (.long x :: st)) := by
  subst hq; exact k.by fun t => XS.l2i X.here K.1 rfl (hb K.2.1 hd) rfl
theorem k_i2b (K : Fx p s m meth c by' ml own nm ret Z) (X : Stand p l e R s m args below meth c T locs cells slots) {x : Int32} (hd : decode by' pc = .ok (.i2b, 1)) (hq : pc + 1 = q) (k : Run p e below s kc kn Q T (mkF m q Ls (.int (i2b x) :: st))) : Run p e below s kc kn Q T (mkF m pc Ls (.int x :: st)) := by
  subst hq; exact k.by fun t => XS.i2b X.here K.1 rfl (hb K.2.1 hd) rfl
theorem k_lcmp (K : Fx p s m meth c by' ml own nm ret Z) (X : Stand p l e R s m args below meth c T locs cells slots) {x y : Int64} (hd : decode by' pc = .ok (.lcmp, 1)) (hq : pc + 1 = q) (k : Run p e below s kc kn Q T (mkF m q Ls (.int (lcmpW x y) :: st))) : Run p e below s kc kn Q T (mkF m pc Ls (.long y :: .long x :: st)) := by
  subst hq; exact k.by fun t => XS.lcmp X.here K.1 rfl (hb K.2.1 hd) rfl
theorem k_dup (K : Fx p s m meth c by' ml own nm ret Z) (X : Stand p l e R s m args below meth c T locs cells slots) {v : Value} (hd : decode by' pc = .ok (.dup, 1)) (hc : v.category = 1) (hq : pc + 1 = q) (k : Run p e below s kc kn Q T (mkF m q Ls (v :: v :: st))) : Run p e below s kc kn Q T (mkF m pc Ls (v :: st)) := by
  subst hq; exact k.by fun t => XS.dup X.here K.1 rfl (hb K.2.1 hd) rfl hc
theorem k_pop (K : Fx p s m meth c by' ml own nm ret Z) (X : Stand p l e R s m args below meth c T locs cells slots) {v : Value} (hd : decode by' pc = .ok (.pop, 1)) (hc : v.category = 1) (hq : pc + 1 = q) (k : Run p e below s kc kn Q T (mkF m q Ls st)) : Run p e below s kc kn Q T (mkF m pc Ls (v :: st)) := by
  subst hq; exact k.by fun t => XS.pop X.here K.1 rfl (hb K.2.1 hd) rfl hc
theorem k_dup_x1 (K : Fx p s m meth c by' ml own nm ret Z) (X : Stand p l e R s m args below meth c T locs cells slots) {v u : Value} (hd : decode by' pc = .ok (.dup_x1, 1)) (hc : v.category = 1) (hc' : u.category = 1) (hq : pc + 1 = q) (k : Run p e below s kc kn Q T (mkF m q Ls (v :: u :: v :: st))) : Run p e below s kc kn Q T (mkF m pc Ls (v :: u :: st)) := by
  subst hq; exact k.by fun t => XS.dupX1 X.here K.1 rfl (hb K.2.1 hd) rfl hc hc'
theorem k_goto (K : Fx p s m meth c by' ml own nm ret Z) (X : Stand p l e R s m args below meth c T locs cells slots) {o : Int} (hd : decode by' pc = .ok (.goto o, 3)) (ho : 0 ≤ (pc : Int) + o) (hq : ((pc : Int) + o).toNat = q) (k : Run p e below s kc kn Q T (mkF m q Ls st)) : Run p e below s kc kn Q T (mkF m pc Ls st) := k.by fun t => XS.goto X.here K.1 rfl rfl (hb K.2.1 hd) ho hq
theorem k_nameI {x v : Int32} (hv : x = v) (k : Run p e below s kc kn Q T (mkF m pc Ls (.int v :: st))) : Run p e below s kc kn Q T (mkF m pc Ls (.int x :: st)) := by
  subst hv; exact k
theorem k_nameJ {x v : Int64} (hv : x = v) (k : Run p e below s kc kn Q T (mkF m pc Ls (.long v :: st))) : Run p e below s kc kn Q T (mkF m pc Ls (.long x :: st)) := by
  subst hv; exact k
theorem k_if_eq_y (K : Fx p s m meth c by' ml own nm ret Z) (X : Stand p l e R s m args below meth c T locs cells slots) {x : Int32} {o : Int} (hd : decode by' pc = .ok (.ifCond .eq o, 3)) (hc : x = 0) (ho : 0 ≤ (pc : Int) + o) (hq : ((pc : Int) + o).toNat = q) (k : Run p e below s kc kn Q T (mkF m q Ls st)) : Run p e below s kc kn Q T (mkF m pc Ls (.int x :: st)) := k.by fun t => XS.ifYes X.here K.1 rfl rfl (hb K.2.1 hd) rfl ((if0 _ _).trans (teq hc).1) ho hq
theorem k_if_eq_n (K : Fx p s m meth c by' ml own nm ret Z) (X : Stand p l e R s m args below meth c T locs cells slots) {x : Int32} {o : Int} (hd : decode by' pc = .ok (.ifCond .eq o, 3)) (hc : ¬ x = 0) (hq : pc + 3 = q) (k : Run p e below s kc kn Q T (mkF m q Ls st)) : Run p e below s kc kn Q T (mkF m pc Ls (.int x :: st)) := by
  subst hq; exact k.by fun t => XS.ifNo X.here K.1 rfl (hb K.2.1 hd) rfl ((if0 _ _).trans (feq hc).1)
theorem k_if_eq (K : Fx p s m meth c by' ml own nm ret Z) (X : Stand p l e R s m args below meth c T locs cells slots) {x : Int32} {o : Int} (hd : decode by' pc = .ok (.ifCond .eq o, 3)) (ho : 0 ≤ (pc : Int) + o) (hq : ((pc : Int) + o).toNat = q) (hq' : pc + 3 = q') (ky : x = 0 → Run p e below s kc kn Q T (mkF m q Ls st)) (kno : ¬ x = 0 → Run p e below s kc kn Q T (mkF m q' Ls st)) : Run p e below s kc kn Q T (mkF m pc Ls (.int x :: st)) := by
  by_cases hc : x = 0
  · exact k_if_eq_y K X hd hc ho hq (ky hc)
  · exact k_if_eq_n K X hd hc hq' (kno hc)
theorem k_icmp_eq_y (K : Fx p s m meth c by' ml own nm ret Z) (X : Stand p l e R s m args below meth c T locs cells slots) {x y : Int32} {o : Int} (hd : decode by' pc = .ok (.if_icmp .eq o, 3)) (hc : x = y) (ho : 0 ≤ (pc : Int) + o) (hq : ((pc : Int) + o).toNat = q) (k : Run p e below s kc kn Q T (mkF m q Ls st)) : Run p e below s kc kn Q T (mkF m pc Ls (.int y :: .int x :: st)) := k.by fun t => XS.icmpYes X.here K.1 rfl rfl (hb K.2.1 hd) rfl (teq hc).1 ho hq
theorem k_if_ne_y (K : Fx p s m meth c by' ml own nm ret Z) (X : Stand p l e R s m args below meth c T locs cells slots) {x : Int32} {o : Int} (hd : decode by' pc = .ok (.ifCond .ne o, 3)) (hc : ¬ x = 0) (ho : 0 ≤ (pc : Int) + o) (hq : ((pc : Int) + o).toNat = q) (k : Run p e below s kc kn Q T (mkF m q Ls st)) : Run p e below s kc kn Q T (mkF m pc Ls (.int x :: st)) := k.by fun t => XS.ifYes X.here K.1 rfl rfl (hb K.2.1 hd) rfl ((if0 _ _).trans (feq hc).2) ho hq
theorem k_if_ne_n (K : Fx p s m meth c by' ml own nm ret Z) (X : Stand p l e R s m args below meth c T locs cells slots) {x : Int32} {o : Int} (hd : decode by' pc = .ok (.ifCond .ne o, 3)) (hc : x = 0) (hq : pc + 3 = q) (k : Run p e below s kc kn Q T (mkF m q Ls st)) : Run p e below s kc kn Q T (mkF m pc Ls (.int x :: st)) := by
  subst hq; exact k.by fun t => XS.ifNo X.here K.1 rfl (hb K.2.1 hd) rfl ((if0 _ _).trans (teq hc).2)
theorem k_icmp_ne_y (K : Fx p s m meth c by' ml own nm ret Z) (X : Stand p l e R s m args below meth c T locs cells slots) {x y : Int32} {o : Int} (hd : decode by' pc = .ok (.if_icmp .ne o, 3)) (hc : ¬ x = y) (ho : 0 ≤ (pc : Int) + o) (hq : ((pc : Int) + o).toNat = q) (k : Run p e below s kc kn Q T (mkF m q Ls st)) : Run p e below s kc kn Q T (mkF m pc Ls (.int y :: .int x :: st)) := k.by fun t => XS.icmpYes X.here K.1 rfl rfl (hb K.2.1 hd) rfl (feq hc).2 ho hq
theorem k_icmp_ne_n (K : Fx p s m meth c by' ml own nm ret Z) (X : Stand p l e R s m args below meth c T locs cells slots) {x y : Int32} {o : Int} (hd : decode by' pc = .ok (.if_icmp .ne o, 3)) (hc : x = y) (hq : pc + 3 = q) (k : Run p e below s kc kn Q T (mkF m q Ls st)) : Run p e below s kc kn Q T (mkF m pc Ls (.int y :: .int x :: st)) := by
  subst hq; exact k.by fun t => XS.icmpNo X.here K.1 rfl (hb K.2.1 hd) rfl (teq hc).2
theorem k_icmp_ne (K : Fx p s m meth c by' ml own nm ret Z) (X : Stand p l e R s m args below meth c T locs cells slots) {x y : Int32} {o : Int} (hd : decode by' pc = .ok (.if_icmp .ne o, 3)) (ho : 0 ≤ (pc : Int) + o) (hq : ((pc : Int) + o).toNat = q) (hq' : pc + 3 = q') (ky : ¬ x = y → Run p e below s kc kn Q T (mkF m q Ls st)) (kno : x = y → Run p e below s kc kn Q T (mkF m q' Ls st)) : Run p e below s kc kn Q T (mkF m pc Ls (.int y :: .int x :: st)) := by
  by_cases hc : x = y
  · exact k_icmp_ne_n K X hd hc hq' (kno hc)
  · exact k_icmp_ne_y K X hd hc ho hq (ky hc)
theorem k_if_lt_y (K : Fx p s m meth c by' ml own nm ret Z) (X : Stand p l e R s m args below meth c T locs cells slots) {x : Int32} {o : Int} (hd : decode by' pc = .ok (.ifCond .lt o, 3)) (hc : x < 0) (ho : 0 ≤ (pc : Int) + o) (hq : ((pc : Int) + o).toNat = q) (k : Run p e below s kc kn Q T (mkF m q Ls st)) : Run p e below s kc kn Q T (mkF m pc Ls (.int x :: st)) := k.by fun t => XS.ifYes X.here K.1 rfl rfl (hb K.2.1 hd) rfl ((if0 _ _).trans (tlt hc).1) ho hq
theorem k_if_lt_n (K : Fx p s m meth c by' ml own nm ret Z) (X : Stand p l e R s m args below meth c T locs cells slots) {x : Int32} {o : Int} (hd : decode by' pc = .ok (.ifCond .lt o, 3)) (hc : ¬ x < 0) (hq : pc + 3 = q) (k : Run p e below s kc kn Q T (mkF m q Ls st)) : Run p e below s kc kn Q T (mkF m pc Ls (.int x :: st)) := by
  subst hq; exact k.by fun t => XS.ifNo X.here K.1 rfl (hb K.2.1 hd) rfl ((if0 _ _).trans (flt hc).1)
theorem k_lcmp_lt_y (K : Fx p s m meth c by' ml own nm ret Z) (X : Stand p l e R s m args below meth c T locs cells slots) {x y : Int64} {o : Int} (hd : decode by' pc = .ok (.ifCond .lt o, 3)) (hc : x < y) (ho : 0 ≤ (pc : Int) + o) (hq : ((pc : Int) + o).toNat = q) (k : Run p e below s kc kn Q T (mkF m q Ls st)) : Run p e below s kc kn Q T (mkF m pc Ls (.int (lcmpW x y) :: st)) := k_if_lt_y K X hd ((lw_lt x y).mpr hc) ho hq k
theorem k_lcmp_lt_n (K : Fx p s m meth c by' ml own nm ret Z) (X : Stand p l e R s m args below meth c T locs cells slots) {x y : Int64} {o : Int} (hd : decode by' pc = .ok (.ifCond .lt o, 3)) (hc : ¬ x < y) (hq : pc + 3 = q) (k : Run p e below s kc kn Q T (mkF m q Ls st)) : Run p e below s kc kn Q T (mkF m pc Ls (.int (lcmpW x y) :: st)) := k_if_lt_n K X hd (fun z => hc ((lw_lt x y).mp z)) hq k
theorem k_lcmp_lt (K : Fx p s m meth c by' ml own nm ret Z) (X : Stand p l e R s m args below meth c T locs cells slots) {x y : Int64} {o : Int} (hd : decode by' pc = .ok (.ifCond .lt o, 3)) (ho : 0 ≤ (pc : Int) + o) (hq : ((pc : Int) + o).toNat = q) (hq' : pc + 3 = q') (ky : x < y → Run p e below s kc kn Q T (mkF m q Ls st)) (kno : ¬ x < y → Run p e below s kc kn Q T (mkF m q' Ls st)) : Run p e below s kc kn Q T (mkF m pc Ls (.int (lcmpW x y) :: st)) := by
  by_cases hc : x < y
  · exact k_lcmp_lt_y K X hd hc ho hq (ky hc)
  · exact k_lcmp_lt_n K X hd hc hq' (kno hc)
theorem k_icmp_ge_y (K : Fx p s m meth c by' ml own nm ret Z) (X : Stand p l e R s m args below meth c T locs cells slots) {x y : Int32} {o : Int} (hd : decode by' pc = .ok (.if_icmp .ge o, 3)) (hc : ¬ x < y) (ho : 0 ≤ (pc : Int) + o) (hq : ((pc : Int) + o).toNat = q) (k : Run p e below s kc kn Q T (mkF m q Ls st)) : Run p e below s kc kn Q T (mkF m pc Ls (.int y :: .int x :: st)) := k.by fun t => XS.icmpYes X.here K.1 rfl rfl (hb K.2.1 hd) rfl (flt hc).2.1 ho hq
theorem k_icmp_ge_n (K : Fx p s m meth c by' ml own nm ret Z) (X : Stand p l e R s m args below meth c T locs cells slots) {x y : Int32} {o : Int} (hd : decode by' pc = .ok (.if_icmp .ge o, 3)) (hc : x < y) (hq : pc + 3 = q) (k : Run p e below s kc kn Q T (mkF m q Ls st)) : Run p e below s kc kn Q T (mkF m pc Ls (.int y :: .int x :: st)) := by
  subst hq; exact k.by fun t => XS.icmpNo X.here K.1 rfl (hb K.2.1 hd) rfl (tlt hc).2.1
theorem k_if_gt_y (K : Fx p s m meth c by' ml own nm ret Z) (X : Stand p l e R s m args below meth c T locs cells slots) {x : Int32} {o : Int} (hd : decode by' pc = .ok (.ifCond .gt o, 3)) (hc : 0 < x) (ho : 0 ≤ (pc : Int) + o) (hq : ((pc : Int) + o).toNat = q) (k : Run p e below s kc kn Q T (mkF m q Ls st)) : Run p e below s kc kn Q T (mkF m pc Ls (.int x :: st)) := k.by fun t => XS.ifYes X.here K.1 rfl rfl (hb K.2.1 hd) rfl ((if0 _ _).trans (tlt hc).2.2.1) ho hq
theorem k_if_gt_n (K : Fx p s m meth c by' ml own nm ret Z) (X : Stand p l e R s m args below meth c T locs cells slots) {x : Int32} {o : Int} (hd : decode by' pc = .ok (.ifCond .gt o, 3)) (hc : ¬ 0 < x) (hq : pc + 3 = q) (k : Run p e below s kc kn Q T (mkF m q Ls st)) : Run p e below s kc kn Q T (mkF m pc Ls (.int x :: st)) := by
  subst hq; exact k.by fun t => XS.ifNo X.here K.1 rfl (hb K.2.1 hd) rfl ((if0 _ _).trans (flt hc).2.2.1)
theorem k_icmp_gt_y (K : Fx p s m meth c by' ml own nm ret Z) (X : Stand p l e R s m args below meth c T locs cells slots) {x y : Int32} {o : Int} (hd : decode by' pc = .ok (.if_icmp .gt o, 3)) (hc : y < x) (ho : 0 ≤ (pc : Int) + o) (hq : ((pc : Int) + o).toNat = q) (k : Run p e below s kc kn Q T (mkF m q Ls st)) : Run p e below s kc kn Q T (mkF m pc Ls (.int y :: .int x :: st)) := k.by fun t => XS.icmpYes X.here K.1 rfl rfl (hb K.2.1 hd) rfl (tlt hc).2.2.1 ho hq
theorem k_icmp_gt_n (K : Fx p s m meth c by' ml own nm ret Z) (X : Stand p l e R s m args below meth c T locs cells slots) {x y : Int32} {o : Int} (hd : decode by' pc = .ok (.if_icmp .gt o, 3)) (hc : ¬ y < x) (hq : pc + 3 = q) (k : Run p e below s kc kn Q T (mkF m q Ls st)) : Run p e below s kc kn Q T (mkF m pc Ls (.int y :: .int x :: st)) := by
  subst hq; exact k.by fun t => XS.icmpNo X.here K.1 rfl (hb K.2.1 hd) rfl (flt hc).2.2.1
theorem k_icmp_gt (K : Fx p s m meth c by' ml own nm ret Z) (X : Stand p l e R s m args below meth c T locs cells slots) {x y : Int32} {o : Int} (hd : decode by' pc = .ok (.if_icmp .gt o, 3)) (ho : 0 ≤ (pc : Int) + o) (hq : ((pc : Int) + o).toNat = q) (hq' : pc + 3 = q') (ky : y < x → Run p e below s kc kn Q T (mkF m q Ls st)) (kno : ¬ y < x → Run p e below s kc kn Q T (mkF m q' Ls st)) : Run p e below s kc kn Q T (mkF m pc Ls (.int y :: .int x :: st)) := by
  by_cases hc : y < x
  · exact k_icmp_gt_y K X hd hc ho hq (ky hc)
  · exact k_icmp_gt_n K X hd hc hq' (kno hc)
theorem k_lcmp_gt_y (K : Fx p s m meth c by' ml own nm ret Z) (X : Stand p l e R s m args below meth c T locs cells slots) {x y : Int64} {o : Int} (hd : decode by' pc = .ok (.ifCond .gt o, 3)) (hc : y < x) (ho : 0 ≤ (pc : Int) + o) (hq : ((pc : Int) + o).toNat = q) (k : Run p e below s kc kn Q T (mkF m q Ls st)) : Run p e below s kc kn Q T (mkF m pc Ls (.int (lcmpW x y) :: st)) := k_if_gt_y K X hd ((lw_gt x y).mpr hc) ho hq k
theorem k_lcmp_gt_n (K : Fx p s m meth c by' ml own nm ret Z) (X : Stand p l e R s m args below meth c T locs cells slots) {x y : Int64} {o : Int} (hd : decode by' pc = .ok (.ifCond .gt o, 3)) (hc : ¬ y < x) (hq : pc + 3 = q) (k : Run p e below s kc kn Q T (mkF m q Ls st)) : Run p e below s kc kn Q T (mkF m pc Ls (.int (lcmpW x y) :: st)) := k_if_gt_n K X hd (fun z => hc ((lw_gt x y).mp z)) hq k
theorem k_lcmp_gt (K : Fx p s m meth c by' ml own nm ret Z) (X : Stand p l e R s m args below meth c T locs cells slots) {x y : Int64} {o : Int} (hd : decode by' pc = .ok (.ifCond .gt o, 3)) (ho : 0 ≤ (pc : Int) + o) (hq : ((pc : Int) + o).toNat = q) (hq' : pc + 3 = q') (ky : y < x → Run p e below s kc kn Q T (mkF m q Ls st)) (kno : ¬ y < x → Run p e below s kc kn Q T (mkF m q' Ls st)) : Run p e below s kc kn Q T (mkF m pc Ls (.int (lcmpW x y) :: st)) := by
  by_cases hc : y < x
  · exact k_lcmp_gt_y K X hd hc ho hq (ky hc)
  · exact k_lcmp_gt_n K X hd hc hq' (kno hc)
theorem k_ifnull_n (K : Fx p s m meth c by' ml own nm ret Z) (X : Stand p l e R s m args below meth c T locs cells slots) {a : Addr} {o : Int} (hd : decode by' pc = .ok (.ifnull o, 3)) (hq : pc + 3 = q) (k : Run p e below s kc kn Q T (mkF m q Ls st)) : Run p e below s kc kn Q T (mkF m pc Ls (.ref a :: st)) := by
  subst hq; exact k.by fun t => XS.ifnullNo X.here K.1 rfl (hb K.2.1 hd) rfl
theorem k_ldc2 (K : Fx p s m meth c by' ml own nm ret Z) (X : Stand p l e R s m args below meth c T locs cells slots) {i : Nat} {v : Int64} (hd : decode by' pc = .ok (.ldc2_w i, 3)) (w : (Cond.constantLong own i v).before a0 Z = true) (hq : pc + 3 = q) (k : Run p e below s kc kn Q T (mkF m q Ls (.long v :: st))) : Run p e below s kc kn Q T (mkF m pc Ls st) := by
  subst hq; exact k.by fun t => X.ldc2Long K.1 K.2.2.2.1 (mvT K.2.2.2.2.1 w) (g := mkF m pc Ls st) rfl (hb K.2.1 hd) t
theorem k_reti (K : Fx p s m meth c by' ml own nm (some .int) Z) (X : Stand p l e R s m args below meth c T locs cells slots) {x : Int32} (eT : T.heap = h) (hd : decode by' pc = .ok (.ireturn, 1)) (hc : cells ≤ kc) (hn : slots ≤ kn) (hQ : Q (some (.int x)) h locs) : Run p e below s kc kn Q T (mkF m pc Ls [.int x]) := by
  subst eT
  have hlk := K.2.2.2.2.2.2.1
  obtain ⟨fs, hr, hrun, hended, hW, hsame⟩ := X.leave (v := (some (.int x))) (fun z => by rw [K.2.2.2.2.2.1] at z; cases z)
  exact ⟨_, _, X.ireturnOut K.1 K.2.2.2.2.2.1 rfl (Or.inl rfl) (hb K.2.1 hd) hr, hrun, hended, _, _, rfl, hQ, ⟨_, rfl⟩, hW, hsame.mono hc hn⟩
theorem k_retz (K : Fx p s m meth c by' ml own nm (some .boolean) Z) (X : Stand p l e R s m args below meth c T locs cells slots) {x : Int32} (eT : T.heap = h) (hd : decode by' pc = .ok (.ireturn, 1)) (hc : cells ≤ kc) (hn : slots ≤ kn) (hQ : Q (some (.int (nar .boolean x))) h locs) : Run p e below s kc kn Q T (mkF m pc Ls [.int x]) := by
  subst eT
  have hlk := K.2.2.2.2.2.2.1
  obtain ⟨fs, hr, hrun, hended, hW, hsame⟩ := X.leave (v := (some (.int (nar .boolean x)))) (fun z => by rw [K.2.2.2.2.2.1] at z; cases z)
  exact ⟨_, _, retN X K.1 K.2.2.2.2.2.1 (by simp) (hb K.2.1 hd) hr, hrun, hended, _, _, rfl, hQ, ⟨_, rfl⟩, hW, hsame.mono hc hn⟩
theorem k_retl (K : Fx p s m meth c by' ml own nm (some .long) Z) (X : Stand p l e R s m args below meth c T locs cells slots) {x : Int64} (eT : T.heap = h) (hd : decode by' pc = .ok (.lreturn, 1)) (hc : cells ≤ kc) (hn : slots ≤ kn) (hQ : Q (some (.long x)) h locs) : Run p e below s kc kn Q T (mkF m pc Ls [.long x]) := by
  subst eT
  have hlk := K.2.2.2.2.2.2.1
  obtain ⟨fs, hr, hrun, hended, hW, hsame⟩ := X.leave (v := (some (.long x))) (fun z => by rw [K.2.2.2.2.2.1] at z; cases z)
  exact ⟨_, _, X.lreturnOut K.1 K.2.2.2.2.2.1 (hb K.2.1 hd) hr, hrun, hended, _, _, rfl, hQ, ⟨_, rfl⟩, hW, hsame.mono hc hn⟩
theorem k_retv (K : Fx p s m meth c by' ml own nm none Z) (X : Stand p l e R s m args below meth c T locs cells slots)  (eT : T.heap = h) (hd : decode by' pc = .ok (.return_, 1)) (hc : cells ≤ kc) (hn : slots ≤ kn) (hQ : Q none h locs) : Run p e below s kc kn Q T (mkF m pc Ls []) := by
  subst eT
  have hlk := K.2.2.2.2.2.2.1
  obtain ⟨fs, hr, hrun, hended, hW, hsame⟩ := X.leave (v := none) (fun _ => rfl)
  exact ⟨_, _, X.returnOut K.1 K.2.2.2.2.2.1 (hb K.2.1 hd) hr, hrun, hended, _, _, rfl, hQ, ⟨_, rfl⟩, hW, hsame.mono hc hn⟩
theorem k_reta {rt : FieldType} (K : Fx p s m meth c by' ml own nm (some rt) Z) (X : Stand p l e R s m args below meth c T locs cells slots) {x : Value} (eT : T.heap = h) (hd : decode by' pc = .ok (.areturn, 1)) (ht : rt.isReference = true) (hx : x.isRef = true) (hc : cells ≤ kc) (hn : slots ≤ kn) (hQ : Q (some x) h locs) : Run p e below s kc kn Q T (mkF m pc Ls [x]) := by
  subst eT
  have hlk := K.2.2.2.2.2.2.1
  obtain ⟨fs, hr, hrun, hended, hW, hsame⟩ := X.leave (v := some x) (fun z => by rw [K.2.2.2.2.2.1] at z; cases z)
  exact ⟨_, _, retOut X K.1 K.2.2.2.2.2.1 (by cases rt <;> first | (cases ht; done) | rfl) (Or.inr (Or.inr (Or.inr (Or.inr ⟨rfl, ht, hx⟩)))) (hb K.2.1 hd) hr, hrun, hended, _, _, rfl, hQ, ⟨_, rfl⟩, hW, hsame.mono hc hn⟩
/-- a contract: with these arguments over this heap the body returns as Q says, within the room -/
abbrev Met (l : Launch) (y : MethodName) (bytes : ByteArray) (maxL : Nat) (ret : Option FieldType) (ws : List Jvm.Cond) (rm : Room) (Z : State) (as' : Array Value) (h0 : Heap) (Q : Option Value → Heap → List Loc → Prop) : Prop :=
  MetFree l y (head1 (Jvm.Cond.code y bytes maxL ret :: ws) rm) (fun a U => a = as' ∧ Z.Warmed39 U.vm ∧ U.heap = h0) (fun _ _ _ _ _ => True) (fun _ U o U' => ∃ v L, o = .returned v ∧ Q v U'.heap L ∧ FrameEnd U o U' L rm.cells rm.slots)
theorem enter {y : MethodName} {bytes : ByteArray} {maxL : Nat} {ws : List Jvm.Cond} {rm : Room} {as' : Array Value} {h0 : Heap} (hpl : plainFor y = true) (hef : ∀ m, entryFrame m as' maxL = mkF m 0 Ls [])
    (body : ∀ p e s m below meth c T kc kn Q', rm.cells ≤ kc → rm.slots ≤ kn → (∀ v h L, Q v h L → Q' v h L) → Fx p s m meth c bytes maxL y.cls y.name ret Z → Stand p l e rm s m as' below meth c T [] 0 0 → T.heap = h0 → Run p e below s kc kn Q' T (mkF m 0 Ls [])) : Met l y bytes maxL ret ws rm Z as' h0 Q := by
  refine MetFree.of_bodySF hpl hisR ?_
  intro p e s m args below meth c s₁ Bd hml0 hP hK
  obtain ⟨rfl, hZ, hh⟩ := hP
  obtain ⟨t, o, h1, h2, h3, v, L, h4, h5, h6⟩ := body p e s m below meth c s₁ _ _ Q (Nat.le_refl _) (Nat.le_refl _) (fun _ _ _ z => z) ⟨Bd.exec, Bd.bytes, hml0, findClass_of_methodNamed Bd.named, hZ, Bd.returns, BodyLoose.notSynchronized Bd, (name_of_methodNamed Bd.named Bd.method).1⟩ (Stand.of_body Bd) (by rw [← hh, Bd.state]; rfl)
  exact ⟨t, o, castTop (hef m) h1, h2, h3, v, L, h4, h5, h6⟩
theorem k_static (K : Fx p s m meth c by' ml own nm ret Z) (X : Stand p l e R s m args below meth c T locs cells slots) (eT : T.heap = h) {y : MethodName} {bytes : ByteArray} {maxL i W : Nat} {rt : Option FieldType} {rm : Room} {as' : Array Value} {Q' : Option Value → Heap → List Loc → Prop}
    (hd : decode by' pc = .ok (.invokestatic i, 3)) (w1 : (Cond.methodLink own i y).before a0 Z = true) (w2 : (Cond.static y).before a0 Z = true) (w3 : (Cond.initialized y.cls).before a0 Z = true) (w4 : (Cond.code y bytes maxL rt).before a0 Z = true) (hy : y.cls ≠ "java/lang/invoke/MethodHandle" ∧ y.cls ≠ "java/lang/invoke/VarHandle")
    (hM : Met l y bytes maxL rt [] rm Z as' h Q') (hf : rm.frames + 1 ≤ R.frames) (hl : W + (maxL + 11) + rm.locals ≤ R.locals) (hc : cells + rm.cells ≤ R.cells) (hn : slots + rm.slots ≤ R.slots) (hsz : Ls.size = ml)
    {sig : MethodDescriptor} (hdesc : parseMethodDescriptor y.desc = some sig) {argsL rest : List Value} (ha : as' = argsL.toArray) (hlen : argsL.length = sig.parameters.length) (hst : st = argsL.reverse ++ rest) (hW : (rest.map fun v => v.category).sum ≤ W) (hq : pc + 3 = q)
    (k : ∀ v T' L, Stand p l e R s m args below meth c T' (locs ++ L) (cells + rm.cells) (slots + rm.slots) → Q' v T'.heap L → Run p e below s kc kn Q T' (mkF m q Ls (v.toList ++ rest))) : Run p e below s kc kn Q T (mkF m pc Ls st) := by
  have hZ := K.2.2.2.2.1
  subst hq
  obtain ⟨v, _, ⟨T2, L2, k2, n2⟩, -, X2, ⟨Lc, hQ2, l2, y2, z2⟩, st2⟩ := Jvm.LawKit.callS X K.1 (y := y) K.2.2.2.1 (mvT hZ w1) (mvT hZ w2) (mvT hZ w3) (mvT hZ w4) hy (backOf (W := W) hM hZ w4 w3 hf hl) (g := mkF m pc Ls st) rfl (by rw [K.2.2.1]; exact hsz) (argsL := argsL) (rest := rest) (fun sg hs => by cases hdesc.symm.trans hs; exact hlen) hst (by show 2 * 0 + _ ≤ _; omega) (hb K.2.1 hd) (fun _ _ => ⟨ha.symm, eT, hc, hn⟩)
  dsimp only [Pt.U, Pt.locs, Pt.cells, Pt.slots] at X2 l2 y2 z2 st2 hQ2
  subst l2 y2 z2
  exact (k v T2 Lc X2 hQ2).by st2
/-- a static callee that leaves the heap as it was -/
theorem k_staticP (K : Fx p s m meth c by' ml own nm ret Z) (X : Stand p l e R s m args below meth c T locs cells slots) (eT : T.heap = h) {y : MethodName} {bytes : ByteArray} {maxL i W fr lo : Nat} {rt : Option FieldType} {as' : Array Value} {w : Value}
    (hd : decode by' pc = .ok (.invokestatic i, 3)) (w1 : (Cond.methodLink own i y).before a0 Z = true) (w2 : (Cond.static y).before a0 Z = true) (w3 : (Cond.initialized y.cls).before a0 Z = true) (w4 : (Cond.code y bytes maxL rt).before a0 Z = true) (hy : y.cls ≠ "java/lang/invoke/MethodHandle" ∧ y.cls ≠ "java/lang/invoke/VarHandle")
    (hM : Met l y bytes maxL rt [] { frames := fr, cells := 0, slots := 0, locals := lo } Z as' h (fun v h' L => v = some w ∧ h' = h ∧ L = [])) (hf : fr + 1 ≤ R.frames) (hl : W + (maxL + 11) + lo ≤ R.locals) (hc : cells ≤ R.cells) (hn : slots ≤ R.slots) (hsz : Ls.size = ml)
    {sig : MethodDescriptor} (hdesc : parseMethodDescriptor y.desc = some sig) {argsL rest : List Value} (ha : as' = argsL.toArray) (hlen : argsL.length = sig.parameters.length) (hst : st = argsL.reverse ++ rest) (hW : (rest.map fun v => v.category).sum ≤ W) (hq : pc + 3 = q)
    (k : ∀ T', Stand p l e R s m args below meth c T' locs cells slots → T'.heap = h → Run p e below s kc kn Q T' (mkF m q Ls (w :: rest))) : Run p e below s kc kn Q T (mkF m pc Ls st) := by
  refine k_static K X eT hd w1 w2 w3 w4 hy hM hf hl hc hn hsz hdesc ha hlen hst hW hq ?_
  rintro v T' L X' ⟨rfl, h2, rfl⟩
  rw [List.append_nil] at X'
  exact k T' X' h2
theorem k_staticPV (K : Fx p s m meth c by' ml own nm ret Z) (X : Stand p l e R s m args below meth c T locs cells slots) (eT : T.heap = h) {y : MethodName} {bytes : ByteArray} {maxL i W fr lo : Nat} {rt : Option FieldType} {as' : Array Value}
    (hd : decode by' pc = .ok (.invokestatic i, 3)) (w1 : (Cond.methodLink own i y).before a0 Z = true) (w2 : (Cond.static y).before a0 Z = true) (w3 : (Cond.initialized y.cls).before a0 Z = true) (w4 : (Cond.code y bytes maxL rt).before a0 Z = true) (hy : y.cls ≠ "java/lang/invoke/MethodHandle" ∧ y.cls ≠ "java/lang/invoke/VarHandle")
    (hM : Met l y bytes maxL rt [] { frames := fr, cells := 0, slots := 0, locals := lo } Z as' h (fun v h' L => v = none ∧ h' = h ∧ L = [])) (hf : fr + 1 ≤ R.frames) (hl : W + (maxL + 11) + lo ≤ R.locals) (hc : cells ≤ R.cells) (hn : slots ≤ R.slots) (hsz : Ls.size = ml)
    {sig : MethodDescriptor} (hdesc : parseMethodDescriptor y.desc = some sig) {argsL rest : List Value} (ha : as' = argsL.toArray) (hlen : argsL.length = sig.parameters.length) (hst : st = argsL.reverse ++ rest) (hW : (rest.map fun v => v.category).sum ≤ W) (hq : pc + 3 = q)
    (k : ∀ T', Stand p l e R s m args below meth c T' locs cells slots → T'.heap = h → Run p e below s kc kn Q T' (mkF m q Ls rest)) : Run p e below s kc kn Q T (mkF m pc Ls st) := by
  refine k_static K X eT hd w1 w2 w3 w4 hy hM hf hl hc hn hsz hdesc ha hlen hst hW hq ?_
  rintro v T' L X' ⟨rfl, h2, rfl⟩
  rw [List.append_nil] at X'
  exact k T' X' h2
theorem k_special (K : Fx p s m meth c by' ml own nm ret Z) (X : Stand p l e R s m args below meth c T locs cells slots) (eT : T.heap = h) {y : MethodName} {bytes : ByteArray} {maxL i W : Nat} {rm : Room} {as' : Array Value} {Q' : Option Value → Heap → List Loc → Prop} {a : Addr}
    (hd : decode by' pc = .ok (.invokespecial i, 3)) (hy1 : y.name = "<init>") (w1 : (Cond.methodLink own i y).before a0 Z = true) (w2 : (Cond.instanceMethod y).before a0 Z = true) (w3 : (Cond.initialized y.cls).before a0 Z = true) (w4 : (Cond.code y bytes maxL none).before a0 Z = true) (hy : y.cls ≠ "java/lang/invoke/MethodHandle" ∧ y.cls ≠ "java/lang/invoke/VarHandle")
    (hM : Met l y bytes maxL none [] rm Z as' h Q') (hf : rm.frames + 1 ≤ R.frames) (hl : W + (maxL + 11) + rm.locals ≤ R.locals) (hc : cells + rm.cells ≤ R.cells) (hn : slots + rm.slots ≤ R.slots) (hsz : Ls.size = ml)
    {sig : MethodDescriptor} (hdesc : parseMethodDescriptor y.desc = some sig) {argsL rest : List Value} (ha : as' = (.ref a :: argsL).toArray) (hlen : argsL.length = sig.parameters.length) (hst : st = argsL.reverse ++ .ref a :: rest) (hW : (rest.map fun v => v.category).sum ≤ W) (hq : pc + 3 = q)
    (k : ∀ v T' L, Stand p l e R s m args below meth c T' (locs ++ L) (cells + rm.cells) (slots + rm.slots) → Q' v T'.heap L → Run p e below s kc kn Q T' (mkF m q Ls (v.toList ++ rest))) : Run p e below s kc kn Q T (mkF m pc Ls st) := by
  have hZ := K.2.2.2.2.1
  subst hq
  obtain ⟨v, _, ⟨T2, L2, k2, n2⟩, -, X2, ⟨Lc, hQ2, l2, y2, z2⟩, st2⟩ := X.specialBack K.1 (y := y) hy1 K.2.2.2.1 (mvT hZ w1) (mvT hZ w2) (mvT hZ w4) hy (backOf (W := W) hM hZ w4 w3 hf hl) (g := mkF m pc Ls st) rfl (by rw [K.2.2.1]; exact hsz) (Steps.refl _) (a := a) (argsL := argsL) (rest := rest) (fun sg hs => by cases hdesc.symm.trans hs; exact hlen) hst (by show 2 * 0 + _ ≤ _; omega) (hb K.2.1 hd) (fun _ _ => ⟨ha.symm, eT, hc, hn⟩)
  dsimp only [Pt.U, Pt.locs, Pt.cells, Pt.slots] at X2 l2 y2 z2 st2 hQ2
  subst l2 y2 z2
  exact (k v T2 Lc X2 hQ2).on st2
theorem k_virtual (K : Fx p s m meth c by' ml own nm ret Z) (X : Stand p l e R s m args below meth c T locs cells slots) (eT : T.heap = h) {y : MethodName} {bytes : ByteArray} {maxL i W : Nat} {rt : Option FieldType} {rm : Room} {as' : Array Value} {Q' : Option Value → Heap → List Loc → Prop} {a : Addr}
    (hd : decode by' pc = .ok (.invokevirtual i, 3)) (w1 : (Cond.methodLink own i y).before a0 Z = true) (w2 : (Cond.declares y).before a0 Z = true) (w5 : (Cond.selects y.cls y y).before a0 Z = true) (w6 : (Cond.instanceMethod y).before a0 Z = true) (w3 : (Cond.initialized y.cls).before a0 Z = true) (w4 : (Cond.code y bytes maxL rt).before a0 Z = true) (hy : y.cls ≠ "java/lang/invoke/MethodHandle" ∧ y.cls ≠ "java/lang/invoke/VarHandle")
    (hE : Exa Z h a y.cls) (hM : Met l y bytes maxL rt [] rm Z as' h Q') (hf : rm.frames + 1 ≤ R.frames) (hl : W + (maxL + 11) + rm.locals ≤ R.locals) (hc : cells + rm.cells ≤ R.cells) (hn : slots + rm.slots ≤ R.slots) (hsz : Ls.size = ml)
    {sig : MethodDescriptor} (hdesc : parseMethodDescriptor y.desc = some sig) {argsL rest : List Value} (ha : as' = (.ref a :: argsL).toArray) (hlen : argsL.length = sig.parameters.length) (hst : st = argsL.reverse ++ .ref a :: rest) (hW : (rest.map fun v => v.category).sum ≤ W) (hq : pc + 3 = q)
    (k : ∀ v T' L, Stand p l e R s m args below meth c T' (locs ++ L) (cells + rm.cells) (slots + rm.slots) → Q' v T'.heap L → Run p e below s kc kn Q T' (mkF m q Ls (v.toList ++ rest))) : Run p e below s kc kn Q T (mkF m pc Ls st) := by
  have hZ := K.2.2.2.2.1
  subst hq
  obtain ⟨cq, kq, qa, qb, qc⟩ := isOf hZ eT hE
  obtain ⟨v, _, ⟨T2, L2, k2, n2⟩, -, X2, ⟨Lc, hQ2, l2, y2, z2⟩, st2⟩ := X.virtualBack K.1 (y := y) (z := y) K.2.2.2.1 (mvT hZ w1) (mvT hZ w2) (notFace_of_selects (args := #[]) (mvT hZ w5)) (mvT hZ w5) (mvT hZ w6) hy (backOf (W := W) hM hZ w4 w3 hf hl) qa qc (g := mkF m pc Ls st) rfl (by rw [K.2.2.1]; exact hsz) (Steps.refl _) (argsL := argsL) (rest := rest) (fun sg hs => by cases hdesc.symm.trans hs; exact hlen) hst (by show 2 * 0 + _ ≤ _; omega) (hb K.2.1 hd) (fun _ _ => ⟨ha.symm, eT, hc, hn⟩)
  dsimp only [Pt.U, Pt.locs, Pt.cells, Pt.slots] at X2 l2 y2 z2 st2 hQ2
  subst l2 y2 z2
  exact (k v T2 Lc X2 hQ2).on st2
theorem k_initO (K : Fx p s m meth c by' ml own nm ret Z) (X : Stand p l e R s m args below meth c T locs cells slots) (eT : T.heap = h) {i W : Nat} {a : Addr} (hd : decode by' pc = .ok (.invokespecial i, 3)) (w1 : (Cond.methodLink own i Lib.objectInit).before a0 Z = true) (w2 : (Cond.instanceMethod Lib.objectInit).before a0 Z = true) (w3 : (Cond.code Lib.objectInit ⟨#[0xb1]⟩ 1 none).before a0 Z = true)
    (hsz : Ls.size = ml) (hf : 1 ≤ R.frames) (hW : (st.map fun v => v.category).sum ≤ W) (hl : W + 12 ≤ R.locals) (hq : pc + 3 = q)
    (k : ∀ T', Stand p l e R s m args below meth c T' locs cells slots → T'.heap = h → Run p e below s kc kn Q T' (mkF m q Ls st)) : Run p e below s kc kn Q T (mkF m pc Ls (.ref a :: st)) := by
  subst hq
  obtain ⟨T2, X2, e2, st2⟩ := initO X K.1 K.2.2.2.2.1 K.2.2.2.1 w1 w2 w3 eT (g := mkF m pc Ls (.ref a :: st)) rfl (by rw [K.2.2.1]; exact hsz) rfl (hb K.2.1 hd) hf (W := W) (by show 2 * 0 + _ ≤ _; omega) hl
  exact (k T2 X2 e2).by st2
theorem k_new (K : Fx p s m meth c by' ml own nm ret Z) (X : Stand p l e R s m args below meth c T locs cells slots) (eT : T.heap = h) {i n : Nat} {C : String} (hd : decode by' pc = .ok (.new i, 3)) (w1 : (Cond.classLink own i C).before a0 Z = true) (w2 : (Cond.instantiable C n).before a0 Z = true) (w3 : (Cond.initialized C).before a0 Z = true) (hc : cells + 1 ≤ R.cells) (hn : slots + n ≤ R.slots) (hq : pc + 3 = q)
    (k : ∀ T' h' a, Stand p l e R s m args below meth c T' locs (cells + 1) (slots + n) → T'.heap = h' → a = h.size → Ext h h' → Exa Z h' a C → (∀ {O fn d : String} {ty : FieldType}, Laid Z a0 C O fn d → parseFieldDescriptor d = some ty → Fld Z h' a O fn d (defaultValue ty)) → Run p e below s kc kn Q T' (mkF m q Ls (.ref a :: st))) : Run p e below s kc kn Q T (mkF m pc Ls st) := by
  subst hq
  obtain ⟨T2, h2, X2, e2, E2, A2, D2, -, st2⟩ := newO X K.1 K.2.2.2.2.1 K.2.2.2.1 w1 w2 w3 eT (g := mkF m pc Ls st) rfl (hb K.2.1 hd) hc hn
  exact (k T2 h2 h.size X2 e2 rfl E2 A2 D2).by st2
theorem k_getfield (K : Fx p s m meth c by' ml own nm ret Z) (X : Stand p l e R s m args below meth c T locs cells slots) (eT : T.heap = h) {i : Nat} {O fn d : String} {a : Addr} {v : Value} (hd : decode by' pc = .ok (.getfield i, 3)) (w : (Cond.fieldLink own i O fn d).before a0 Z = true) (F : Fld Z h a O fn d v) (hq : pc + 3 = q)
    (k : ∀ T', Stand p l e R s m args below meth c T' locs cells slots → T'.heap = h → Run p e below s kc kn Q T' (mkF m q Ls (v :: st))) : Run p e below s kc kn Q T (mkF m pc Ls (.ref a :: st)) := by
  subst hq
  obtain ⟨T2, X2, e2, st2⟩ := getF X K.1 K.2.2.2.2.1 K.2.2.2.1 (host := "") (Or.inl w) Via.refl eT F (g := mkF m pc Ls (.ref a :: st)) rfl rfl (hb K.2.1 hd)
  exact (k T2 X2 e2).by st2
theorem k_putfield (K : Fx p s m meth c by' ml own nm ret Z) (X : Stand p l e R s m args below meth c T locs cells slots) (eT : T.heap = h) {i n : Nat} {O C fn d : String} {ty : FieldType} {a : Addr} {v old : Value} (hd : decode by' pc = .ok (.putfield i, 3)) (w : (Cond.fieldLink own i O fn d).before a0 Z = true) (F : Fld Z h a O fn d old) (E : Exa Z h a C) (L : (Cond.lays C O fn d).before a0 Z = true ∨ ((Cond.laysFinal C O fn d).before a0 Z = true ∧ own = O ∧ nm = "<init>")) (wi : (Cond.instantiable C n).before a0 Z = true)
    (hty : parseFieldDescriptor d = some ty) (hnar : narrow ty v = v) (hfit : fits ty v = true) (hq : pc + 3 = q)
    (k : ∀ T' h', Stand p l e R s m args below meth c T' (locs ++ [⟨a, Jvm.RoadKit.slotOf Z O fn d⟩]) cells slots → T'.heap = h' → Wr h h' a (Jvm.RoadKit.slotOf Z O fn d) v → Run p e below s kc kn Q T' (mkF m q Ls st)) : Run p e below s kc kn Q T (mkF m pc Ls (v :: .ref a :: st)) := by
  subst hq
  obtain ⟨T2, h2, X2, e2, W2, st2⟩ := putF X K.1 K.2.2.2.2.1 K.2.2.2.1 (host := "") (Or.inl w) Via.refl eT F E (L.imp id fun z => ⟨z.1, z.2.1, K.2.2.2.2.2.2.2.trans z.2.2⟩) wi hty hnar hfit (g := mkF m pc Ls (v :: .ref a :: st)) rfl rfl (hb K.2.1 hd)
  exact (k T2 h2 X2 e2 W2).by st2
def upd {α : Type} (g : Nat → α) (i : Nat) (v : α) : Nat → α := fun k => if k = i then v else g k
/-- an array of n places; place i holds g i -/
def Ary (Z : State) (h : Heap) (a : Addr) (ty : FieldType) (n : Nat) (g : Nat → Value) : Prop := ∃ c : Cell, Arr Z h a c ty ∧ c.slots.size = n ∧ n < 2147483648 ∧ (∀ i, i < n → c.slots[i]? = some (g i)) ∧ ∀ i, i < n → fits ty (g i) = true
theorem Ary.lt {a : Addr} {ty : FieldType} {n : Nat} {g : Nat → Value} (F : Ary Z h a ty n g) : a < h.size := by obtain ⟨c, A, -⟩ := F; exact A.lt
theorem Ary.ext {h' : Heap} {a : Addr} {ty : FieldType} {n : Nat} {g : Nat → Value} (F : Ary Z h a ty n g) (E : Ext h h') : Ary Z h' a ty n g := by obtain ⟨c, A, r⟩ := F; exact ⟨c, A.ext E, r⟩
theorem Ary.other {h' : Heap} {a b : Addr} {ty : FieldType} {n sl : Nat} {v : Value} {g : Nat → Value} (F : Ary Z h b ty n g) (W : Wr h h' a sl v) (q : b ≠ a) : Ary Z h' b ty n g := by obtain ⟨c, A, r⟩ := F; exact ⟨c, A.other W q, r⟩
theorem Ary.keep {h' : Heap} {a : Addr} {ty : FieldType} {n : Nat} {g : Nat → Value} {ws : List Addr} (F : Ary Z h a ty n g) (K : Keep h h' ws) (q : a ∉ ws) : Ary Z h' a ty n g := by obtain ⟨c, A, r⟩ := F; exact ⟨c, ⟨K.2.1 a c A.1 q, A.2⟩, r⟩
theorem Ary.eqv {a : Addr} {ty : FieldType} {n : Nat} {g g' : Nat → Value} (F : Ary Z h a ty n g) (q : ∀ i, i < n → g i = g' i) : Ary Z h a ty n g' := by
  obtain ⟨c, A, r1, r2, r3, r4⟩ := F; exact ⟨c, A, r1, r2, fun i hi => by rw [← q i hi]; exact r3 i hi, fun i hi => by rw [← q i hi]; exact r4 i hi⟩
theorem Ary.nlt {a : Addr} {ty : FieldType} {n : Nat} {g : Nat → Value} (F : Ary Z h a ty n g) : n < 2147483648 := by obtain ⟨c, A, r1, r2, -⟩ := F; exact r2
theorem Ary.set {h' : Heap} {a : Addr} {ty : FieldType} {n i : Nat} {v : Value} {g : Nat → Value} (F : Ary Z h a ty n g) (W : Wr h h' a i v) (hv : fits ty v = true) : Ary Z h' a ty n (fun k => if k = i then v else g k) := by
  obtain ⟨c, A, r1, r2, r3, r4⟩ := F
  obtain ⟨c', w1, w2, w3, w4⟩ := W
  cases A.1.symm.trans w1
  refine ⟨_, A.same ⟨c, w1, w2, w3, w4⟩, by rw [sz_set]; exact r1, r2, fun k hk => ?_, fun k hk => ?_⟩
  · show (c.setSlot i v).slots[k]? = some (if k = i then v else g k)
    by_cases q : k = i
    · subst q; simp [Cell.setSlot, w3]
    · rw [if_neg q]
      show (c.slots.setIfInBounds i v)[k]? = _
      rw [Array.getElem?_setIfInBounds_ne (Ne.symm q)]; exact r3 k hk
  · show fits ty (if k = i then v else g k) = true
    by_cases q : k = i
    · rw [if_pos q]; exact hv
    · rw [if_neg q]; exact r4 k hk
/-- the int j is the place i -/
abbrev Ix (j : Int32) (i : Nat) : Prop := ¬ j < 0 ∧ j.toNatClampNeg = i
theorem Ix.of {j : Int32} {i : Nat} (h : j.toInt = i) : Ix j i := by
  refine ⟨?_, ?_⟩
  · rw [Int32.lt_iff_toInt_lt, h]; have : (0 : Int32).toInt = 0 := rfl
    omega
  · simp only [Int32.toNatClampNeg, h]; omega
theorem Ix.inb {j : Int32} {i n : Nat} (hi : Ix j i) (hn : i < n) {cl : Cell} (hs : cl.slots.size = n) : ¬ (j < 0 ∨ cl.slots.size ≤ j.toNatClampNeg) := fun z => z.elim hi.1 fun z => by rw [hs, hi.2] at z; omega
theorem k_baload (K : Fx p s m meth c by' ml own nm ret Z) (X : Stand p l e R s m args below meth c T locs cells slots) (eT : T.heap = h) {a : Addr} {n i : Nat} {g : Nat → Value} {j : Int32} {v : Value} (hd : decode by' pc = .ok (.baload, 1)) (A : Ary Z h a .byte n g) (hi : Ix j i) (hn : i < n) (hg : g i = v) (hq : pc + 1 = q) (k : Run p e below s kc kn Q T (mkF m q Ls (v :: st))) : Run p e below s kc kn Q T (mkF m pc Ls (.int j :: .ref a :: st)) := by
  subst hq hg
  obtain ⟨c', A, r1, r2, r3, -⟩ := A
  exact k.by fun t => X.baloadBytes K.1 (j := j) (v := g i) (by rw [eT]; exact A.1) (State.isArrayOf_alike K.2.2.2.2.1.alike A.2.1) A.2.2 (hi.inb hn r1) (by rw [hi.2]; exact r3 i hn) (g := mkF m pc Ls (.int j :: .ref a :: st)) rfl rfl (hb K.2.1 hd) t
theorem k_bastore (K : Fx p s m meth c by' ml own nm ret Z) (X : Stand p l e R s m args below meth c T locs cells slots) (eT : T.heap = h) {a : Addr} {n i : Nat} {g : Nat → Value} {j : Int32} {x : Int32} (hd : decode by' pc = .ok (.bastore, 1)) (A : Ary Z h a .byte n g) (hi : Ix j i) (hn : i < n) (hq : pc + 1 = q)
    (k : ∀ T' h', Stand p l e R s m args below meth c T' (locs ++ [⟨a, i⟩]) cells slots → T'.heap = h' → Wr h h' a i (.int (nar .byte x)) → Ary Z h' a .byte n (fun k => if k = i then .int (nar .byte x) else g k) → Run p e below s kc kn Q T' (mkF m q Ls st)) : Run p e below s kc kn Q T (mkF m pc Ls (.int x :: .int j :: .ref a :: st)) := by
  subst hq
  have A0 := A
  obtain ⟨c', A, r1, r2, r3, -⟩ := A
  obtain ⟨T2, h2, X2, e2, W2, st2⟩ := stB X K.1 K.2.2.2.2.1 eT A (j := j) (hi.inb hn r1) (g := mkF m pc Ls (.int x :: .int j :: .ref a :: st)) rfl rfl (hb K.2.1 hd)
  rw [hi.2] at X2 W2
  exact (k T2 h2 X2 e2 W2 (A0.set W2 (fits_nar_byte x))).by st2
theorem k_arraylength (K : Fx p s m meth c by' ml own nm ret Z) (X : Stand p l e R s m args below meth c T locs cells slots) (eT : T.heap = h) {a : Addr} {ty : FieldType} {n : Nat} {g : Nat → Value} {v : Int32} (hd : decode by' pc = .ok (.arraylength, 1)) (A : Ary Z h a ty n g) (hv : n.toInt32 = v) (hq : pc + 1 = q) (k : Run p e below s kc kn Q T (mkF m q Ls (.int v :: st))) : Run p e below s kc kn Q T (mkF m pc Ls (.ref a :: st)) := by
  subst hq hv
  obtain ⟨c', A, r1, r2, r3, -⟩ := A
  subst r1
  exact k.by fun t => X.arraylength K.1 (by rw [eT]; exact A.1) (State.isArrayOf_alike K.2.2.2.2.1.alike A.2.1) (g := mkF m pc Ls (.ref a :: st)) rfl rfl (hb K.2.1 hd) t
theorem k_newarray (K : Fx p s m meth c by' ml own nm ret Z) (X : Stand p l e R s m args below meth c T locs cells slots) (eT : T.heap = h) {aty : ArrayType} {ty : FieldType} {z : Int32} {n cap : Nat} (hd : decode by' pc = .ok (.newarray aty, 2)) (hty : newarray.typeOf aty = ty) (w : (Cond.arrayClass ty).before a0 Z = true) (hz : Ix z n) (hcap : n ≤ cap) (h8 : cap * 8 ≤ 536870912) (hc : cells + 1 ≤ R.cells) (hn : slots + cap ≤ R.slots) (hq : pc + 2 = q)
    (k : ∀ T' h' a, Stand p l e R s m args below meth c T' locs (cells + 1) (slots + cap) → T'.heap = h' → a = h.size → Ext h h' → Ary Z h' a ty n (fun _ => defaultValue ty) → Run p e below s kc kn Q T' (mkF m q Ls (.ref a :: st))) : Run p e below s kc kn Q T (mkF m pc Ls (.int z :: st)) := by
  subst hq hty
  obtain ⟨T2, h2, cA, X2, e2, E2, A2, st2⟩ := newP X K.1 K.2.2.2.2.1 w eT (g := mkF m pc Ls (.int z :: st)) rfl (hb K.2.1 hd) rfl hz.1 (cap := cap) (by rw [hz.2]; exact hcap) h8 hc hn
  refine (k T2 h2 h.size X2 e2 rfl E2 ⟨_, A2, (sz_new _ _ _).trans hz.2, by omega, fun i hi => ?_, fun i _ => ?_⟩).by st2
  · rw [← hz.2] at hi; simp [newA, hi]
  · cases aty <;> rfl
theorem k_private (K : Fx p s m meth c by' ml own nm ret Z) (X : Stand p l e R s m args below meth c T locs cells slots) (eT : T.heap = h) {y : MethodName} {bytes : ByteArray} {maxL i W : Nat} {rt : Option FieldType} {rm : Room} {as' : Array Value} {Q' : Option Value → Heap → List Loc → Prop} {a : Addr} {C : String} {ni : Nat}
    (hd : decode by' pc = .ok (.invokevirtual i, 3)) (w1 : (Cond.methodLink own i y).before a0 Z = true) (w2 : (Cond.privateMethod y).before a0 Z = true) (w5 : (Cond.instantiable y.cls ni).before a0 Z = true) (w6 : (Cond.instanceMethod y).before a0 Z = true) (w3 : (Cond.initialized y.cls).before a0 Z = true) (w4 : (Cond.code y bytes maxL rt).before a0 Z = true) (hy : y.cls ≠ "java/lang/invoke/MethodHandle" ∧ y.cls ≠ "java/lang/invoke/VarHandle")
    (hE : Exa Z h a C) (hM : Met l y bytes maxL rt [] rm Z as' h Q') (hf : rm.frames + 1 ≤ R.frames) (hl : W + (maxL + 11) + rm.locals ≤ R.locals) (hc : cells + rm.cells ≤ R.cells) (hn : slots + rm.slots ≤ R.slots) (hsz : Ls.size = ml)
    {sig : MethodDescriptor} (hdesc : parseMethodDescriptor y.desc = some sig) {argsL rest : List Value} (ha : as' = (.ref a :: argsL).toArray) (hlen : argsL.length = sig.parameters.length) (hst : st = argsL.reverse ++ .ref a :: rest) (hW : (rest.map fun v => v.category).sum ≤ W) (hq : pc + 3 = q)
    (k : ∀ v T' L, Stand p l e R s m args below meth c T' (locs ++ L) (cells + rm.cells) (slots + rm.slots) → Q' v T'.heap L → Run p e below s kc kn Q T' (mkF m q Ls (v.toList ++ rest))) : Run p e below s kc kn Q T (mkF m pc Ls st) := by
  have hZ := K.2.2.2.2.1
  subst hq
  obtain ⟨cq, qa, qb⟩ := hE.cell
  have hpv := Cond.privateMethod_at (mvP hZ w2 (args := #[]))
  have hin : (Cond.instanceMethod y).before args s = true := mvT hZ w6
  obtain ⟨c2, k2, i1, i2, i3, i4, -⟩ := Cond.instantiable_spec (args := #[]) (s := s) (mvT hZ w5)
  have hsl := Jvm.Stand.selects_self_of_private i1 i2 (Bool.or_eq_false_iff.mp i4).1 hpv hin hy
  obtain ⟨v, _, ⟨T2, L2, k2, n2⟩, -, X2, ⟨Lc, hQ2, l2, y2, z2⟩, st2⟩ := X.privateBack K.1 (y := y) K.2.2.2.1 (mvT hZ w1) hin hsl hpv (mvT hZ w4) hy (backOf (W := W) hM hZ w4 w3 hf hl) (g := mkF m pc Ls st) rfl (by rw [K.2.2.1]; exact hsz) (Steps.refl _) (a := a) (by rw [eT]; exact qa) qb (argsL := argsL) (rest := rest) (fun sg hs => by cases hdesc.symm.trans hs; exact hlen) hst (by show 2 * 0 + _ ≤ _; omega) (hb K.2.1 hd) (fun _ _ => ⟨ha.symm, eT, hc, hn⟩)
  dsimp only [Pt.U, Pt.locs, Pt.cells, Pt.slots] at X2 l2 y2 z2 st2 hQ2
  subst l2 y2 z2
  exact (k v T2 Lc X2 hQ2).on st2
theorem k_privatePV (K : Fx p s m meth c by' ml own nm ret Z) (X : Stand p l e R s m args below meth c T locs cells slots) (eT : T.heap = h) {y : MethodName} {bytes : ByteArray} {maxL i W fr lo : Nat} {rt : Option FieldType} {as' : Array Value} {a : Addr} {C : String} {ni : Nat}
    (hd : decode by' pc = .ok (.invokevirtual i, 3)) (w1 : (Cond.methodLink own i y).before a0 Z = true) (w2 : (Cond.privateMethod y).before a0 Z = true) (w5 : (Cond.instantiable y.cls ni).before a0 Z = true) (w6 : (Cond.instanceMethod y).before a0 Z = true) (w3 : (Cond.initialized y.cls).before a0 Z = true) (w4 : (Cond.code y bytes maxL rt).before a0 Z = true) (hy : y.cls ≠ "java/lang/invoke/MethodHandle" ∧ y.cls ≠ "java/lang/invoke/VarHandle")
    (hE : Exa Z h a C) (hM : Met l y bytes maxL rt [] { frames := fr, cells := 0, slots := 0, locals := lo } Z as' h (fun v h' L => v = none ∧ h' = h ∧ L = [])) (hf : fr + 1 ≤ R.frames) (hl : W + (maxL + 11) + lo ≤ R.locals) (hc : cells ≤ R.cells) (hn : slots ≤ R.slots) (hsz : Ls.size = ml)
    {sig : MethodDescriptor} (hdesc : parseMethodDescriptor y.desc = some sig) {argsL rest : List Value} (ha : as' = (.ref a :: argsL).toArray) (hlen : argsL.length = sig.parameters.length) (hst : st = argsL.reverse ++ .ref a :: rest) (hW : (rest.map fun v => v.category).sum ≤ W) (hq : pc + 3 = q)
    (k : ∀ T', Stand p l e R s m args below meth c T' locs cells slots → T'.heap = h → Run p e below s kc kn Q T' (mkF m q Ls rest)) : Run p e below s kc kn Q T (mkF m pc Ls st) := by
  refine k_private K X eT hd w1 w2 w5 w6 w3 w4 hy hE hM hf hl hc hn hsz hdesc ha hlen hst hW hq ?_
  rintro v T' L X' ⟨rfl, h2, rfl⟩
  rw [List.append_nil] at X'
  exact k T' X' h2
theorem ofNat_clamp {n : Nat} (hn : n < 2147483648) : (Int32.ofNat n).toNatClampNeg = n := by
  simp only [Int32.toNatClampNeg]
  rw [Int32.toInt_ofNat_of_lt (by omega)]; omega
theorem getD_map {g : Nat → Value} {n i : Nat} {d : Value} (hi : i < n) : ((List.range n).map g).getD i d = g i := by
  simp [List.getD_eq_getElem?_getD, hi]
theorem Ary.arv {a : Addr} {ty : FieldType} {n : Nat} {g : Nat → Value} (F : Ary Z h a ty n g) : ∃ k, Arv Z h a k ty (Int32.ofNat n) ((List.range n).map g) .null := by
  obtain ⟨c, A, r1, r2, r3, r4⟩ := F
  refine ⟨c.cls, c, A, rfl, by rw [ofNat_clamp r2]; exact r1, fun z => ?_, fun i hi => ?_, fun i hi => ?_⟩
  · have e := Int32.lt_iff_toInt_lt.mp z
    rw [Int32.toInt_ofNat_of_lt (by omega)] at e
    have : (0 : Int32).toInt = 0 := rfl
    omega
  · rw [r1] at hi; rw [getD_map hi]; exact r3 i hi
  · rw [r1] at hi; rw [getD_map hi]; exact r4 i hi
/-- the places j, j + 1, .., j + k - 1 taken from g at i on -/
def blit {α : Type} (g g' : Nat → α) (i j k : Nat) : Nat → α := fun t => if j ≤ t ∧ t < j + k then g (i + (t - j)) else g' t
theorem k_arraycopy (K : Fx p s m meth c by' ml own nm ret Z) (X : Stand p l e R s m args below meth c T locs cells slots) (eT : T.heap = h) {idx W n n' i j k n0 : Nat} {a b : Addr} {ty : FieldType} {g g' : Nat → Value} {sp dp nn : Int32} (hd : decode by' pc = .ok (.invokestatic idx, 3))
    (w1 : (Cond.methodLink own idx Jvm.Stand.acN).before a0 Z = true) (w2 : (Cond.native Jvm.Stand.acN).before a0 Z = true) (w3 : (Cond.static Jvm.Stand.acN).before a0 Z = true) (w4 : (Cond.initialized "java/lang/System").before a0 Z = true)
    (A : Ary Z h a ty n g) (B : Ary Z h b ty n' g') (hty : refKind ty = false) (h1 : Ix sp i) (h2 : Ix dp j) (h3 : Ix nn k) (h4 : i + k ≤ n) (h5 : j + k ≤ n') (N : Fr n0 locs) (ge : n0 ≤ b) (hsz : Ls.size = ml) (hf : 1 ≤ R.frames) (hW : (st.map fun v => v.category).sum ≤ W) (hlo : W + (nativeFrameWords "java/lang/System" "arraycopy" 5 + 11) ≤ R.locals) (hq : pc + 3 = q)
    (kk : ∀ T' h' L, Stand p l e R s m args below meth c T' L cells slots → T'.heap = h' → Fr n0 L → Keep h h' [b] → Ary Z h' b ty n' (blit g g' i j k) → Run p e below s kc kn Q T' (mkF m q Ls st)) : Run p e below s kc kn Q T (mkF m pc Ls (.int nn :: .int dp :: .ref b :: .int sp :: .ref a :: st)) := by
  subst hq
  have A0 := A.nlt
  have B0 := B.nlt
  obtain ⟨ka, Va⟩ := A.arv
  obtain ⟨kb, Vb⟩ := B.arv
  obtain ⟨T', h', L, X', e', N', K', V', st'⟩ := cpA X K.1 K.2.2.2.2.1 K.2.2.2.1 w1 w2 w3 w4 eT Va Vb (Or.inl ⟨rfl, hty⟩) (sp := sp) (dp := dp) (nn := nn) h1.1 h2.1 h3.1 (by rw [h1.2, h3.2, ofNat_clamp A0]; exact h4) (by rw [h2.2, h3.2, ofNat_clamp B0]; exact h5) rfl (by rw [h2.2, h3.2]; simp; exact h5) N ge (g := mkF m pc Ls (.int nn :: .int dp :: .ref b :: .int sp :: .ref a :: st)) rfl (by rw [K.2.2.1]; exact hsz) rfl (hb K.2.1 hd) hf (W := W) (by show 2 * 0 + _ ≤ _; omega) hlo
  refine (kk T' h' L X' e' N' K' ?_).by st'
  obtain ⟨c', A', -, r1, r2, r3, r4⟩ := V'
  rw [ofNat_clamp B0] at r1
  rw [h1.2, h2.2, h3.2] at r3 r4
  have ev : ∀ t, t < n' → (List.take j ((List.range n').map g') ++ (List.range k).map (fun u => ((List.range n).map g).getD (i + u) .null) ++ List.drop (j + k) ((List.range n').map g')).getD t .null = blit g g' i j k t := fun t ht => by
    unfold blit
    simp only [List.getD_eq_getElem?_getD]
    by_cases c1 : t < j
    · rw [if_neg (by omega), List.append_assoc, List.getElem?_append_left (by simp; omega)]
      simp [c1, ht]
    · by_cases c2 : t < j + k
      · rw [if_pos ⟨by omega, c2⟩, List.getElem?_append_left (by simp; omega), List.getElem?_append_right (by simp; omega)]
        have q1 : min j n' = j := by omega
        have q2 : t - j < k := by omega
        have q3 : i + (t - j) < n := by omega
        simp [q1, q2, q3]
      · rw [if_neg (by omega), List.getElem?_append_right (by simp; omega)]
        have q1 : min j n' = j := by omega
        have q2 : j + k + (t - (j + k)) = t := by omega
        simp [q1, q2, ht]
  exact ⟨c', A', r1, B0, fun t ht => by rw [← ev t ht]; exact r3 t (by rw [r1]; exact ht), fun t ht => by rw [← ev t ht]; exact r4 t (by rw [r1]; exact ht)⟩
end OwnKit

theorem wd {Z : State} {az : Array Value} (hw : ∀ d ∈ tables_1, d.before az Z = true) (k : Nat) {d : Jvm.Cond} (h : tables_1[k]? = some d) : d.before az Z = true := hw _ (List.mem_of_getElem? h)
theorem d9_0 : decode jdk_29_method_69_code 0 = .ok (.iload_n 0, 1) := by decide +kernel
theorem d9_1 : decode jdk_29_method_69_code 1 = .ok (.iload_n 1, 1) := by decide +kernel
theorem d9_2 : decode jdk_29_method_69_code 2 = .ok (.if_icmp .gt 7, 3) := by decide +kernel
theorem d9_10 : decode jdk_29_method_69_code 10 = .ok (.ireturn, 1) := by decide +kernel
theorem d9_9 : decode jdk_29_method_69_code 9 = .ok (.iload_n 1, 1) := by decide +kernel
theorem d9_5 : decode jdk_29_method_69_code 5 = .ok (.iload_n 0, 1) := by decide +kernel
theorem d9_6 : decode jdk_29_method_69_code 6 = .ok (.goto 4, 3) := by decide +kernel
theorem ef_9 (p0 : Int32) (p1 : Int32) : ∀ m : MethodId, entryFrame m #[(.int p0), (.int p1)] 2 = mkF m 0 #[.val (.int p0), .val (.int p1)] [] := by intro m; first | (simp [entryFrame, mkF, argsToLocals, Value.category]; done) | rfl
def F_minI (p0 : Int32) (p1 : Int32) : Int32 :=
  let d2 : Int32 := (if p1 < p0 then p1 else p0)
  d2
set_option maxRecDepth 65536 in
set_option maxHeartbeats 40000000 in
theorem rm9 (l : Launch) (Z : State) (az : Array Value) (hw : ∀ d ∈ tables_1, d.before az Z = true) (ws : List Jvm.Cond) (p0 : Int32) (p1 : Int32) (h0 : Heap) :
    Met l (⟨"java/lang/Math", "min", "(II)I"⟩ : MethodName) jdk_29_method_69_code 2 (some .int) ws ({ frames := 0, cells := 0, slots := 0, locals := 0 } : Room) Z #[(.int p0), (.int p1)] h0 (fun v h' L => v = some (Value.int (F_minI p0 p1)) ∧ h' = h0 ∧ L = []) := by
  refine enter (Jvm.Free.JP.mathPlain rfl (by decide +kernel)) (ef_9 p0 p1) ?_
  intro p e s m below meth c T0 kc kn Q hkc hkn hQ K' X0 e0
  have K : Fx p s m meth c jdk_29_method_69_code 2 "java/lang/Math" "min" (some .int) Z := K'
  refine k_iloadN K X0 d9_0 rfl (q := 1) rfl ?_
  refine k_iloadN K X0 d9_1 rfl (q := 2) rfl ?_
  have J3 : ∀ (d2 : Int32), (if p1 < p0 then p1 else p0) = d2 → Run p e below s kc kn Q T0 (mkF m 10 #[.val (.int p0), .val (.int p1)] [(.int d2)]) := by
    intro d2 hv_d2
    exact k_reti K X0 e0 d9_10 (Nat.le_trans (by decide) hkc) (Nat.le_trans (by decide) hkn) (hQ _ _ _ ⟨(by show some (Value.int d2) = some (Value.int (F_minI p0 p1)); first | (simp only [F_minI, hv_d2]; done) | (subst hv_d2; simp only [F_minI])), rfl, rfl⟩)
  refine k_icmp_gt K X0 d9_2 (by decide) (q := 9) rfl (q' := 5) rfl ?_ ?_
  · intro hc4
    refine k_iloadN K X0 d9_9 rfl (q := 10) rfl ?_
    exact J3 _ (by first | (simp only [if_pos hc4]; done) | rfl)
  · intro hc4
    refine k_iloadN K X0 d9_5 rfl (q := 6) rfl ?_
    refine k_goto K X0 d9_6 (by decide) (q := 10) rfl ?_
    exact J3 _ (by first | (simp only [if_neg hc4]; done) | rfl)
theorem d14_0 : decode jdk_29_method_66_code 0 = .ok (.lload_n 0, 1) := by decide +kernel
theorem d14_1 : decode jdk_29_method_66_code 1 = .ok (.lload_n 2, 1) := by decide +kernel
theorem d14_2 : decode jdk_29_method_66_code 2 = .ok (.lcmp, 1) := by decide +kernel
theorem d14_3 : decode jdk_29_method_66_code 3 = .ok (.ifCond .lt 7, 3) := by decide +kernel
theorem d14_11 : decode jdk_29_method_66_code 11 = .ok (.lreturn, 1) := by decide +kernel
theorem d14_10 : decode jdk_29_method_66_code 10 = .ok (.lload_n 2, 1) := by decide +kernel
theorem d14_6 : decode jdk_29_method_66_code 6 = .ok (.lload_n 0, 1) := by decide +kernel
theorem d14_7 : decode jdk_29_method_66_code 7 = .ok (.goto 4, 3) := by decide +kernel
theorem ef_14 (q0 : Int64) (q1 : Int64) : ∀ m : MethodId, entryFrame m #[(.long q0), (.long q1)] 4 = mkF m 0 #[.val (.long q0), .second, .val (.long q1), .second] [] := by intro m; first | (simp [entryFrame, mkF, argsToLocals, Value.category]; done) | rfl
def F_maxJ (q0 : Int64) (q1 : Int64) : Int64 :=
  let d6 : Int64 := (if q0 < q1 then q1 else q0)
  d6
set_option maxRecDepth 65536 in
set_option maxHeartbeats 40000000 in
theorem rm14 (l : Launch) (Z : State) (az : Array Value) (hw : ∀ d ∈ tables_1, d.before az Z = true) (ws : List Jvm.Cond) (q0 : Int64) (q1 : Int64) (h0 : Heap) :
    Met l (⟨"java/lang/Math", "max", "(JJ)J"⟩ : MethodName) jdk_29_method_66_code 4 (some .long) ws ({ frames := 0, cells := 0, slots := 0, locals := 0 } : Room) Z #[(.long q0), (.long q1)] h0 (fun v h' L => v = some (Value.long (F_maxJ q0 q1)) ∧ h' = h0 ∧ L = []) := by
  refine enter (Jvm.Free.JP.mathPlain rfl (by decide +kernel)) (ef_14 q0 q1) ?_
  intro p e s m below meth c T0 kc kn Q hkc hkn hQ K' X0 e0
  have K : Fx p s m meth c jdk_29_method_66_code 4 "java/lang/Math" "max" (some .long) Z := K'
  refine k_lloadN K X0 d14_0 rfl (q := 1) rfl ?_
  refine k_lloadN K X0 d14_1 rfl (q := 2) rfl ?_
  refine k_lcmp K X0 d14_2 (q := 3) rfl ?_
  have J7 : ∀ (d6 : Int64), (if q0 < q1 then q1 else q0) = d6 → Run p e below s kc kn Q T0 (mkF m 11 #[.val (.long q0), .second, .val (.long q1), .second] [(.long d6)]) := by
    intro d6 hv_d6
    exact k_retl K X0 e0 d14_11 (Nat.le_trans (by decide) hkc) (Nat.le_trans (by decide) hkn) (hQ _ _ _ ⟨(by show some (Value.long d6) = some (Value.long (F_maxJ q0 q1)); first | (simp only [F_maxJ, hv_d6]; done) | (subst hv_d6; simp only [F_maxJ])), rfl, rfl⟩)
  refine k_lcmp_lt K X0 d14_3 (by decide) (q := 10) rfl (q' := 6) rfl ?_ ?_
  · intro hc8
    refine k_lloadN K X0 d14_10 rfl (q := 11) rfl ?_
    exact J7 _ (by first | (simp only [if_pos hc8]; done) | rfl)
  · intro hc8
    refine k_lloadN K X0 d14_6 rfl (q := 7) rfl ?_
    refine k_goto K X0 d14_7 (by decide) (q := 11) rfl ?_
    exact J7 _ (by first | (simp only [if_neg hc8]; done) | rfl)
theorem d15_0 : decode jdk_29_method_70_code 0 = .ok (.lload_n 0, 1) := by decide +kernel
theorem d15_1 : decode jdk_29_method_70_code 1 = .ok (.lload_n 2, 1) := by decide +kernel
theorem d15_2 : decode jdk_29_method_70_code 2 = .ok (.lcmp, 1) := by decide +kernel
theorem d15_3 : decode jdk_29_method_70_code 3 = .ok (.ifCond .gt 7, 3) := by decide +kernel
theorem d15_11 : decode jdk_29_method_70_code 11 = .ok (.lreturn, 1) := by decide +kernel
theorem d15_10 : decode jdk_29_method_70_code 10 = .ok (.lload_n 2, 1) := by decide +kernel
theorem d15_6 : decode jdk_29_method_70_code 6 = .ok (.lload_n 0, 1) := by decide +kernel
theorem d15_7 : decode jdk_29_method_70_code 7 = .ok (.goto 4, 3) := by decide +kernel
theorem ef_15 (q0 : Int64) (q1 : Int64) : ∀ m : MethodId, entryFrame m #[(.long q0), (.long q1)] 4 = mkF m 0 #[.val (.long q0), .second, .val (.long q1), .second] [] := by intro m; first | (simp [entryFrame, mkF, argsToLocals, Value.category]; done) | rfl
def F_minJ (q0 : Int64) (q1 : Int64) : Int64 :=
  let d10 : Int64 := (if q1 < q0 then q1 else q0)
  d10
set_option maxRecDepth 65536 in
set_option maxHeartbeats 40000000 in
theorem rm15 (l : Launch) (Z : State) (az : Array Value) (hw : ∀ d ∈ tables_1, d.before az Z = true) (ws : List Jvm.Cond) (q0 : Int64) (q1 : Int64) (h0 : Heap) :
    Met l (⟨"java/lang/Math", "min", "(JJ)J"⟩ : MethodName) jdk_29_method_70_code 4 (some .long) ws ({ frames := 0, cells := 0, slots := 0, locals := 0 } : Room) Z #[(.long q0), (.long q1)] h0 (fun v h' L => v = some (Value.long (F_minJ q0 q1)) ∧ h' = h0 ∧ L = []) := by
  refine enter (Jvm.Free.JP.mathPlain rfl (by decide +kernel)) (ef_15 q0 q1) ?_
  intro p e s m below meth c T0 kc kn Q hkc hkn hQ K' X0 e0
  have K : Fx p s m meth c jdk_29_method_70_code 4 "java/lang/Math" "min" (some .long) Z := K'
  refine k_lloadN K X0 d15_0 rfl (q := 1) rfl ?_
  refine k_lloadN K X0 d15_1 rfl (q := 2) rfl ?_
  refine k_lcmp K X0 d15_2 (q := 3) rfl ?_
  have J11 : ∀ (d10 : Int64), (if q1 < q0 then q1 else q0) = d10 → Run p e below s kc kn Q T0 (mkF m 11 #[.val (.long q0), .second, .val (.long q1), .second] [(.long d10)]) := by
    intro d10 hv_d10
    exact k_retl K X0 e0 d15_11 (Nat.le_trans (by decide) hkc) (Nat.le_trans (by decide) hkn) (hQ _ _ _ ⟨(by show some (Value.long d10) = some (Value.long (F_minJ q0 q1)); first | (simp only [F_minJ, hv_d10]; done) | (subst hv_d10; simp only [F_minJ])), rfl, rfl⟩)
  refine k_lcmp_gt K X0 d15_3 (by decide) (q := 10) rfl (q' := 6) rfl ?_ ?_
  · intro hc12
    refine k_lloadN K X0 d15_10 rfl (q := 11) rfl ?_
    exact J11 _ (by first | (simp only [if_pos hc12]; done) | rfl)
  · intro hc12
    refine k_lloadN K X0 d15_6 rfl (q := 7) rfl ?_
    refine k_goto K X0 d15_7 (by decide) (q := 11) rfl ?_
    exact J11 _ (by first | (simp only [if_neg hc12]; done) | rfl)
theorem own_eqI {x y : Int32} : x = y ↔ x.toInt = y.toInt := Int32.toInt_inj.symm
theorem own_eqJ {x y : Int64} : x = y ↔ x.toInt = y.toInt := Int64.toInt_inj.symm
theorem own_ltI {x y : Int32} : x < y ↔ x.toInt < y.toInt := Int32.lt_iff_toInt_lt
theorem own_ltJ {x y : Int64} : x < y ↔ x.toInt < y.toInt := Int64.lt_iff_toInt_lt
theorem own_n32 {n : Nat} (h : n ≤ 128) : (Nat.toInt32 n).toInt = n := Int32.toInt_ofNat_of_lt (by omega)
/-- the place e and m more are in the first 64 -/
def own_er (e m : Int32) : Prop := 0 ≤ e.toInt ∧ 0 ≤ m.toInt ∧ e.toInt + m.toInt ≤ 64
theorem own_er1 {e m : Int32} (h : own_er e m) : ¬ ((64 : Int32) - e) < m := by
  obtain ⟨h1, h2, h3⟩ := h
  have e64 : (64 : Int32).toInt = 64 := rfl
  have s := c_isub 64 e; have b := rng32 (64 - e)
  rw [own_ltI]; omega
theorem own_ix {x : Int32} {n : Nat} (h0 : 0 ≤ x.toInt) (h1 : x.toInt < n) : ¬ x < 0 ∧ Int32.toNatClampNeg x < n := by
  have e0 : (0 : Int32).toInt = 0 := rfl
  refine ⟨by rw [own_ltI]; omega, ?_⟩
  simp only [Int32.toNatClampNeg]; omega
theorem own_p1 {x : Int32} {a : Int} (h : x.toInt = a) (h0 : 0 ≤ a) (h1 : a ≤ 1000) : (x + 1).toInt = a + 1 := by
  have e1 : (1 : Int32).toInt = 1 := rfl
  have s := c_iadd x 1; have b := rng32 (x + 1)
  omega
theorem own_w0 {e m : Int32} (h : own_er e m) (hm : 1 ≤ m.toInt) : ¬ e < 0 ∧ Int32.toNatClampNeg e < 64 := by
  obtain ⟨h1, h2, h3⟩ := h
  exact own_ix h1 (by omega)
theorem own_w1 {e : Int32} (h : own_er e 4) : ¬ (e + 1) < 0 ∧ Int32.toNatClampNeg (e + 1) < 64 := by
  obtain ⟨h1, -, h3⟩ := h
  have e4 : (4 : Int32).toInt = 4 := rfl
  have a1 := own_p1 (x := e) rfl h1 (by omega)
  exact own_ix (by omega) (by omega)
theorem own_w2 {e : Int32} (h : own_er e 4) : ¬ (e + 1 + 1) < 0 ∧ Int32.toNatClampNeg (e + 1 + 1) < 64 := by
  obtain ⟨h1, -, h3⟩ := h
  have e4 : (4 : Int32).toInt = 4 := rfl
  have a1 := own_p1 (x := e) rfl h1 (by omega)
  have a2 := own_p1 a1 (by omega) (by omega)
  exact own_ix (by omega) (by omega)
theorem own_w3 {e : Int32} (h : own_er e 4) : ¬ (e + 1 + 1 + 1) < 0 ∧ Int32.toNatClampNeg (e + 1 + 1 + 1) < 64 := by
  obtain ⟨h1, -, h3⟩ := h
  have e4 : (4 : Int32).toInt = 4 := rfl
  have a1 := own_p1 (x := e) rfl h1 (by omega)
  have a2 := own_p1 a1 (by omega) (by omega)
  have a3 := own_p1 a2 (by omega) (by omega)
  exact own_ix (by omega) (by omega)
/-- what ensure(61) finds -/
def own_eg (e : Int32) : Prop := 4 ≤ e.toInt ∧ e.toInt ≤ 17
theorem own_e17 (t : Int32) (h1 : 4 ≤ t.toInt) (h2 : t.toInt ≤ 17) : t = (4 : Int32) ∨ t = (5 : Int32) ∨ t = (6 : Int32) ∨ t = (7 : Int32) ∨ t = (8 : Int32) ∨ t = (9 : Int32) ∨ t = (10 : Int32) ∨ t = (11 : Int32) ∨ t = (12 : Int32) ∨ t = (13 : Int32) ∨ t = (14 : Int32) ∨ t = (15 : Int32) ∨ t = (16 : Int32) ∨ t = (17 : Int32) := by
  have h : t.toInt = 4 ∨ t.toInt = 5 ∨ t.toInt = 6 ∨ t.toInt = 7 ∨ t.toInt = 8 ∨ t.toInt = 9 ∨ t.toInt = 10 ∨ t.toInt = 11 ∨ t.toInt = 12 ∨ t.toInt = 13 ∨ t.toInt = 14 ∨ t.toInt = 15 ∨ t.toInt = 16 ∨ t.toInt = 17 := by omega
  rcases h with h | h | h | h | h | h | h | h | h | h | h | h | h | h
  · exact Or.inl (Int32.toInt_inj.mp (h.trans (by decide)))
  · exact Or.inr (Or.inl (Int32.toInt_inj.mp (h.trans (by decide))))
  · exact Or.inr (Or.inr (Or.inl (Int32.toInt_inj.mp (h.trans (by decide)))))
  · exact Or.inr (Or.inr (Or.inr (Or.inl (Int32.toInt_inj.mp (h.trans (by decide))))))
  · exact Or.inr (Or.inr (Or.inr (Or.inr (Or.inl (Int32.toInt_inj.mp (h.trans (by decide)))))))
  · exact Or.inr (Or.inr (Or.inr (Or.inr (Or.inr (Or.inl (Int32.toInt_inj.mp (h.trans (by decide))))))))
  · exact Or.inr (Or.inr (Or.inr (Or.inr (Or.inr (Or.inr (Or.inl (Int32.toInt_inj.mp (h.trans (by decide)))))))))
  · exact Or.inr (Or.inr (Or.inr (Or.inr (Or.inr (Or.inr (Or.inr (Or.inl (Int32.toInt_inj.mp (h.trans (by decide))))))))))
  · exact Or.inr (Or.inr (Or.inr (Or.inr (Or.inr (Or.inr (Or.inr (Or.inr (Or.inl (Int32.toInt_inj.mp (h.trans (by decide)))))))))))
  · exact Or.inr (Or.inr (Or.inr (Or.inr (Or.inr (Or.inr (Or.inr (Or.inr (Or.inr (Or.inl (Int32.toInt_inj.mp (h.trans (by decide))))))))))))
  · exact Or.inr (Or.inr (Or.inr (Or.inr (Or.inr (Or.inr (Or.inr (Or.inr (Or.inr (Or.inr (Or.inl (Int32.toInt_inj.mp (h.trans (by decide)))))))))))))
  · exact Or.inr (Or.inr (Or.inr (Or.inr (Or.inr (Or.inr (Or.inr (Or.inr (Or.inr (Or.inr (Or.inr (Or.inl (Int32.toInt_inj.mp (h.trans (by decide))))))))))))))
  · exact Or.inr (Or.inr (Or.inr (Or.inr (Or.inr (Or.inr (Or.inr (Or.inr (Or.inr (Or.inr (Or.inr (Or.inr (Or.inl (Int32.toInt_inj.mp (h.trans (by decide)))))))))))))))
  · exact Or.inr (Or.inr (Or.inr (Or.inr (Or.inr (Or.inr (Or.inr (Or.inr (Or.inr (Or.inr (Or.inr (Or.inr (Or.inr (Int32.toInt_inj.mp (h.trans (by decide)))))))))))))))
theorem own_eg1 {e : Int32} (h : own_eg e) : ((64 : Int32) - e) < 61 := by
  obtain ⟨h1, h2⟩ := h
  have e64 : (64 : Int32).toInt = 64 := rfl
  have e61 : (61 : Int32).toInt = 61 := rfl
  have s := c_isub 64 e; have b := rng32 (64 - e)
  rw [own_ltI]; omega
theorem own_eg2 {e : Int32} {v : Int64} (h : own_eg e) (hv : F_maxJ 128 (Int32.toInt64 e + 61) = v) : Int64.toInt32 (F_minJ v 2147483639) = 128 := by
  subst hv
  rcases own_e17 e h.1 h.2 with rfl | rfl | rfl | rfl | rfl | rfl | rfl | rfl | rfl | rfl | rfl | rfl | rfl | rfl <;> decide
theorem own_eg3 {e : Int32} (h : own_eg e) : (¬ (0 : Int32) < 0 ∧ ¬ e < 0 ∧ ¬ (61 : Int32) < 0) ∧ 0 + 61 ≤ 61 ∧ Int32.toNatClampNeg e + 61 ≤ 128 := by
  rcases own_e17 e h.1 h.2 with rfl | rfl | rfl | rfl | rfl | rfl | rfl | rfl | rfl | rfl | rfl | rfl | rfl | rfl <;> decide
/-- what copyOfRange(.., 4, x) finds -/
def own_cr (x : Int32) (n : Nat) : Prop := 4 ≤ x.toInt ∧ x.toInt ≤ 78 ∧ x.toInt ≤ n ∧ n ≤ 128
theorem own_cr1 {x : Int32} {n : Nat} (h : own_cr x n) : ¬ x < 4 := by
  have e4 : (4 : Int32).toInt = 4 := rfl
  rw [own_ltI, e4]; have := h.1; omega
theorem own_cr0 {x v : Int32} {n : Nat} (h : own_cr x n) (hv : x - 4 = v) : v.toInt = x.toInt - 4 := by
  have e4 : (4 : Int32).toInt = 4 := rfl
  have s := c_isub x 4; have b := rng32 (x - 4)
  obtain ⟨h1, h2, -⟩ := h
  rw [← hv]; omega
theorem own_cr2 {x v : Int32} {n : Nat} (h : own_cr x n) (hv : x - 4 = v) : ¬ v < 0 ∧ Int32.toNatClampNeg v ≤ 74 := by
  have a := own_cr0 h hv
  obtain ⟨h1, h2, -⟩ := h
  have := own_ix (x := v) (n := 75) (by omega) (by omega)
  exact ⟨this.1, by omega⟩
theorem own_cr3 {x v : Int32} {n : Nat} (h : own_cr x n) (hv : x - 4 = v) : F_minI ((Nat.toInt32 n) - 4) v = v := by
  have a := own_cr0 h hv
  obtain ⟨h1, h2, h3, h4⟩ := h
  have e4 : (4 : Int32).toInt = 4 := rfl
  have c := own_n32 h4
  have s := c_isub (Nat.toInt32 n) 4; have b := rng32 (Nat.toInt32 n - 4)
  simp only [F_minI]
  split
  · rfl
  · rename_i hh
    rw [own_ltI] at hh
    rw [own_eqI]; omega
theorem own_cr4 {x v : Int32} {n : Nat} (h : own_cr x n) (hv : x - 4 = v) : (¬ (4 : Int32) < 0 ∧ ¬ (0 : Int32) < 0 ∧ ¬ v < 0) ∧ 4 + Int32.toNatClampNeg v ≤ n ∧ 0 + Int32.toNatClampNeg v ≤ Int32.toNatClampNeg v := by
  have a := own_cr0 h hv
  obtain ⟨h1, h2, h3, h4⟩ := h
  have c := own_ix (x := v) (n := n - 4 + 1) (by omega) (by omega)
  exact ⟨⟨by decide, by decide, c.1⟩, by omega, by omega⟩
/-- the four places from x on -/
def own_i4 (x : Int32) (n : Nat) : Prop := 0 ≤ x.toInt ∧ x.toInt + 4 ≤ n ∧ n ≤ 128
theorem own_i40 {x : Int32} {n : Nat} (h : own_i4 x n) (k : Int32) (h0 : 0 ≤ k.toInt) (h1 : k.toInt ≤ 3) : ¬ (x + k) < 0 ∧ Int32.toNatClampNeg (x + k) < n := by
  obtain ⟨a1, a2, a3⟩ := h
  have s := c_iadd x k; have b := rng32 (x + k)
  exact own_ix (by omega) (by omega)
theorem own_i4z {x : Int32} {n : Nat} (h : own_i4 x n) : ¬ x < 0 ∧ Int32.toNatClampNeg x < n := own_ix h.1 (by have := h.2.1; omega)

theorem d8_0 : decode jdk_65_method_131_code 0 = .ok (.iload_n 1, 1) := by decide +kernel
theorem d8_1 : decode jdk_65_method_131_code 1 = .ok (.iload_n 0, 1) := by decide +kernel
theorem d8_2 : decode jdk_65_method_131_code 2 = .ok (.if_icmp .ge 35, 3) := by decide +kernel
theorem d8_37 : decode jdk_65_method_131_code 37 = .ok (.return_, 1) := by decide +kernel
theorem ef_8 (p0 : Int32) (p1 : Int32) : ∀ m : MethodId, entryFrame m #[(.int p0), (.int p1)] 2 = mkF m 0 #[.val (.int p0), .val (.int p1)] [] := by intro m; first | (simp [entryFrame, mkF, argsToLocals, Value.category]; done) | rfl
theorem pn_0 : plainName "java/util/Arrays" = true := by first | (simp [plainName, overriddenIn]; done) | decide +kernel
set_option maxRecDepth 65536 in
set_option maxHeartbeats 40000000 in
theorem rm8 (l : Launch) (Z : State) (az : Array Value) (hw : ∀ d ∈ tables_1, d.before az Z = true) (ws : List Jvm.Cond) (p0 : Int32) (p1 : Int32) (h0 : Heap) (ob_0 : ¬ (p1 < p0)) :
    Met l (⟨"java/util/Arrays", "checkLength", "(II)V"⟩ : MethodName) jdk_65_method_131_code 2 none ws ({ frames := 0, cells := 0, slots := 0, locals := 0 } : Room) Z #[(.int p0), (.int p1)] h0 (fun v h' L => v = none ∧ h' = h0 ∧ L = []) := by
  refine enter (plainFor_of_name pn_0) (ef_8 p0 p1) ?_
  intro p e s m below meth c T0 kc kn Q hkc hkn hQ K' X0 e0
  have K : Fx p s m meth c jdk_65_method_131_code 2 "java/util/Arrays" "checkLength" none Z := K'
  refine k_iloadN K X0 d8_0 rfl (q := 1) rfl ?_
  refine k_iloadN K X0 d8_1 rfl (q := 2) rfl ?_
  refine k_icmp_ge_y K X0 d8_2 (ob_0) (by decide) (q := 37) rfl ?_
  exact k_retv K X0 e0 d8_37 (Nat.le_trans (by decide) hkc) (Nat.le_trans (by decide) hkn) (hQ _ _ _ ⟨rfl, rfl, rfl⟩)
theorem d7_0 : decode jdk_65_method_133_code 0 = .ok (.iload_n 1, 1) := by decide +kernel
theorem d7_1 : decode jdk_65_method_133_code 1 = .ok (.iload_n 2, 1) := by decide +kernel
theorem d7_2 : decode jdk_65_method_133_code 2 = .ok (.invokestatic 343, 3) := by decide +kernel
theorem pd_0 : parseMethodDescriptor "(II)V" = some ⟨[.int, .int], none⟩ := by decide +kernel
theorem d7_5 : decode jdk_65_method_133_code 5 = .ok (.iload_n 2, 1) := by decide +kernel
theorem d7_6 : decode jdk_65_method_133_code 6 = .ok (.iload_n 1, 1) := by decide +kernel
theorem d7_7 : decode jdk_65_method_133_code 7 = .ok (.isub, 1) := by decide +kernel
theorem d7_8 : decode jdk_65_method_133_code 8 = .ok (.istore_n 3, 1) := by decide +kernel
theorem d7_9 : decode jdk_65_method_133_code 9 = .ok (.iload_n 3, 1) := by decide +kernel
theorem d7_10 : decode jdk_65_method_133_code 10 = .ok (.newarray .byte, 2) := by decide +kernel
theorem d7_12 : decode jdk_65_method_133_code 12 = .ok (.astore 4, 2) := by decide +kernel
theorem d7_14 : decode jdk_65_method_133_code 14 = .ok (.aload_n 0, 1) := by decide +kernel
theorem d7_15 : decode jdk_65_method_133_code 15 = .ok (.iload_n 1, 1) := by decide +kernel
theorem d7_16 : decode jdk_65_method_133_code 16 = .ok (.aload 4, 2) := by decide +kernel
theorem d7_18 : decode jdk_65_method_133_code 18 = .ok (.iconst 0, 1) := by decide +kernel
theorem d7_19 : decode jdk_65_method_133_code 19 = .ok (.aload_n 0, 1) := by decide +kernel
theorem d7_20 : decode jdk_65_method_133_code 20 = .ok (.arraylength, 1) := by decide +kernel
theorem d7_21 : decode jdk_65_method_133_code 21 = .ok (.iload_n 1, 1) := by decide +kernel
theorem d7_22 : decode jdk_65_method_133_code 22 = .ok (.isub, 1) := by decide +kernel
theorem d7_23 : decode jdk_65_method_133_code 23 = .ok (.iload_n 3, 1) := by decide +kernel
theorem d7_24 : decode jdk_65_method_133_code 24 = .ok (.invokestatic 304, 3) := by decide +kernel
theorem pd_1 : parseMethodDescriptor "(II)I" = some ⟨[.int, .int], some .int⟩ := by decide +kernel
theorem d7_27 : decode jdk_65_method_133_code 27 = .ok (.invokestatic 150, 3) := by decide +kernel
theorem d7_30 : decode jdk_65_method_133_code 30 = .ok (.aload 4, 2) := by decide +kernel
theorem d7_32 : decode jdk_65_method_133_code 32 = .ok (.areturn, 1) := by decide +kernel
theorem ef_7 (a0 : Addr) (p2 : Int32) : ∀ m : MethodId, entryFrame m #[(.ref a0), (.int (4 : Int32)), (.int p2)] 5 = mkF m 0 #[.val (.ref a0), .val (.int (4 : Int32)), .val (.int p2), .unset, .unset] [] := by intro m; first | (simp [entryFrame, mkF, argsToLocals, Value.category]; done) | rfl
def F_copyOfRangeByte_new0_g (p2 : Int32) (n_a0 : Nat) (g_a0 : Nat → Int32) : Nat → Int32 :=
  let v33 : Int32 := (p2 - (4 : Int32))
  let v61 : Nat → Int32 := (blit g_a0 (fun _ => (0 : Int32)) 4 0 (Int32.toNatClampNeg v33))
  v61
set_option maxRecDepth 65536 in
set_option maxHeartbeats 40000000 in
theorem rm7 (l : Launch) (Z : State) (az : Array Value) (hw : ∀ d ∈ tables_1, d.before az Z = true) (ws : List Jvm.Cond) (a0 : Addr) (p2 : Int32) (n_a0 : Nat) (g_a0 : Nat → Int32) (h0 : Heap) (n0 : Nat) (Z0 : n0 ≤ h0.size) (A_a0 : Ary Z h0 a0 .byte n_a0 (fun i => Value.int (g_a0 i))) (ob_0 : own_cr p2 n_a0) :
    Met l (⟨"java/util/Arrays", "copyOfRangeByte", "([BII)[B"⟩ : MethodName) jdk_65_method_133_code 5 (some (.array .byte)) ws ({ frames := 1, cells := 1, slots := 74, locals := 18 } : Room) Z #[(.ref a0), (.int (4 : Int32)), (.int p2)] h0 (fun v h' L => ∃ b36 : Addr, n0 ≤ b36 ∧ h0.size ≤ b36 ∧ v = some (.ref b36) ∧ Fr n0 L ∧ Keep h0 h' [] ∧ Ary Z h' b36 .byte (Int32.toNatClampNeg (p2 - (4 : Int32))) (fun i => Value.int ((F_copyOfRangeByte_new0_g p2 n_a0 g_a0) i))) := by
  refine enter (plainFor_of_name pn_0) (ef_7 a0 p2) ?_
  intro p e s m below meth c T0 kc kn Q hkc hkn hQ K' X0 e0
  have K : Fx p s m meth c jdk_65_method_133_code 5 "java/util/Arrays" "copyOfRangeByte" (some (.array .byte)) Z := K'
  have N0 := Fr.nil n0
  have K0 : Keep h0 h0 [] := Keep.refl _ _
  refine k_iloadN K X0 d7_0 rfl (q := 1) rfl ?_
  refine k_iloadN K X0 d7_1 rfl (q := 2) rfl ?_
  refine k_staticPV K X0 e0 d7_2 (wd hw 35 rfl) (wd hw 36 rfl) (wd hw 30 rfl) (wd hw 37 rfl) (by decide) (rm8 l Z az hw [] (4 : Int32) p2 h0 (own_cr1 (ob_0))) (W := 0) (by decide) (by decide) (by decide) (by decide) rfl pd_0 (argsL := [(.int (4 : Int32)), (.int p2)]) (rest := []) rfl rfl rfl (Nat.le_of_eq rfl) (q := 5) rfl ?_
  intro T30 X31 e32
  refine k_iloadN K X31 d7_5 rfl (q := 6) rfl ?_
  refine k_iloadN K X31 d7_6 rfl (q := 7) rfl ?_
  refine k_isub K X31 d7_7 (q := 8) rfl ?_
  obtain ⟨v33, hv_v33⟩ : ∃ z : Int32, (p2 - (4 : Int32)) = z := ⟨_, rfl⟩
  refine k_istoreN K X31 d7_8 hv_v33 (Ls' := #[.val (.ref a0), .val (.int (4 : Int32)), .val (.int p2), .val (.int v33), .unset]) rfl (q := 9) rfl ?_
  refine k_iloadN K X31 d7_9 rfl (q := 10) rfl ?_
  refine k_newarray K X31 e32 d7_10 (ty := .byte) rfl (wd hw 0 rfl) (n := (Int32.toNatClampNeg v33)) (cap := 74) ⟨(own_cr2 (ob_0) hv_v33).1, rfl⟩ (own_cr2 (ob_0) hv_v33).2 (by decide) (by decide) (by decide) (q := 12) rfl ?_
  intro T34 h35 b36 X37 e38 g39 E40 A41 
  have ne42 : a0 ≠ b36 := Nat.ne_of_lt (Nat.lt_of_lt_of_eq (A_a0).lt g39.symm)
  have ge43 : n0 ≤ b36 := Nat.le_trans Z0 (Nat.le_of_eq g39.symm)
  have bn44 : h0.size ≤ b36 := Nat.le_trans K0.1 (Nat.le_of_eq g39.symm)
  have f45 := Ary.ext A_a0 E40
  have K46 := Keep.ext K0 E40
  have Z47 := Nat.le_trans Z0 E40.1
  have f48 : Ary Z h35 b36 .byte (Int32.toNatClampNeg v33) (fun i => Value.int ((fun _ => (0 : Int32)) i)) := A41
  refine k_astore K X37 d7_12 rfl (Ls' := #[.val (.ref a0), .val (.int (4 : Int32)), .val (.int p2), .val (.int v33), .val (.ref b36)]) rfl (q := 14) rfl ?_
  refine k_aloadN K X37 d7_14 rfl rfl (q := 15) rfl ?_
  refine k_iloadN K X37 d7_15 rfl (q := 16) rfl ?_
  refine k_aload K X37 d7_16 rfl rfl (q := 18) rfl ?_
  refine k_iconst K X37 d7_18 (v := (0 : Int32)) rfl (q := 19) rfl ?_
  refine k_aloadN K X37 d7_19 rfl rfl (q := 20) rfl ?_
  refine k_arraylength K X37 e38 d7_20 f45 (v := (Nat.toInt32 n_a0)) rfl (q := 21) rfl ?_
  refine k_iloadN K X37 d7_21 rfl (q := 22) rfl ?_
  refine k_isub K X37 d7_22 (q := 23) rfl ?_
  refine k_iloadN K X37 d7_23 rfl (q := 24) rfl ?_
  refine k_staticP K X37 e38 d7_24 (wd hw 38 rfl) (wd hw 39 rfl) (wd hw 40 rfl) (wd hw 41 rfl) (by decide) (rm9 l Z az hw [] ((Nat.toInt32 n_a0) - (4 : Int32)) v33 h35) (W := 4) (by decide) (by decide) (by decide) (by decide) rfl pd_1 (argsL := [(.int ((Nat.toInt32 n_a0) - (4 : Int32))), (.int v33)]) (rest := [(.int (0 : Int32)), (.ref b36), (.int (4 : Int32)), (.ref a0)]) rfl rfl rfl (Nat.le_of_eq rfl) (q := 27) rfl ?_
  intro T49 X50 e51
  refine k_nameI (v := v33) (own_cr3 (ob_0) hv_v33) ?_
  refine k_arraycopy K X50 e51 d7_27 (wd hw 42 rfl) (wd hw 45 rfl) (wd hw 43 rfl) (wd hw 44 rfl) f45 f48 rfl (i := 4) (j := 0) (k := (Int32.toNatClampNeg v33)) (by decide) (by decide) ⟨((own_cr4 (ob_0) hv_v33)).1.2.2, rfl⟩ ((own_cr4 (ob_0) hv_v33)).2.1 ((own_cr4 (ob_0) hv_v33)).2.2 N0 ge43 rfl (by decide) (W := 0) (Nat.le_of_eq rfl) (by decide) (q := 30) rfl ?_
  intro T52 h53 L54 X55 e56 N57 K58 A59
  obtain ⟨v61, hv_v61⟩ : ∃ z : Nat → Int32, (blit g_a0 (fun _ => (0 : Int32)) 4 0 (Int32.toNatClampNeg v33)) = z := ⟨_, rfl⟩
  have f60 : Ary Z h53 b36 .byte (Int32.toNatClampNeg v33) (fun i => Value.int (v61 i)) := Ary.eqv A59 (fun t _ => by rw [← hv_v61]; unfold blit; split <;> rfl)
  have f62 := Ary.keep f45 K58 (ninS ne42 nin0)
  have K63 := Keep.trans K46 K58 (allS (Or.inr bn44) all0)
  have Z64 := Nat.le_trans Z47 K58.1
  refine k_aload K X55 d7_30 rfl rfl (q := 32) rfl ?_
  exact k_reta K X55 e56 d7_32 rfl rfl (Nat.le_trans (by decide) hkc) (Nat.le_trans (by decide) hkn) (hQ _ _ _ ⟨b36, ge43, bn44, rfl, N57, K63, (by rw [(show F_copyOfRangeByte_new0_g p2 n_a0 g_a0 = v61 from by first | (simp only [F_copyOfRangeByte_new0_g, hv_v33, hv_v61]; done) | (subst hv_v33; subst hv_v61; simp only [F_copyOfRangeByte_new0_g])), hv_v33]; exact f60)⟩)
theorem d6_0 : decode jdk_65_method_132_code 0 = .ok (.iload_n 1, 1) := by decide +kernel
theorem d6_1 : decode jdk_65_method_132_code 1 = .ok (.ifCond .ne 9, 3) := by decide +kernel
theorem d6_10 : decode jdk_65_method_132_code 10 = .ok (.aload_n 0, 1) := by decide +kernel
theorem d6_11 : decode jdk_65_method_132_code 11 = .ok (.iload_n 1, 1) := by decide +kernel
theorem d6_12 : decode jdk_65_method_132_code 12 = .ok (.iload_n 2, 1) := by decide +kernel
theorem d6_13 : decode jdk_65_method_132_code 13 = .ok (.invokestatic 339, 3) := by decide +kernel
theorem pd_2 : parseMethodDescriptor "([BII)[B" = some ⟨[(.array .byte), .int, .int], some (.array .byte)⟩ := by decide +kernel
theorem d6_16 : decode jdk_65_method_132_code 16 = .ok (.areturn, 1) := by decide +kernel
theorem ef_6 (a0 : Addr) (p2 : Int32) : ∀ m : MethodId, entryFrame m #[(.ref a0), (.int (4 : Int32)), (.int p2)] 3 = mkF m 0 #[.val (.ref a0), .val (.int (4 : Int32)), .val (.int p2)] [] := by intro m; first | (simp [entryFrame, mkF, argsToLocals, Value.category]; done) | rfl
set_option maxRecDepth 65536 in
set_option maxHeartbeats 40000000 in
theorem rm6 (l : Launch) (Z : State) (az : Array Value) (hw : ∀ d ∈ tables_1, d.before az Z = true) (ws : List Jvm.Cond) (a0 : Addr) (p2 : Int32) (n_a0 : Nat) (g_a0 : Nat → Int32) (h0 : Heap) (n0 : Nat) (Z0 : n0 ≤ h0.size) (A_a0 : Ary Z h0 a0 .byte n_a0 (fun i => Value.int (g_a0 i))) (ob_0 : (own_cr p2 n_a0)) :
    Met l (⟨"java/util/Arrays", "copyOfRange", "([BII)[B"⟩ : MethodName) jdk_65_method_132_code 3 (some (.array .byte)) ws ({ frames := 2, cells := 1, slots := 74, locals := 34 } : Room) Z #[(.ref a0), (.int (4 : Int32)), (.int p2)] h0 (fun v h' L => ∃ b71 : Addr, n0 ≤ b71 ∧ h0.size ≤ b71 ∧ v = some (.ref b71) ∧ Fr n0 L ∧ Keep h0 h' [] ∧ Ary Z h' b71 .byte (Int32.toNatClampNeg (p2 - (4 : Int32))) (fun i => Value.int ((F_copyOfRangeByte_new0_g p2 n_a0 g_a0) i))) := by
  refine enter (plainFor_of_name pn_0) (ef_6 a0 p2) ?_
  intro p e s m below meth c T0 kc kn Q hkc hkn hQ K' X0 e0
  have K : Fx p s m meth c jdk_65_method_132_code 3 "java/util/Arrays" "copyOfRange" (some (.array .byte)) Z := K'
  have N0 := Fr.nil n0
  have K0 : Keep h0 h0 [] := Keep.refl _ _
  refine k_iloadN K X0 d6_0 rfl (q := 1) rfl ?_
  refine k_if_ne_y K X0 d6_1 (by decide) (by decide) (q := 10) rfl ?_
  refine k_aloadN K X0 d6_10 rfl rfl (q := 11) rfl ?_
  refine k_iloadN K X0 d6_11 rfl (q := 12) rfl ?_
  refine k_iloadN K X0 d6_12 rfl (q := 13) rfl ?_
  refine k_static K X0 e0 d6_13 (wd hw 32 rfl) (wd hw 33 rfl) (wd hw 30 rfl) (wd hw 34 rfl) (by decide) (rm7 l Z az hw [] a0 p2 n_a0 g_a0 h0 n0 Z0 A_a0 (ob_0)) (W := 0) (by decide) (by decide) (by decide) (by decide) rfl pd_2 (argsL := [(.ref a0), (.int (4 : Int32)), (.int p2)]) (rest := []) rfl rfl rfl (Nat.le_of_eq rfl) (q := 16) rfl ?_
  rintro _ T65 L66 X67 ⟨b71, ge72, bn73, rfl, N68, K69, f74⟩
  have ne75 : a0 ≠ b71 := Nat.ne_of_lt (Nat.lt_of_lt_of_le (A_a0).lt bn73)
  have bn76 : h0.size ≤ b71 := Nat.le_trans K0.1 bn73
  have f77 := Ary.keep A_a0 K69 nin0
  have N78 := Fr.app N0 N68
  have K79 := Keep.trans K0 K69 all0
  have Z80 := Nat.le_trans Z0 K69.1
  exact k_reta K X67 rfl d6_16 rfl rfl (Nat.le_trans (by decide) hkc) (Nat.le_trans (by decide) hkn) (hQ _ _ _ ⟨b71, ge72, bn76, rfl, N78, K79, f74⟩)
theorem d5_0 : decode prog_88_method_10_code 0 = .ok (.aload_n 0, 1) := by decide +kernel
theorem d5_1 : decode prog_88_method_10_code 1 = .ok (.getfield 7, 3) := by decide +kernel
theorem d5_4 : decode prog_88_method_10_code 4 = .ok (.iconst 4, 1) := by decide +kernel
theorem d5_5 : decode prog_88_method_10_code 5 = .ok (.aload_n 0, 1) := by decide +kernel
theorem d5_6 : decode prog_88_method_10_code 6 = .ok (.getfield 15, 3) := by decide +kernel
theorem d5_9 : decode prog_88_method_10_code 9 = .ok (.invokestatic 86, 3) := by decide +kernel
theorem d5_12 : decode prog_88_method_10_code 12 = .ok (.areturn, 1) := by decide +kernel
theorem ef_5 (a0 : Addr) : ∀ m : MethodId, entryFrame m #[(.ref a0)] 1 = mkF m 0 #[.val (.ref a0)] [] := by intro m; first | (simp [entryFrame, mkF, argsToLocals, Value.category]; done) | rfl
theorem pn_1 : plainName "com/example/snow_goose/snowgoose/WireWriter" = true := by first | (simp [plainName, overriddenIn]; done) | decide +kernel
set_option maxRecDepth 65536 in
set_option maxHeartbeats 40000000 in
theorem rm5 (l : Launch) (Z : State) (az : Array Value) (hw : ∀ d ∈ tables_1, d.before az Z = true) (ws : List Jvm.Cond) (a0 : Addr) (w_a0_bytes : Addr) (w_a0_end : Int32) (n_w_a0_bytes : Nat) (g_w_a0_bytes : Nat → Int32) (h0 : Heap) (n0 : Nat) (Z0 : n0 ≤ h0.size) (F_a0_bytes : Fld Z h0 a0 "com/example/snow_goose/snowgoose/WireWriter" "bytes" "[B" (.ref w_a0_bytes)) (F_a0_end : Fld Z h0 a0 "com/example/snow_goose/snowgoose/WireWriter" "end" "I" (.int w_a0_end)) (A_w_a0_bytes : Ary Z h0 w_a0_bytes .byte n_w_a0_bytes (fun i => Value.int (g_w_a0_bytes i))) (ob_0 : ((own_cr w_a0_end n_w_a0_bytes))) :
    Met l (⟨"com/example/snow_goose/snowgoose/WireWriter", "toBytes", "()[B"⟩ : MethodName) prog_88_method_10_code 1 (some (.array .byte)) ws ({ frames := 3, cells := 1, slots := 74, locals := 48 } : Room) Z #[(.ref a0)] h0 (fun v h' L => ∃ b102 : Addr, n0 ≤ b102 ∧ h0.size ≤ b102 ∧ v = some (.ref b102) ∧ Fr n0 L ∧ Keep h0 h' [] ∧ Ary Z h' b102 .byte (Int32.toNatClampNeg (w_a0_end - (4 : Int32))) (fun i => Value.int ((F_copyOfRangeByte_new0_g w_a0_end n_w_a0_bytes g_w_a0_bytes) i))) := by
  refine enter (plainFor_of_name pn_1) (ef_5 a0) ?_
  intro p e s m below meth c T0 kc kn Q hkc hkn hQ K' X0 e0
  have K : Fx p s m meth c prog_88_method_10_code 1 "com/example/snow_goose/snowgoose/WireWriter" "toBytes" (some (.array .byte)) Z := K'
  have N0 := Fr.nil n0
  have K0 : Keep h0 h0 [] := Keep.refl _ _
  refine k_aloadN K X0 d5_0 rfl rfl (q := 1) rfl ?_
  refine k_getfield K X0 e0 d5_1 (wd hw 10 rfl) F_a0_bytes (q := 4) rfl ?_
  intro T90 X91 e92
  refine k_iconst K X91 d5_4 (v := (4 : Int32)) rfl (q := 5) rfl ?_
  refine k_aloadN K X91 d5_5 rfl rfl (q := 6) rfl ?_
  refine k_getfield K X91 e92 d5_6 (wd hw 12 rfl) F_a0_end (q := 9) rfl ?_
  intro T93 X94 e95
  refine k_static K X94 e95 d5_9 (wd hw 28 rfl) (wd hw 29 rfl) (wd hw 30 rfl) (wd hw 31 rfl) (by decide) (rm6 l Z az hw [] w_a0_bytes w_a0_end n_w_a0_bytes g_w_a0_bytes h0 n0 Z0 A_w_a0_bytes (ob_0)) (W := 0) (by decide) (by decide) (by decide) (by decide) rfl pd_2 (argsL := [(.ref w_a0_bytes), (.int (4 : Int32)), (.int w_a0_end)]) (rest := []) rfl rfl rfl (Nat.le_of_eq rfl) (q := 12) rfl ?_
  rintro _ T96 L97 X98 ⟨b102, ge103, bn104, rfl, N99, K100, f105⟩
  have ne106 : a0 ≠ b102 := Nat.ne_of_lt (Nat.lt_of_lt_of_le (F_a0_bytes).lt bn104)
  have ne107 : w_a0_bytes ≠ b102 := Nat.ne_of_lt (Nat.lt_of_lt_of_le (A_w_a0_bytes).lt bn104)
  have bn108 : h0.size ≤ b102 := Nat.le_trans K0.1 bn104
  have f109 := Fld.keep F_a0_bytes K100 nin0
  have f110 := Fld.keep F_a0_end K100 nin0
  have f111 := Ary.keep A_w_a0_bytes K100 nin0
  have N112 := Fr.app N0 N99
  have K113 := Keep.trans K0 K100 all0
  have Z114 := Nat.le_trans Z0 K100.1
  exact k_reta K X98 rfl d5_12 rfl rfl (Nat.le_trans (by decide) hkc) (Nat.le_trans (by decide) hkn) (hQ _ _ _ ⟨b102, ge103, bn108, rfl, N112, K113, f105⟩)
theorem d16_0 : decode jdk_65_method_121_code 0 = .ok (.iload_n 1, 1) := by decide +kernel
theorem d16_1 : decode jdk_65_method_121_code 1 = .ok (.aload_n 0, 1) := by decide +kernel
theorem d16_2 : decode jdk_65_method_121_code 2 = .ok (.arraylength, 1) := by decide +kernel
theorem d16_3 : decode jdk_65_method_121_code 3 = .ok (.if_icmp .ne 11, 3) := by decide +kernel
theorem d16_14 : decode jdk_65_method_121_code 14 = .ok (.iload_n 1, 1) := by decide +kernel
theorem d16_15 : decode jdk_65_method_121_code 15 = .ok (.newarray .byte, 2) := by decide +kernel
theorem d16_17 : decode jdk_65_method_121_code 17 = .ok (.astore_n 2, 1) := by decide +kernel
theorem d16_18 : decode jdk_65_method_121_code 18 = .ok (.aload_n 0, 1) := by decide +kernel
theorem d16_19 : decode jdk_65_method_121_code 19 = .ok (.iconst 0, 1) := by decide +kernel
theorem d16_20 : decode jdk_65_method_121_code 20 = .ok (.aload_n 2, 1) := by decide +kernel
theorem d16_21 : decode jdk_65_method_121_code 21 = .ok (.iconst 0, 1) := by decide +kernel
theorem d16_22 : decode jdk_65_method_121_code 22 = .ok (.aload_n 0, 1) := by decide +kernel
theorem d16_23 : decode jdk_65_method_121_code 23 = .ok (.arraylength, 1) := by decide +kernel
theorem d16_24 : decode jdk_65_method_121_code 24 = .ok (.iload_n 1, 1) := by decide +kernel
theorem d16_25 : decode jdk_65_method_121_code 25 = .ok (.invokestatic 304, 3) := by decide +kernel
theorem d16_28 : decode jdk_65_method_121_code 28 = .ok (.invokestatic 150, 3) := by decide +kernel
theorem d16_31 : decode jdk_65_method_121_code 31 = .ok (.aload_n 2, 1) := by decide +kernel
theorem d16_32 : decode jdk_65_method_121_code 32 = .ok (.areturn, 1) := by decide +kernel
theorem ef_16 (a0 : Addr) : ∀ m : MethodId, entryFrame m #[(.ref a0), (.int (128 : Int32))] 3 = mkF m 0 #[.val (.ref a0), .val (.int (128 : Int32)), .unset] [] := by intro m; first | (simp [entryFrame, mkF, argsToLocals, Value.category]; done) | rfl
def F_copyOf_new0_g (g_a0 : Nat → Int32) : Nat → Int32 :=
  let v142 : Nat → Int32 := (blit g_a0 (fun _ => (0 : Int32)) 0 0 64)
  v142
set_option maxRecDepth 65536 in
set_option maxHeartbeats 40000000 in
theorem rm16 (l : Launch) (Z : State) (az : Array Value) (hw : ∀ d ∈ tables_1, d.before az Z = true) (ws : List Jvm.Cond) (a0 : Addr) (g_a0 : Nat → Int32) (h0 : Heap) (n0 : Nat) (Z0 : n0 ≤ h0.size) (A_a0 : Ary Z h0 a0 .byte 64 (fun i => Value.int (g_a0 i))) :
    Met l (⟨"java/util/Arrays", "copyOf", "([BI)[B"⟩ : MethodName) jdk_65_method_121_code 3 (some (.array .byte)) ws ({ frames := 1, cells := 1, slots := 128, locals := 18 } : Room) Z #[(.ref a0), (.int (128 : Int32))] h0 (fun v h' L => ∃ b117 : Addr, n0 ≤ b117 ∧ h0.size ≤ b117 ∧ v = some (.ref b117) ∧ Fr n0 L ∧ Keep h0 h' [] ∧ Ary Z h' b117 .byte 128 (fun i => Value.int ((F_copyOf_new0_g g_a0) i))) := by
  refine enter (plainFor_of_name pn_0) (ef_16 a0) ?_
  intro p e s m below meth c T0 kc kn Q hkc hkn hQ K' X0 e0
  have K : Fx p s m meth c jdk_65_method_121_code 3 "java/util/Arrays" "copyOf" (some (.array .byte)) Z := K'
  have N0 := Fr.nil n0
  have K0 : Keep h0 h0 [] := Keep.refl _ _
  refine k_iloadN K X0 d16_0 rfl (q := 1) rfl ?_
  refine k_aloadN K X0 d16_1 rfl rfl (q := 2) rfl ?_
  refine k_arraylength K X0 e0 d16_2 A_a0 (v := (64 : Int32)) rfl (q := 3) rfl ?_
  refine k_icmp_ne_y K X0 d16_3 (by decide) (by decide) (q := 14) rfl ?_
  refine k_iloadN K X0 d16_14 rfl (q := 15) rfl ?_
  refine k_newarray K X0 e0 d16_15 (ty := .byte) rfl (wd hw 0 rfl) (n := 128) (cap := 128) (by decide) (by decide) (by decide) (by decide) (by decide) (q := 17) rfl ?_
  intro T115 h116 b117 X118 e119 g120 E121 A122 
  have ne123 : a0 ≠ b117 := Nat.ne_of_lt (Nat.lt_of_lt_of_eq (A_a0).lt g120.symm)
  have ge124 : n0 ≤ b117 := Nat.le_trans Z0 (Nat.le_of_eq g120.symm)
  have bn125 : h0.size ≤ b117 := Nat.le_trans K0.1 (Nat.le_of_eq g120.symm)
  have f126 := Ary.ext A_a0 E121
  have K127 := Keep.ext K0 E121
  have Z128 := Nat.le_trans Z0 E121.1
  have f129 : Ary Z h116 b117 .byte 128 (fun i => Value.int ((fun _ => (0 : Int32)) i)) := A122
  refine k_astoreN K X118 d16_17 rfl (Ls' := #[.val (.ref a0), .val (.int (128 : Int32)), .val (.ref b117)]) rfl (q := 18) rfl ?_
  refine k_aloadN K X118 d16_18 rfl rfl (q := 19) rfl ?_
  refine k_iconst K X118 d16_19 (v := (0 : Int32)) rfl (q := 20) rfl ?_
  refine k_aloadN K X118 d16_20 rfl rfl (q := 21) rfl ?_
  refine k_iconst K X118 d16_21 (v := (0 : Int32)) rfl (q := 22) rfl ?_
  refine k_aloadN K X118 d16_22 rfl rfl (q := 23) rfl ?_
  refine k_arraylength K X118 e119 d16_23 f126 (v := (64 : Int32)) rfl (q := 24) rfl ?_
  refine k_iloadN K X118 d16_24 rfl (q := 25) rfl ?_
  refine k_staticP K X118 e119 d16_25 (wd hw 38 rfl) (wd hw 39 rfl) (wd hw 40 rfl) (wd hw 41 rfl) (by decide) (rm9 l Z az hw [] (64 : Int32) (128 : Int32) h116) (W := 4) (by decide) (by decide) (by decide) (by decide) rfl pd_1 (argsL := [(.int (64 : Int32)), (.int (128 : Int32))]) (rest := [(.int (0 : Int32)), (.ref b117), (.int (0 : Int32)), (.ref a0)]) rfl rfl rfl (Nat.le_of_eq rfl) (q := 28) rfl ?_
  intro T130 X131 e132
  refine k_nameI (v := (64 : Int32)) (by decide +kernel) ?_
  refine k_arraycopy K X131 e132 d16_28 (wd hw 42 rfl) (wd hw 45 rfl) (wd hw 43 rfl) (wd hw 44 rfl) f126 f129 rfl (i := 0) (j := 0) (k := 64) (by decide) (by decide) (by decide) (by decide) (by decide) N0 ge124 rfl (by decide) (W := 0) (Nat.le_of_eq rfl) (by decide) (q := 31) rfl ?_
  intro T133 h134 L135 X136 e137 N138 K139 A140
  obtain ⟨v142, hv_v142⟩ : ∃ z : Nat → Int32, (blit g_a0 (fun _ => (0 : Int32)) 0 0 64) = z := ⟨_, rfl⟩
  have f141 : Ary Z h134 b117 .byte 128 (fun i => Value.int (v142 i)) := Ary.eqv A140 (fun t _ => by rw [← hv_v142]; unfold blit; split <;> rfl)
  have f143 := Ary.keep f126 K139 (ninS ne123 nin0)
  have K144 := Keep.trans K127 K139 (allS (Or.inr bn125) all0)
  have Z145 := Nat.le_trans Z128 K139.1
  refine k_aloadN K X136 d16_31 rfl rfl (q := 32) rfl ?_
  exact k_reta K X136 e137 d16_32 rfl rfl (Nat.le_trans (by decide) hkc) (Nat.le_trans (by decide) hkn) (hQ _ _ _ ⟨b117, ge124, bn125, rfl, N138, K144, (by rw [(show F_copyOf_new0_g g_a0 = v142 from by first | (simp only [F_copyOf_new0_g, hv_v142]; done) | (subst hv_v142; simp only [F_copyOf_new0_g]))]; exact f141)⟩)
theorem d4_0 : decode prog_88_method_11_code 0 = .ok (.aload_n 0, 1) := by decide +kernel
theorem d4_1 : decode prog_88_method_11_code 1 = .ok (.getfield 7, 3) := by decide +kernel
theorem d4_4 : decode prog_88_method_11_code 4 = .ok (.arraylength, 1) := by decide +kernel
theorem d4_5 : decode prog_88_method_11_code 5 = .ok (.aload_n 0, 1) := by decide +kernel
theorem d4_6 : decode prog_88_method_11_code 6 = .ok (.getfield 15, 3) := by decide +kernel
theorem d4_9 : decode prog_88_method_11_code 9 = .ok (.isub, 1) := by decide +kernel
theorem d4_10 : decode prog_88_method_11_code 10 = .ok (.iload_n 1, 1) := by decide +kernel
theorem d4_11 : decode prog_88_method_11_code 11 = .ok (.if_icmp .ge 44, 3) := by decide +kernel
theorem d4_55 : decode prog_88_method_11_code 55 = .ok (.return_, 1) := by decide +kernel
theorem ef_4k (a0 : Addr) (p1 : Int32) : ∀ m : MethodId, entryFrame m #[(.ref a0), (.int p1)] 4 = mkF m 0 #[.val (.ref a0), .val (.int p1), .unset, .unset] [] := by intro m; first | (simp [entryFrame, mkF, argsToLocals, Value.category]; done) | rfl
set_option maxRecDepth 65536 in
set_option maxHeartbeats 40000000 in
theorem rm4k (l : Launch) (Z : State) (az : Array Value) (hw : ∀ d ∈ tables_1, d.before az Z = true) (ws : List Jvm.Cond) (a0 : Addr) (p1 : Int32) (w_a0_bytes : Addr) (g_w_a0_bytes : Nat → Int32) (w_a0_end : Int32) (h0 : Heap) (F_a0_bytes : Fld Z h0 a0 "com/example/snow_goose/snowgoose/WireWriter" "bytes" "[B" (.ref w_a0_bytes)) (A_w_a0_bytes : Ary Z h0 w_a0_bytes .byte 64 (fun i => Value.int (g_w_a0_bytes i))) (F_a0_end : Fld Z h0 a0 "com/example/snow_goose/snowgoose/WireWriter" "end" "I" (.int w_a0_end)) (ob_0 : own_er w_a0_end p1) :
    Met l (⟨"com/example/snow_goose/snowgoose/WireWriter", "ensure", "(I)V"⟩ : MethodName) prog_88_method_11_code 4 none ws ({ frames := 0, cells := 0, slots := 0, locals := 0 } : Room) Z #[(.ref a0), (.int p1)] h0 (fun v h' L => v = none ∧ h' = h0 ∧ L = []) := by
  refine enter (plainFor_of_name pn_1) (ef_4k a0 p1) ?_
  intro p e s m below meth c T0 kc kn Q hkc hkn hQ K' X0 e0
  have K : Fx p s m meth c prog_88_method_11_code 4 "com/example/snow_goose/snowgoose/WireWriter" "ensure" none Z := K'
  refine k_aloadN K X0 d4_0 rfl rfl (q := 1) rfl ?_
  refine k_getfield K X0 e0 d4_1 (wd hw 10 rfl) F_a0_bytes (q := 4) rfl ?_
  intro T152 X153 e154
  refine k_arraylength K X153 e154 d4_4 A_w_a0_bytes (v := (64 : Int32)) rfl (q := 5) rfl ?_
  refine k_aloadN K X153 d4_5 rfl rfl (q := 6) rfl ?_
  refine k_getfield K X153 e154 d4_6 (wd hw 12 rfl) F_a0_end (q := 9) rfl ?_
  intro T155 X156 e157
  refine k_isub K X156 d4_9 (q := 10) rfl ?_
  refine k_iloadN K X156 d4_10 rfl (q := 11) rfl ?_
  refine k_icmp_ge_y K X156 d4_11 (own_er1 (ob_0)) (by decide) (q := 55) rfl ?_
  exact k_retv K X156 e157 d4_55 (Nat.le_trans (by decide) hkc) (Nat.le_trans (by decide) hkn) (hQ _ _ _ ⟨rfl, rfl, rfl⟩)
theorem d4_14 : decode prog_88_method_11_code 14 = .ok (.aload_n 0, 1) := by decide +kernel
theorem d4_15 : decode prog_88_method_11_code 15 = .ok (.getfield 7, 3) := by decide +kernel
theorem d4_18 : decode prog_88_method_11_code 18 = .ok (.arraylength, 1) := by decide +kernel
theorem d4_19 : decode prog_88_method_11_code 19 = .ok (.i2l, 1) := by decide +kernel
theorem d4_20 : decode prog_88_method_11_code 20 = .ok (.ldc2_w 92, 3) := by decide +kernel
theorem d4_23 : decode prog_88_method_11_code 23 = .ok (.lmul, 1) := by decide +kernel
theorem d4_24 : decode prog_88_method_11_code 24 = .ok (.aload_n 0, 1) := by decide +kernel
theorem d4_25 : decode prog_88_method_11_code 25 = .ok (.getfield 15, 3) := by decide +kernel
theorem d4_28 : decode prog_88_method_11_code 28 = .ok (.i2l, 1) := by decide +kernel
theorem d4_29 : decode prog_88_method_11_code 29 = .ok (.iload_n 1, 1) := by decide +kernel
theorem d4_30 : decode prog_88_method_11_code 30 = .ok (.i2l, 1) := by decide +kernel
theorem d4_31 : decode prog_88_method_11_code 31 = .ok (.ladd, 1) := by decide +kernel
theorem d4_32 : decode prog_88_method_11_code 32 = .ok (.invokestatic 94, 3) := by decide +kernel
theorem pd_3 : parseMethodDescriptor "(JJ)J" = some ⟨[.long, .long], some .long⟩ := by decide +kernel
theorem d4_35 : decode prog_88_method_11_code 35 = .ok (.lstore_n 2, 1) := by decide +kernel
theorem d4_36 : decode prog_88_method_11_code 36 = .ok (.aload_n 0, 1) := by decide +kernel
theorem d4_37 : decode prog_88_method_11_code 37 = .ok (.aload_n 0, 1) := by decide +kernel
theorem d4_38 : decode prog_88_method_11_code 38 = .ok (.getfield 7, 3) := by decide +kernel
theorem d4_41 : decode prog_88_method_11_code 41 = .ok (.lload_n 2, 1) := by decide +kernel
theorem d4_42 : decode prog_88_method_11_code 42 = .ok (.ldc2_w 100, 3) := by decide +kernel
theorem d4_45 : decode prog_88_method_11_code 45 = .ok (.invokestatic 102, 3) := by decide +kernel
theorem d4_48 : decode prog_88_method_11_code 48 = .ok (.l2i, 1) := by decide +kernel
theorem d4_49 : decode prog_88_method_11_code 49 = .ok (.invokestatic 105, 3) := by decide +kernel
theorem pd_4 : parseMethodDescriptor "([BI)[B" = some ⟨[(.array .byte), .int], some (.array .byte)⟩ := by decide +kernel
theorem d4_52 : decode prog_88_method_11_code 52 = .ok (.putfield 7, 3) := by decide +kernel
theorem ef_4g (a0 : Addr) : ∀ m : MethodId, entryFrame m #[(.ref a0), (.int (61 : Int32))] 4 = mkF m 0 #[.val (.ref a0), .val (.int (61 : Int32)), .unset, .unset] [] := by intro m; first | (simp [entryFrame, mkF, argsToLocals, Value.category]; done) | rfl
def F_ensureg_new0_g (g_w_a0_bytes : Nat → Int32) (w_a0_end : Int32) : Nat → Int32 :=
  let v310 : Int64 := (F_maxJ (128 : Int64) ((Int32.toInt64 w_a0_end) + (61 : Int64)))
  (F_copyOf_new0_g g_w_a0_bytes)
set_option maxRecDepth 65536 in
set_option maxHeartbeats 40000000 in
theorem rm4g (l : Launch) (Z : State) (az : Array Value) (hw : ∀ d ∈ tables_1, d.before az Z = true) (ws : List Jvm.Cond) (a0 : Addr) (w_a0_bytes : Addr) (g_w_a0_bytes : Nat → Int32) (w_a0_end : Int32) (h0 : Heap) (n0 : Nat) (Z0 : n0 ≤ h0.size) (F_a0_bytes : Fld Z h0 a0 "com/example/snow_goose/snowgoose/WireWriter" "bytes" "[B" (.ref w_a0_bytes)) (A_w_a0_bytes : Ary Z h0 w_a0_bytes .byte 64 (fun i => Value.int (g_w_a0_bytes i))) (F_a0_end : Fld Z h0 a0 "com/example/snow_goose/snowgoose/WireWriter" "end" "I" (.int w_a0_end)) (E_a0 : Exa Z h0 a0 "com/example/snow_goose/snowgoose/WireWriter") (ge_a0 : n0 ≤ a0) (ne_w_a0_bytes_a0 : w_a0_bytes ≠ a0) (ob_0 : own_eg w_a0_end) :
    Met l (⟨"com/example/snow_goose/snowgoose/WireWriter", "ensure", "(I)V"⟩ : MethodName) prog_88_method_11_code 4 none ws ({ frames := 2, cells := 1, slots := 128, locals := 33 } : Room) Z #[(.ref a0), (.int (61 : Int32))] h0 (fun v h' L => ∃ b323 : Addr, n0 ≤ b323 ∧ h0.size ≤ b323 ∧ v = none ∧ Fr n0 L ∧ Keep h0 h' [a0] ∧ Fld Z h' a0 "com/example/snow_goose/snowgoose/WireWriter" "bytes" "[B" (.ref b323) ∧ Fld Z h' a0 "com/example/snow_goose/snowgoose/WireWriter" "end" "I" (.int w_a0_end) ∧ Ary Z h' b323 .byte 128 (fun i => Value.int ((F_ensureg_new0_g g_w_a0_bytes w_a0_end) i))) := by
  refine enter (plainFor_of_name pn_1) (ef_4g a0) ?_
  intro p e s m below meth c T0 kc kn Q hkc hkn hQ K' X0 e0
  have K : Fx p s m meth c prog_88_method_11_code 4 "com/example/snow_goose/snowgoose/WireWriter" "ensure" none Z := K'
  have N0 := Fr.nil n0
  have K0 : Keep h0 h0 [a0] := Keep.refl _ _
  refine k_aloadN K X0 d4_0 rfl rfl (q := 1) rfl ?_
  refine k_getfield K X0 e0 d4_1 (wd hw 10 rfl) F_a0_bytes (q := 4) rfl ?_
  intro T295 X296 e297
  refine k_arraylength K X296 e297 d4_4 A_w_a0_bytes (v := (64 : Int32)) rfl (q := 5) rfl ?_
  refine k_aloadN K X296 d4_5 rfl rfl (q := 6) rfl ?_
  refine k_getfield K X296 e297 d4_6 (wd hw 12 rfl) F_a0_end (q := 9) rfl ?_
  intro T298 X299 e300
  refine k_isub K X299 d4_9 (q := 10) rfl ?_
  refine k_iloadN K X299 d4_10 rfl (q := 11) rfl ?_
  refine k_icmp_ge_n K X299 d4_11 (own_eg1 (ob_0)) (q := 14) rfl ?_
  refine k_aloadN K X299 d4_14 rfl rfl (q := 15) rfl ?_
  refine k_getfield K X299 e300 d4_15 (wd hw 10 rfl) F_a0_bytes (q := 18) rfl ?_
  intro T301 X302 e303
  refine k_arraylength K X302 e303 d4_18 A_w_a0_bytes (v := (64 : Int32)) rfl (q := 19) rfl ?_
  refine k_i2l K X302 d4_19 (q := 20) rfl ?_
  refine k_nameJ (v := (64 : Int64)) (by decide) ?_
  refine k_ldc2 K X302 d4_20 (wd hw 66 rfl) (q := 23) rfl ?_
  refine k_lmul K X302 d4_23 (q := 24) rfl ?_
  refine k_nameJ (v := (128 : Int64)) (by decide) ?_
  refine k_aloadN K X302 d4_24 rfl rfl (q := 25) rfl ?_
  refine k_getfield K X302 e303 d4_25 (wd hw 12 rfl) F_a0_end (q := 28) rfl ?_
  intro T304 X305 e306
  refine k_i2l K X305 d4_28 (q := 29) rfl ?_
  refine k_iloadN K X305 d4_29 rfl (q := 30) rfl ?_
  refine k_i2l K X305 d4_30 (q := 31) rfl ?_
  refine k_nameJ (v := (61 : Int64)) (by decide) ?_
  refine k_ladd K X305 d4_31 (q := 32) rfl ?_
  refine k_staticP K X305 e306 d4_32 (wd hw 67 rfl) (wd hw 68 rfl) (wd hw 40 rfl) (wd hw 69 rfl) (by decide) (rm14 l Z az hw [] (128 : Int64) ((Int32.toInt64 w_a0_end) + (61 : Int64)) h0) (W := 0) (by decide) (by decide) (by decide) (by decide) rfl pd_3 (argsL := [(.long (128 : Int64)), (.long ((Int32.toInt64 w_a0_end) + (61 : Int64)))]) (rest := []) rfl rfl rfl (Nat.le_of_eq rfl) (q := 35) rfl ?_
  intro T307 X308 e309
  obtain ⟨v310, hv_v310⟩ : ∃ z : Int64, (F_maxJ (128 : Int64) ((Int32.toInt64 w_a0_end) + (61 : Int64))) = z := ⟨_, rfl⟩
  refine k_lstoreN K X308 d4_35 hv_v310 (Ls' := #[.val (.ref a0), .val (.int (61 : Int32)), .val (.long v310), .second]) rfl (q := 36) rfl ?_
  refine k_aloadN K X308 d4_36 rfl rfl (q := 37) rfl ?_
  refine k_aloadN K X308 d4_37 rfl rfl (q := 38) rfl ?_
  refine k_getfield K X308 e309 d4_38 (wd hw 10 rfl) F_a0_bytes (q := 41) rfl ?_
  intro T311 X312 e313
  refine k_lloadN K X312 d4_41 rfl (q := 42) rfl ?_
  refine k_ldc2 K X312 d4_42 (wd hw 70 rfl) (q := 45) rfl ?_
  refine k_staticP K X312 e313 d4_45 (wd hw 71 rfl) (wd hw 72 rfl) (wd hw 40 rfl) (wd hw 73 rfl) (by decide) (rm15 l Z az hw [] v310 (2147483639 : Int64) h0) (W := 2) (by decide) (by decide) (by decide) (by decide) rfl pd_3 (argsL := [(.long v310), (.long (2147483639 : Int64))]) (rest := [(.ref w_a0_bytes), (.ref a0)]) rfl rfl rfl (Nat.le_of_eq rfl) (q := 48) rfl ?_
  intro T314 X315 e316
  refine k_l2i K X315 d4_48 (q := 49) rfl ?_
  refine k_nameI (v := (128 : Int32)) (own_eg2 (ob_0) hv_v310) ?_
  refine k_static K X315 e316 d4_49 (wd hw 74 rfl) (wd hw 75 rfl) (wd hw 30 rfl) (wd hw 76 rfl) (by decide) (rm16 l Z az hw [] w_a0_bytes g_w_a0_bytes h0 n0 Z0 A_w_a0_bytes) (W := 1) (by decide) (by decide) (by decide) (by decide) rfl pd_4 (argsL := [(.ref w_a0_bytes), (.int (128 : Int32))]) (rest := [(.ref a0)]) rfl rfl rfl (Nat.le_of_eq rfl) (q := 52) rfl ?_
  rintro _ T317 L318 X319 ⟨b323, ge324, bn325, rfl, N320, K321, f326⟩
  have ne327 : a0 ≠ b323 := Nat.ne_of_lt (Nat.lt_of_lt_of_le (F_a0_bytes).lt bn325)
  have ne328 : w_a0_bytes ≠ b323 := Nat.ne_of_lt (Nat.lt_of_lt_of_le (A_w_a0_bytes).lt bn325)
  have bn329 : h0.size ≤ b323 := Nat.le_trans K0.1 bn325
  have f330 := Fld.keep F_a0_bytes K321 nin0
  have f331 := Ary.keep A_w_a0_bytes K321 nin0
  have f332 := Fld.keep F_a0_end K321 nin0
  have f333 := Exa.keep E_a0 K321
  have N334 := Fr.app N0 N320
  have K335 := Keep.trans K0 K321 all0
  have Z336 := Nat.le_trans Z0 K321.1
  refine k_putfield K X319 rfl d4_52 (wd hw 10 rfl) f330 f333 (Or.inl (wd hw 11 rfl)) (wd hw 2 rfl) (ty := (.array .byte)) (by decide) rfl rfl (q := 55) rfl ?_
  intro T337 h338 X339 e340 W341
  have f342 := Fld.same W341 f330
  have f343 := Ary.other f331 W341 ne_w_a0_bytes_a0
  have f344 := Fld.other W341 f332 (Or.inr (slot_ne (Or.inl (wd hw 13 rfl)) (Or.inl (wd hw 11 rfl)) (by decide) (t := .int) (t' := (.array .byte)) (by decide) (by decide)))
  have f345 := Exa.wr W341 f333
  have f346 := Ary.other f326 W341 (Ne.symm ne327)
  have N347 := Fr.snoc X339 N334 ge_a0
  have K348 := Keep.wr K335 W341 (Or.inl (List.mem_of_getElem? (i := 0) rfl))
  have Z349 := Nat.le_trans Z336 (Nat.le_of_eq (Wr.size W341).symm)
  exact k_retv K X339 e340 d4_55 (Nat.le_trans (by decide) hkc) (Nat.le_trans (by decide) hkn) (hQ _ _ _ ⟨b323, ge324, bn329, rfl, N347, K348, f342, f344, (by rw [(show F_ensureg_new0_g g_w_a0_bytes w_a0_end = (F_copyOf_new0_g g_w_a0_bytes) from by first | (simp only [F_ensureg_new0_g, hv_v310]; done) | (subst hv_v310; simp only [F_ensureg_new0_g]))]; exact f346)⟩)
theorem d1_0 : decode prog_88_method_1_code 0 = .ok (.aload_n 0, 1) := by decide +kernel
theorem d1_1 : decode prog_88_method_1_code 1 = .ok (.invokespecial 1, 3) := by decide +kernel
theorem d1_4 : decode prog_88_method_1_code 4 = .ok (.aload_n 0, 1) := by decide +kernel
theorem d1_5 : decode prog_88_method_1_code 5 = .ok (.bipush 64, 2) := by decide +kernel
theorem d1_7 : decode prog_88_method_1_code 7 = .ok (.newarray .byte, 2) := by decide +kernel
theorem d1_9 : decode prog_88_method_1_code 9 = .ok (.putfield 7, 3) := by decide +kernel
theorem d1_12 : decode prog_88_method_1_code 12 = .ok (.aload_n 0, 1) := by decide +kernel
theorem d1_13 : decode prog_88_method_1_code 13 = .ok (.iconst 4, 1) := by decide +kernel
theorem d1_14 : decode prog_88_method_1_code 14 = .ok (.putfield 15, 3) := by decide +kernel
theorem d1_17 : decode prog_88_method_1_code 17 = .ok (.return_, 1) := by decide +kernel
theorem ef_1 (a0 : Addr) : ∀ m : MethodId, entryFrame m #[(.ref a0)] 1 = mkF m 0 #[.val (.ref a0)] [] := by intro m; first | (simp [entryFrame, mkF, argsToLocals, Value.category]; done) | rfl
set_option maxRecDepth 65536 in
set_option maxHeartbeats 40000000 in
theorem rm1 (l : Launch) (Z : State) (az : Array Value) (hw : ∀ d ∈ tables_1, d.before az Z = true) (ws : List Jvm.Cond) (a0 : Addr) (w_a0_bytes : Value) (w_a0_end : Int32) (h0 : Heap) (n0 : Nat) (Z0 : n0 ≤ h0.size) (E_a0 : Exa Z h0 a0 "com/example/snow_goose/snowgoose/WireWriter") (F_a0_bytes : Fld Z h0 a0 "com/example/snow_goose/snowgoose/WireWriter" "bytes" "[B" w_a0_bytes) (ge_a0 : n0 ≤ a0) (F_a0_end : Fld Z h0 a0 "com/example/snow_goose/snowgoose/WireWriter" "end" "I" (.int w_a0_end)) :
    Met l (⟨"com/example/snow_goose/snowgoose/WireWriter", "<init>", "()V"⟩ : MethodName) prog_88_method_1_code 1 none ws ({ frames := 1, cells := 1, slots := 64, locals := 12 } : Room) Z #[(.ref a0)] h0 (fun v h' L => ∃ b438 : Addr, n0 ≤ b438 ∧ h0.size ≤ b438 ∧ v = none ∧ Fr n0 L ∧ Keep h0 h' [a0] ∧ Fld Z h' a0 "com/example/snow_goose/snowgoose/WireWriter" "bytes" "[B" (.ref b438) ∧ Fld Z h' a0 "com/example/snow_goose/snowgoose/WireWriter" "end" "I" (.int (4 : Int32)) ∧ Ary Z h' b438 .byte 64 (fun i => Value.int ((fun _ => (0 : Int32)) i))) := by
  refine enter (plainFor_of_name pn_1) (ef_1 a0) ?_
  intro p e s m below meth c T0 kc kn Q hkc hkn hQ K' X0 e0
  have K : Fx p s m meth c prog_88_method_1_code 1 "com/example/snow_goose/snowgoose/WireWriter" "<init>" none Z := K'
  have N0 := Fr.nil n0
  have K0 : Keep h0 h0 [a0] := Keep.refl _ _
  refine k_aloadN K X0 d1_0 rfl rfl (q := 1) rfl ?_
  refine k_initO K X0 e0 d1_1 (wd hw 7 rfl) (wd hw 8 rfl) (wd hw 9 rfl) rfl (by decide) (W := 0) (Nat.le_of_eq rfl) (by decide) (q := 4) rfl ?_
  intro T433 X434 e435
  refine k_aloadN K X434 d1_4 rfl rfl (q := 5) rfl ?_
  refine k_bipush K X434 d1_5 (v := (64 : Int32)) rfl (q := 7) rfl ?_
  refine k_newarray K X434 e435 d1_7 (ty := .byte) rfl (wd hw 0 rfl) (n := 64) (cap := 64) (by decide) (by decide) (by decide) (by decide) (by decide) (q := 9) rfl ?_
  intro T436 h437 b438 X439 e440 g441 E442 A443 
  have ne444 : a0 ≠ b438 := Nat.ne_of_lt (Nat.lt_of_lt_of_eq (E_a0).lt g441.symm)
  have ge445 : n0 ≤ b438 := Nat.le_trans Z0 (Nat.le_of_eq g441.symm)
  have bn446 : h0.size ≤ b438 := Nat.le_trans K0.1 (Nat.le_of_eq g441.symm)
  have f447 := Exa.ext E442 E_a0
  have f448 := Fld.ext E442 F_a0_bytes
  have f449 := Fld.ext E442 F_a0_end
  have K450 := Keep.ext K0 E442
  have Z451 := Nat.le_trans Z0 E442.1
  have f452 : Ary Z h437 b438 .byte 64 (fun i => Value.int ((fun _ => (0 : Int32)) i)) := A443
  refine k_putfield K X439 e440 d1_9 (wd hw 10 rfl) f448 f447 (Or.inl (wd hw 11 rfl)) (wd hw 2 rfl) (ty := (.array .byte)) (by decide) rfl rfl (q := 12) rfl ?_
  intro T453 h454 X455 e456 W457
  have f458 := Fld.same W457 f448
  have f459 := Exa.wr W457 f447
  have f460 := Fld.other W457 f449 (Or.inr (slot_ne (Or.inl (wd hw 13 rfl)) (Or.inl (wd hw 11 rfl)) (by decide) (t := .int) (t' := (.array .byte)) (by decide) (by decide)))
  have f461 := Ary.other f452 W457 (Ne.symm ne444)
  have N462 := Fr.snoc X455 N0 ge_a0
  have K463 := Keep.wr K450 W457 (Or.inl (List.mem_of_getElem? (i := 0) rfl))
  have Z464 := Nat.le_trans Z451 (Nat.le_of_eq (Wr.size W457).symm)
  refine k_aloadN K X455 d1_12 rfl rfl (q := 13) rfl ?_
  refine k_iconst K X455 d1_13 (v := (4 : Int32)) rfl (q := 14) rfl ?_
  refine k_putfield K X455 e456 d1_14 (wd hw 12 rfl) f460 f459 (Or.inl (wd hw 13 rfl)) (wd hw 2 rfl) (ty := .int) (by decide) rfl rfl (q := 17) rfl ?_
  intro T465 h466 X467 e468 W469
  have f470 := Fld.same W469 f460
  have f471 := Exa.wr W469 f459
  have f472 := Ary.other f461 W469 (Ne.symm ne444)
  have f473 := Fld.other W469 f458 (Or.inr (slot_ne (Or.inl (wd hw 11 rfl)) (Or.inl (wd hw 13 rfl)) (by decide) (t := (.array .byte)) (t' := .int) (by decide) (by decide)))
  have N474 := Fr.snoc X467 N462 ge_a0
  have K475 := Keep.wr K463 W469 (Or.inl (List.mem_of_getElem? (i := 0) rfl))
  have Z476 := Nat.le_trans Z464 (Nat.le_of_eq (Wr.size W469).symm)
  exact k_retv K X467 e468 d1_17 (Nat.le_trans (by decide) hkc) (Nat.le_trans (by decide) hkn) (hQ _ _ _ ⟨b438, ge445, bn446, rfl, N474, K475, f473, f470, f472⟩)
theorem d3_0 : decode prog_88_method_2_code 0 = .ok (.aload_n 0, 1) := by decide +kernel
theorem d3_1 : decode prog_88_method_2_code 1 = .ok (.iconst 4, 1) := by decide +kernel
theorem d3_2 : decode prog_88_method_2_code 2 = .ok (.invokevirtual 19, 3) := by decide +kernel
theorem pd_5 : parseMethodDescriptor "(I)V" = some ⟨[.int], none⟩ := by decide +kernel
theorem d3_5 : decode prog_88_method_2_code 5 = .ok (.bipush 24, 2) := by decide +kernel
theorem d3_7 : decode prog_88_method_2_code 7 = .ok (.istore_n 2, 1) := by decide +kernel
theorem d3_8 : decode prog_88_method_2_code 8 = .ok (.iload_n 2, 1) := by decide +kernel
theorem d3_9 : decode prog_88_method_2_code 9 = .ok (.ifCond .lt 29, 3) := by decide +kernel
theorem d3_12 : decode prog_88_method_2_code 12 = .ok (.aload_n 0, 1) := by decide +kernel
theorem d3_13 : decode prog_88_method_2_code 13 = .ok (.getfield 7, 3) := by decide +kernel
theorem d3_16 : decode prog_88_method_2_code 16 = .ok (.aload_n 0, 1) := by decide +kernel
theorem d3_17 : decode prog_88_method_2_code 17 = .ok (.dup, 1) := by decide +kernel
theorem d3_18 : decode prog_88_method_2_code 18 = .ok (.getfield 15, 3) := by decide +kernel
theorem d3_21 : decode prog_88_method_2_code 21 = .ok (.dup_x1, 1) := by decide +kernel
theorem d3_22 : decode prog_88_method_2_code 22 = .ok (.iconst 1, 1) := by decide +kernel
theorem d3_23 : decode prog_88_method_2_code 23 = .ok (.iadd, 1) := by decide +kernel
theorem d3_24 : decode prog_88_method_2_code 24 = .ok (.putfield 15, 3) := by decide +kernel
theorem d3_27 : decode prog_88_method_2_code 27 = .ok (.iload_n 1, 1) := by decide +kernel
theorem d3_28 : decode prog_88_method_2_code 28 = .ok (.iload_n 2, 1) := by decide +kernel
theorem d3_29 : decode prog_88_method_2_code 29 = .ok (.iushr, 1) := by decide +kernel
theorem d3_30 : decode prog_88_method_2_code 30 = .ok (.i2b, 1) := by decide +kernel
theorem d3_31 : decode prog_88_method_2_code 31 = .ok (.bastore, 1) := by decide +kernel
theorem d3_32 : decode prog_88_method_2_code 32 = .ok (.iinc 2 (-8), 3) := by decide +kernel
theorem d3_35 : decode prog_88_method_2_code 35 = .ok (.goto (-27), 3) := by decide +kernel
theorem d3_38 : decode prog_88_method_2_code 38 = .ok (.aload_n 0, 1) := by decide +kernel
theorem d3_39 : decode prog_88_method_2_code 39 = .ok (.areturn, 1) := by decide +kernel
theorem ef_3 (a0 : Addr) (p1 : Int32) : ∀ m : MethodId, entryFrame m #[(.ref a0), (.int p1)] 3 = mkF m 0 #[.val (.ref a0), .val (.int p1), .unset] [] := by intro m; first | (simp [entryFrame, mkF, argsToLocals, Value.category]; done) | rfl
def F_writeInt_a0_end (p1 : Int32) (g_w_a0_bytes : Nat → Int32) (w_a0_end : Int32) : Int32 :=
  let v544 : Nat → Int32 := (upd g_w_a0_bytes (Int32.toNatClampNeg w_a0_end) (nar .byte (i2b (ushrI p1 (24 : Int32)))))
  let v576 : Nat → Int32 := (upd v544 (Int32.toNatClampNeg (w_a0_end + (1 : Int32))) (nar .byte (i2b (ushrI p1 (16 : Int32)))))
  let v608 : Nat → Int32 := (upd v576 (Int32.toNatClampNeg ((w_a0_end + (1 : Int32)) + (1 : Int32))) (nar .byte (i2b (ushrI p1 (8 : Int32)))))
  let v640 : Nat → Int32 := (upd v608 (Int32.toNatClampNeg (((w_a0_end + (1 : Int32)) + (1 : Int32)) + (1 : Int32))) (nar .byte (i2b (ushrI p1 (0 : Int32)))))
  ((((w_a0_end + (1 : Int32)) + (1 : Int32)) + (1 : Int32)) + (1 : Int32))
def F_writeInt_w_a0_bytes_g (p1 : Int32) (g_w_a0_bytes : Nat → Int32) (w_a0_end : Int32) : Nat → Int32 :=
  let v544 : Nat → Int32 := (upd g_w_a0_bytes (Int32.toNatClampNeg w_a0_end) (nar .byte (i2b (ushrI p1 (24 : Int32)))))
  let v576 : Nat → Int32 := (upd v544 (Int32.toNatClampNeg (w_a0_end + (1 : Int32))) (nar .byte (i2b (ushrI p1 (16 : Int32)))))
  let v608 : Nat → Int32 := (upd v576 (Int32.toNatClampNeg ((w_a0_end + (1 : Int32)) + (1 : Int32))) (nar .byte (i2b (ushrI p1 (8 : Int32)))))
  let v640 : Nat → Int32 := (upd v608 (Int32.toNatClampNeg (((w_a0_end + (1 : Int32)) + (1 : Int32)) + (1 : Int32))) (nar .byte (i2b (ushrI p1 (0 : Int32)))))
  v640
set_option maxRecDepth 65536 in
set_option maxHeartbeats 40000000 in
theorem rm3 (l : Launch) (Z : State) (az : Array Value) (hw : ∀ d ∈ tables_1, d.before az Z = true) (ws : List Jvm.Cond) (a0 : Addr) (p1 : Int32) (w_a0_bytes : Addr) (g_w_a0_bytes : Nat → Int32) (w_a0_end : Int32) (h0 : Heap) (n0 : Nat) (Z0 : n0 ≤ h0.size) (F_a0_bytes : Fld Z h0 a0 "com/example/snow_goose/snowgoose/WireWriter" "bytes" "[B" (.ref w_a0_bytes)) (A_w_a0_bytes : Ary Z h0 w_a0_bytes .byte 64 (fun i => Value.int (g_w_a0_bytes i))) (F_a0_end : Fld Z h0 a0 "com/example/snow_goose/snowgoose/WireWriter" "end" "I" (.int w_a0_end)) (E_a0 : Exa Z h0 a0 "com/example/snow_goose/snowgoose/WireWriter") (ge_a0 : n0 ≤ a0) (ne_w_a0_bytes_a0 : w_a0_bytes ≠ a0) (ge_w_a0_bytes : n0 ≤ w_a0_bytes) (ob_0 : (own_er w_a0_end (4 : Int32))) :
    Met l (⟨"com/example/snow_goose/snowgoose/WireWriter", "writeInt", "(I)Lcom/example/snow_goose/snowgoose/WireWriter;"⟩ : MethodName) prog_88_method_2_code 3 (some (.object "com/example/snow_goose/snowgoose/WireWriter")) ws ({ frames := 1, cells := 0, slots := 0, locals := 15 } : Room) Z #[(.ref a0), (.int p1)] h0 (fun v h' L => v = some (.ref a0) ∧ Fr n0 L ∧ Keep h0 h' [a0, w_a0_bytes] ∧ Fld Z h' a0 "com/example/snow_goose/snowgoose/WireWriter" "bytes" "[B" (.ref w_a0_bytes) ∧ Fld Z h' a0 "com/example/snow_goose/snowgoose/WireWriter" "end" "I" (.int (F_writeInt_a0_end p1 g_w_a0_bytes w_a0_end)) ∧ Ary Z h' w_a0_bytes .byte 64 (fun i => Value.int ((F_writeInt_w_a0_bytes_g p1 g_w_a0_bytes w_a0_end) i))) := by
  refine enter (plainFor_of_name pn_1) (ef_3 a0 p1) ?_
  intro p e s m below meth c T0 kc kn Q hkc hkn hQ K' X0 e0
  have K : Fx p s m meth c prog_88_method_2_code 3 "com/example/snow_goose/snowgoose/WireWriter" "writeInt" (some (.object "com/example/snow_goose/snowgoose/WireWriter")) Z := K'
  have N0 := Fr.nil n0
  have K0 : Keep h0 h0 [a0, w_a0_bytes] := Keep.refl _ _
  refine k_aloadN K X0 d3_0 rfl rfl (q := 1) rfl ?_
  refine k_iconst K X0 d3_1 (v := (4 : Int32)) rfl (q := 2) rfl ?_
  refine k_privatePV K X0 e0 d3_2 (wd hw 19 rfl) (wd hw 21 rfl) (wd hw 2 rfl) (wd hw 20 rfl) (wd hw 3 rfl) (wd hw 22 rfl) (by decide) E_a0 (rm4k l Z az hw [] a0 (4 : Int32) w_a0_bytes g_w_a0_bytes w_a0_end h0 F_a0_bytes A_w_a0_bytes F_a0_end (ob_0)) (W := 0) (by decide) (by decide) (by decide) (by decide) rfl pd_5 (argsL := [(.int (4 : Int32))]) (rest := []) rfl rfl rfl (Nat.le_of_eq rfl) (q := 5) rfl ?_
  intro T523 X524 e525
  refine k_bipush K X524 d3_5 (v := (24 : Int32)) rfl (q := 7) rfl ?_
  refine k_istoreN K X524 d3_7 rfl (Ls' := #[.val (.ref a0), .val (.int p1), .val (.int (24 : Int32))]) rfl (q := 8) rfl ?_
  refine k_iloadN K X524 d3_8 rfl (q := 9) rfl ?_
  refine k_if_lt_n K X524 d3_9 (by decide) (q := 12) rfl ?_
  refine k_aloadN K X524 d3_12 rfl rfl (q := 13) rfl ?_
  refine k_getfield K X524 e525 d3_13 (wd hw 10 rfl) F_a0_bytes (q := 16) rfl ?_
  intro T526 X527 e528
  refine k_aloadN K X527 d3_16 rfl rfl (q := 17) rfl ?_
  refine k_dup K X527 d3_17 rfl (q := 18) rfl ?_
  refine k_getfield K X527 e528 d3_18 (wd hw 12 rfl) F_a0_end (q := 21) rfl ?_
  intro T529 X530 e531
  refine k_dup_x1 K X530 d3_21 rfl rfl (q := 22) rfl ?_
  refine k_iconst K X530 d3_22 (v := (1 : Int32)) rfl (q := 23) rfl ?_
  refine k_iadd K X530 d3_23 (q := 24) rfl ?_
  refine k_putfield K X530 e531 d3_24 (wd hw 12 rfl) F_a0_end E_a0 (Or.inl (wd hw 13 rfl)) (wd hw 2 rfl) (ty := .int) (by decide) rfl rfl (q := 27) rfl ?_
  intro T532 h533 X534 e535 W536
  have f537 := Fld.same W536 F_a0_end
  have f538 := Fld.other W536 F_a0_bytes (Or.inr (slot_ne (Or.inl (wd hw 11 rfl)) (Or.inl (wd hw 13 rfl)) (by decide) (t := (.array .byte)) (t' := .int) (by decide) (by decide)))
  have f539 := Ary.other A_w_a0_bytes W536 ne_w_a0_bytes_a0
  have f540 := Exa.wr W536 E_a0
  have N541 := Fr.snoc X534 N0 ge_a0
  have K542 := Keep.wr K0 W536 (Or.inl (List.mem_of_getElem? (i := 0) rfl))
  have Z543 := Nat.le_trans Z0 (Nat.le_of_eq (Wr.size W536).symm)
  refine k_iloadN K X534 d3_27 rfl (q := 28) rfl ?_
  refine k_iloadN K X534 d3_28 rfl (q := 29) rfl ?_
  refine k_iushr K X534 d3_29 (q := 30) rfl ?_
  refine k_i2b K X534 d3_30 (q := 31) rfl ?_
  obtain ⟨v544, hv_v544⟩ : ∃ z : Nat → Int32, (upd g_w_a0_bytes (Int32.toNatClampNeg w_a0_end) (nar .byte (i2b (ushrI p1 (24 : Int32))))) = z := ⟨_, rfl⟩
  refine k_bastore K X534 e535 d3_31 f539 (i := (Int32.toNatClampNeg w_a0_end)) ⟨(own_w0 (ob_0) (by decide)).1, rfl⟩ (own_w0 (ob_0) (by decide)).2 (q := 32) rfl ?_
  intro T545 h546 X547 e548 W549 A550
  have f551 : Ary Z h546 w_a0_bytes .byte 64 (fun i => Value.int (v544 i)) := Ary.eqv A550 (fun k _ => by rw [← hv_v544]; show (if k = (Int32.toNatClampNeg w_a0_end) then _ else _) = _; unfold upd; split <;> rfl)
  have f552 := Fld.other W549 f538 (Or.inl (Ne.symm ne_w_a0_bytes_a0))
  have f553 := Exa.wr W549 f540
  have f554 := Fld.other W549 f537 (Or.inl (Ne.symm ne_w_a0_bytes_a0))
  have N555 := Fr.snoc X547 N541 ge_w_a0_bytes
  have K556 := Keep.wr K542 W549 (Or.inl (List.mem_of_getElem? (i := 1) rfl))
  have Z557 := Nat.le_trans Z543 (Nat.le_of_eq (Wr.size W549).symm)
  refine k_iinc K X547 d3_32 rfl (by decide) (Ls' := #[.val (.ref a0), .val (.int p1), .val (.int (16 : Int32))]) rfl (q := 35) rfl ?_
  refine k_goto K X547 d3_35 (by decide) (q := 8) rfl ?_
  refine k_iloadN K X547 d3_8 rfl (q := 9) rfl ?_
  refine k_if_lt_n K X547 d3_9 (by decide) (q := 12) rfl ?_
  refine k_aloadN K X547 d3_12 rfl rfl (q := 13) rfl ?_
  refine k_getfield K X547 e548 d3_13 (wd hw 10 rfl) f552 (q := 16) rfl ?_
  intro T558 X559 e560
  refine k_aloadN K X559 d3_16 rfl rfl (q := 17) rfl ?_
  refine k_dup K X559 d3_17 rfl (q := 18) rfl ?_
  refine k_getfield K X559 e560 d3_18 (wd hw 12 rfl) f554 (q := 21) rfl ?_
  intro T561 X562 e563
  refine k_dup_x1 K X562 d3_21 rfl rfl (q := 22) rfl ?_
  refine k_iconst K X562 d3_22 (v := (1 : Int32)) rfl (q := 23) rfl ?_
  refine k_iadd K X562 d3_23 (q := 24) rfl ?_
  refine k_putfield K X562 e563 d3_24 (wd hw 12 rfl) f554 f553 (Or.inl (wd hw 13 rfl)) (wd hw 2 rfl) (ty := .int) (by decide) rfl rfl (q := 27) rfl ?_
  intro T564 h565 X566 e567 W568
  have f569 := Fld.same W568 f554
  have f570 := Fld.other W568 f552 (Or.inr (slot_ne (Or.inl (wd hw 11 rfl)) (Or.inl (wd hw 13 rfl)) (by decide) (t := (.array .byte)) (t' := .int) (by decide) (by decide)))
  have f571 := Exa.wr W568 f553
  have f572 := Ary.other f551 W568 ne_w_a0_bytes_a0
  have N573 := Fr.snoc X566 N555 ge_a0
  have K574 := Keep.wr K556 W568 (Or.inl (List.mem_of_getElem? (i := 0) rfl))
  have Z575 := Nat.le_trans Z557 (Nat.le_of_eq (Wr.size W568).symm)
  refine k_iloadN K X566 d3_27 rfl (q := 28) rfl ?_
  refine k_iloadN K X566 d3_28 rfl (q := 29) rfl ?_
  refine k_iushr K X566 d3_29 (q := 30) rfl ?_
  refine k_i2b K X566 d3_30 (q := 31) rfl ?_
  obtain ⟨v576, hv_v576⟩ : ∃ z : Nat → Int32, (upd v544 (Int32.toNatClampNeg (w_a0_end + (1 : Int32))) (nar .byte (i2b (ushrI p1 (16 : Int32))))) = z := ⟨_, rfl⟩
  refine k_bastore K X566 e567 d3_31 f572 (i := (Int32.toNatClampNeg (w_a0_end + (1 : Int32)))) ⟨(own_w1 (ob_0)).1, rfl⟩ (own_w1 (ob_0)).2 (q := 32) rfl ?_
  intro T577 h578 X579 e580 W581 A582
  have f583 : Ary Z h578 w_a0_bytes .byte 64 (fun i => Value.int (v576 i)) := Ary.eqv A582 (fun k _ => by rw [← hv_v576]; show (if k = (Int32.toNatClampNeg (w_a0_end + (1 : Int32))) then _ else _) = _; unfold upd; split <;> rfl)
  have f584 := Fld.other W581 f570 (Or.inl (Ne.symm ne_w_a0_bytes_a0))
  have f585 := Exa.wr W581 f571
  have f586 := Fld.other W581 f569 (Or.inl (Ne.symm ne_w_a0_bytes_a0))
  have N587 := Fr.snoc X579 N573 ge_w_a0_bytes
  have K588 := Keep.wr K574 W581 (Or.inl (List.mem_of_getElem? (i := 1) rfl))
  have Z589 := Nat.le_trans Z575 (Nat.le_of_eq (Wr.size W581).symm)
  refine k_iinc K X579 d3_32 rfl (by decide) (Ls' := #[.val (.ref a0), .val (.int p1), .val (.int (8 : Int32))]) rfl (q := 35) rfl ?_
  refine k_goto K X579 d3_35 (by decide) (q := 8) rfl ?_
  refine k_iloadN K X579 d3_8 rfl (q := 9) rfl ?_
  refine k_if_lt_n K X579 d3_9 (by decide) (q := 12) rfl ?_
  refine k_aloadN K X579 d3_12 rfl rfl (q := 13) rfl ?_
  refine k_getfield K X579 e580 d3_13 (wd hw 10 rfl) f584 (q := 16) rfl ?_
  intro T590 X591 e592
  refine k_aloadN K X591 d3_16 rfl rfl (q := 17) rfl ?_
  refine k_dup K X591 d3_17 rfl (q := 18) rfl ?_
  refine k_getfield K X591 e592 d3_18 (wd hw 12 rfl) f586 (q := 21) rfl ?_
  intro T593 X594 e595
  refine k_dup_x1 K X594 d3_21 rfl rfl (q := 22) rfl ?_
  refine k_iconst K X594 d3_22 (v := (1 : Int32)) rfl (q := 23) rfl ?_
  refine k_iadd K X594 d3_23 (q := 24) rfl ?_
  refine k_putfield K X594 e595 d3_24 (wd hw 12 rfl) f586 f585 (Or.inl (wd hw 13 rfl)) (wd hw 2 rfl) (ty := .int) (by decide) rfl rfl (q := 27) rfl ?_
  intro T596 h597 X598 e599 W600
  have f601 := Fld.same W600 f586
  have f602 := Fld.other W600 f584 (Or.inr (slot_ne (Or.inl (wd hw 11 rfl)) (Or.inl (wd hw 13 rfl)) (by decide) (t := (.array .byte)) (t' := .int) (by decide) (by decide)))
  have f603 := Exa.wr W600 f585
  have f604 := Ary.other f583 W600 ne_w_a0_bytes_a0
  have N605 := Fr.snoc X598 N587 ge_a0
  have K606 := Keep.wr K588 W600 (Or.inl (List.mem_of_getElem? (i := 0) rfl))
  have Z607 := Nat.le_trans Z589 (Nat.le_of_eq (Wr.size W600).symm)
  refine k_iloadN K X598 d3_27 rfl (q := 28) rfl ?_
  refine k_iloadN K X598 d3_28 rfl (q := 29) rfl ?_
  refine k_iushr K X598 d3_29 (q := 30) rfl ?_
  refine k_i2b K X598 d3_30 (q := 31) rfl ?_
  obtain ⟨v608, hv_v608⟩ : ∃ z : Nat → Int32, (upd v576 (Int32.toNatClampNeg ((w_a0_end + (1 : Int32)) + (1 : Int32))) (nar .byte (i2b (ushrI p1 (8 : Int32))))) = z := ⟨_, rfl⟩
  refine k_bastore K X598 e599 d3_31 f604 (i := (Int32.toNatClampNeg ((w_a0_end + (1 : Int32)) + (1 : Int32)))) ⟨(own_w2 (ob_0)).1, rfl⟩ (own_w2 (ob_0)).2 (q := 32) rfl ?_
  intro T609 h610 X611 e612 W613 A614
  have f615 : Ary Z h610 w_a0_bytes .byte 64 (fun i => Value.int (v608 i)) := Ary.eqv A614 (fun k _ => by rw [← hv_v608]; show (if k = (Int32.toNatClampNeg ((w_a0_end + (1 : Int32)) + (1 : Int32))) then _ else _) = _; unfold upd; split <;> rfl)
  have f616 := Fld.other W613 f602 (Or.inl (Ne.symm ne_w_a0_bytes_a0))
  have f617 := Exa.wr W613 f603
  have f618 := Fld.other W613 f601 (Or.inl (Ne.symm ne_w_a0_bytes_a0))
  have N619 := Fr.snoc X611 N605 ge_w_a0_bytes
  have K620 := Keep.wr K606 W613 (Or.inl (List.mem_of_getElem? (i := 1) rfl))
  have Z621 := Nat.le_trans Z607 (Nat.le_of_eq (Wr.size W613).symm)
  refine k_iinc K X611 d3_32 rfl (by decide) (Ls' := #[.val (.ref a0), .val (.int p1), .val (.int (0 : Int32))]) rfl (q := 35) rfl ?_
  refine k_goto K X611 d3_35 (by decide) (q := 8) rfl ?_
  refine k_iloadN K X611 d3_8 rfl (q := 9) rfl ?_
  refine k_if_lt_n K X611 d3_9 (by decide) (q := 12) rfl ?_
  refine k_aloadN K X611 d3_12 rfl rfl (q := 13) rfl ?_
  refine k_getfield K X611 e612 d3_13 (wd hw 10 rfl) f616 (q := 16) rfl ?_
  intro T622 X623 e624
  refine k_aloadN K X623 d3_16 rfl rfl (q := 17) rfl ?_
  refine k_dup K X623 d3_17 rfl (q := 18) rfl ?_
  refine k_getfield K X623 e624 d3_18 (wd hw 12 rfl) f618 (q := 21) rfl ?_
  intro T625 X626 e627
  refine k_dup_x1 K X626 d3_21 rfl rfl (q := 22) rfl ?_
  refine k_iconst K X626 d3_22 (v := (1 : Int32)) rfl (q := 23) rfl ?_
  refine k_iadd K X626 d3_23 (q := 24) rfl ?_
  refine k_putfield K X626 e627 d3_24 (wd hw 12 rfl) f618 f617 (Or.inl (wd hw 13 rfl)) (wd hw 2 rfl) (ty := .int) (by decide) rfl rfl (q := 27) rfl ?_
  intro T628 h629 X630 e631 W632
  have f633 := Fld.same W632 f618
  have f634 := Fld.other W632 f616 (Or.inr (slot_ne (Or.inl (wd hw 11 rfl)) (Or.inl (wd hw 13 rfl)) (by decide) (t := (.array .byte)) (t' := .int) (by decide) (by decide)))
  have f635 := Exa.wr W632 f617
  have f636 := Ary.other f615 W632 ne_w_a0_bytes_a0
  have N637 := Fr.snoc X630 N619 ge_a0
  have K638 := Keep.wr K620 W632 (Or.inl (List.mem_of_getElem? (i := 0) rfl))
  have Z639 := Nat.le_trans Z621 (Nat.le_of_eq (Wr.size W632).symm)
  refine k_iloadN K X630 d3_27 rfl (q := 28) rfl ?_
  refine k_iloadN K X630 d3_28 rfl (q := 29) rfl ?_
  refine k_iushr K X630 d3_29 (q := 30) rfl ?_
  refine k_i2b K X630 d3_30 (q := 31) rfl ?_
  obtain ⟨v640, hv_v640⟩ : ∃ z : Nat → Int32, (upd v608 (Int32.toNatClampNeg (((w_a0_end + (1 : Int32)) + (1 : Int32)) + (1 : Int32))) (nar .byte (i2b (ushrI p1 (0 : Int32))))) = z := ⟨_, rfl⟩
  refine k_bastore K X630 e631 d3_31 f636 (i := (Int32.toNatClampNeg (((w_a0_end + (1 : Int32)) + (1 : Int32)) + (1 : Int32)))) ⟨(own_w3 (ob_0)).1, rfl⟩ (own_w3 (ob_0)).2 (q := 32) rfl ?_
  intro T641 h642 X643 e644 W645 A646
  have f647 : Ary Z h642 w_a0_bytes .byte 64 (fun i => Value.int (v640 i)) := Ary.eqv A646 (fun k _ => by rw [← hv_v640]; show (if k = (Int32.toNatClampNeg (((w_a0_end + (1 : Int32)) + (1 : Int32)) + (1 : Int32))) then _ else _) = _; unfold upd; split <;> rfl)
  have f648 := Fld.other W645 f634 (Or.inl (Ne.symm ne_w_a0_bytes_a0))
  have f649 := Exa.wr W645 f635
  have f650 := Fld.other W645 f633 (Or.inl (Ne.symm ne_w_a0_bytes_a0))
  have N651 := Fr.snoc X643 N637 ge_w_a0_bytes
  have K652 := Keep.wr K638 W645 (Or.inl (List.mem_of_getElem? (i := 1) rfl))
  have Z653 := Nat.le_trans Z639 (Nat.le_of_eq (Wr.size W645).symm)
  refine k_iinc K X643 d3_32 rfl (by decide) (Ls' := #[.val (.ref a0), .val (.int p1), .val (.int (-8 : Int32))]) rfl (q := 35) rfl ?_
  refine k_goto K X643 d3_35 (by decide) (q := 8) rfl ?_
  refine k_iloadN K X643 d3_8 rfl (q := 9) rfl ?_
  refine k_if_lt_y K X643 d3_9 (by decide) (by decide) (q := 38) rfl ?_
  refine k_aloadN K X643 d3_38 rfl rfl (q := 39) rfl ?_
  exact k_reta K X643 e644 d3_39 rfl rfl (Nat.le_trans (by decide) hkc) (Nat.le_trans (by decide) hkn) (hQ _ _ _ ⟨rfl, N651, K652, f648, (by rw [(show F_writeInt_a0_end p1 g_w_a0_bytes w_a0_end = ((((w_a0_end + (1 : Int32)) + (1 : Int32)) + (1 : Int32)) + (1 : Int32)) from by first | (simp only [F_writeInt_a0_end, hv_v544, hv_v576, hv_v608, hv_v640]; done) | (subst hv_v544; subst hv_v576; subst hv_v608; subst hv_v640; simp only [F_writeInt_a0_end]))]; exact f650), (by rw [(show F_writeInt_w_a0_bytes_g p1 g_w_a0_bytes w_a0_end = v640 from by first | (simp only [F_writeInt_w_a0_bytes_g, hv_v544, hv_v576, hv_v608, hv_v640]; done) | (subst hv_v544; subst hv_v576; subst hv_v608; subst hv_v640; simp only [F_writeInt_w_a0_bytes_g]))]; exact f647)⟩)
theorem d11_0 : decode prog_88_method_3_code 0 = .ok (.aload_n 0, 1) := by decide +kernel
theorem d11_1 : decode prog_88_method_3_code 1 = .ok (.lload_n 1, 1) := by decide +kernel
theorem d11_2 : decode prog_88_method_3_code 2 = .ok (.bipush 32, 2) := by decide +kernel
theorem d11_4 : decode prog_88_method_3_code 4 = .ok (.lushr, 1) := by decide +kernel
theorem d11_5 : decode prog_88_method_3_code 5 = .ok (.l2i, 1) := by decide +kernel
theorem d11_6 : decode prog_88_method_3_code 6 = .ok (.invokevirtual 23, 3) := by decide +kernel
theorem pd_6 : parseMethodDescriptor "(I)Lcom/example/snow_goose/snowgoose/WireWriter;" = some ⟨[.int], some (.object "com/example/snow_goose/snowgoose/WireWriter")⟩ := by decide +kernel
theorem d11_9 : decode prog_88_method_3_code 9 = .ok (.pop, 1) := by decide +kernel
theorem d11_10 : decode prog_88_method_3_code 10 = .ok (.aload_n 0, 1) := by decide +kernel
theorem d11_11 : decode prog_88_method_3_code 11 = .ok (.lload_n 1, 1) := by decide +kernel
theorem d11_12 : decode prog_88_method_3_code 12 = .ok (.l2i, 1) := by decide +kernel
theorem d11_13 : decode prog_88_method_3_code 13 = .ok (.invokevirtual 23, 3) := by decide +kernel
theorem d11_16 : decode prog_88_method_3_code 16 = .ok (.areturn, 1) := by decide +kernel
theorem ef_11 (a0 : Addr) (q1 : Int64) : ∀ m : MethodId, entryFrame m #[(.ref a0), (.long q1)] 3 = mkF m 0 #[.val (.ref a0), .val (.long q1), .second] [] := by intro m; first | (simp [entryFrame, mkF, argsToLocals, Value.category]; done) | rfl
def F_writeLong_w_a0_bytes_g (q1 : Int64) (g_w_a0_bytes : Nat → Int32) (w_a0_end : Int32) : Nat → Int32 :=
  let v667 : Int32 := (F_writeInt_a0_end (Int64.toInt32 (ushrL q1 (32 : Int32))) g_w_a0_bytes w_a0_end)
  let v681 : Int32 := (F_writeInt_a0_end (Int64.toInt32 q1) (F_writeInt_w_a0_bytes_g (Int64.toInt32 (ushrL q1 (32 : Int32))) g_w_a0_bytes w_a0_end) v667)
  (F_writeInt_w_a0_bytes_g (Int64.toInt32 q1) (F_writeInt_w_a0_bytes_g (Int64.toInt32 (ushrL q1 (32 : Int32))) g_w_a0_bytes w_a0_end) v667)
def F_writeLong_a0_end (q1 : Int64) (g_w_a0_bytes : Nat → Int32) (w_a0_end : Int32) : Int32 :=
  let v667 : Int32 := (F_writeInt_a0_end (Int64.toInt32 (ushrL q1 (32 : Int32))) g_w_a0_bytes w_a0_end)
  let v681 : Int32 := (F_writeInt_a0_end (Int64.toInt32 q1) (F_writeInt_w_a0_bytes_g (Int64.toInt32 (ushrL q1 (32 : Int32))) g_w_a0_bytes w_a0_end) v667)
  v681
set_option maxRecDepth 65536 in
set_option maxHeartbeats 40000000 in
theorem rm11 (l : Launch) (Z : State) (az : Array Value) (hw : ∀ d ∈ tables_1, d.before az Z = true) (ws : List Jvm.Cond) (a0 : Addr) (q1 : Int64) (w_a0_bytes : Addr) (g_w_a0_bytes : Nat → Int32) (w_a0_end : Int32) (h0 : Heap) (n0 : Nat) (Z0 : n0 ≤ h0.size) (F_a0_bytes : Fld Z h0 a0 "com/example/snow_goose/snowgoose/WireWriter" "bytes" "[B" (.ref w_a0_bytes)) (A_w_a0_bytes : Ary Z h0 w_a0_bytes .byte 64 (fun i => Value.int (g_w_a0_bytes i))) (F_a0_end : Fld Z h0 a0 "com/example/snow_goose/snowgoose/WireWriter" "end" "I" (.int w_a0_end)) (E_a0 : Exa Z h0 a0 "com/example/snow_goose/snowgoose/WireWriter") (ge_a0 : n0 ≤ a0) (ne_w_a0_bytes_a0 : w_a0_bytes ≠ a0) (ge_w_a0_bytes : n0 ≤ w_a0_bytes) (ob_0 : ((own_er w_a0_end (4 : Int32)))) (ob_1 : ∀ (v667 : Int32), (F_writeInt_a0_end (Int64.toInt32 (ushrL q1 (32 : Int32))) g_w_a0_bytes w_a0_end) = v667 → ((own_er v667 (4 : Int32)))) :
    Met l (⟨"com/example/snow_goose/snowgoose/WireWriter", "writeLong", "(J)Lcom/example/snow_goose/snowgoose/WireWriter;"⟩ : MethodName) prog_88_method_3_code 3 (some (.object "com/example/snow_goose/snowgoose/WireWriter")) ws ({ frames := 2, cells := 0, slots := 0, locals := 29 } : Room) Z #[(.ref a0), (.long q1)] h0 (fun v h' L => v = some (.ref a0) ∧ Fr n0 L ∧ Keep h0 h' [w_a0_bytes, a0] ∧ Ary Z h' w_a0_bytes .byte 64 (fun i => Value.int ((F_writeLong_w_a0_bytes_g q1 g_w_a0_bytes w_a0_end) i)) ∧ Fld Z h' a0 "com/example/snow_goose/snowgoose/WireWriter" "bytes" "[B" (.ref w_a0_bytes) ∧ Fld Z h' a0 "com/example/snow_goose/snowgoose/WireWriter" "end" "I" (.int (F_writeLong_a0_end q1 g_w_a0_bytes w_a0_end))) := by
  refine enter (plainFor_of_name pn_1) (ef_11 a0 q1) ?_
  intro p e s m below meth c T0 kc kn Q hkc hkn hQ K' X0 e0
  have K : Fx p s m meth c prog_88_method_3_code 3 "com/example/snow_goose/snowgoose/WireWriter" "writeLong" (some (.object "com/example/snow_goose/snowgoose/WireWriter")) Z := K'
  have N0 := Fr.nil n0
  have K0 : Keep h0 h0 [w_a0_bytes, a0] := Keep.refl _ _
  refine k_aloadN K X0 d11_0 rfl rfl (q := 1) rfl ?_
  refine k_lloadN K X0 d11_1 rfl (q := 2) rfl ?_
  refine k_bipush K X0 d11_2 (v := (32 : Int32)) rfl (q := 4) rfl ?_
  refine k_lushr K X0 d11_4 (q := 5) rfl ?_
  refine k_l2i K X0 d11_5 (q := 6) rfl ?_
  refine k_virtual K X0 e0 d11_6 (wd hw 55 rfl) (wd hw 15 rfl) (wd hw 17 rfl) (wd hw 16 rfl) (wd hw 3 rfl) (wd hw 18 rfl) (by decide) E_a0 (rm3 l Z az hw [] a0 (Int64.toInt32 (ushrL q1 (32 : Int32))) w_a0_bytes g_w_a0_bytes w_a0_end h0 n0 Z0 F_a0_bytes A_w_a0_bytes F_a0_end E_a0 ge_a0 ne_w_a0_bytes_a0 ge_w_a0_bytes (ob_0)) (W := 0) (by decide) (by decide) (by decide) (by decide) rfl pd_6 (argsL := [(.int (Int64.toInt32 (ushrL q1 (32 : Int32))))]) (rest := []) rfl rfl rfl (Nat.le_of_eq rfl) (q := 9) rfl ?_
  rintro _ T654 L655 X656 ⟨rfl, N657, K658, f660, f661, f662⟩
  have f663 := Exa.keep E_a0 K658
  have N664 := Fr.app N0 N657
  have K665 := Keep.trans K0 K658 (allS (Or.inl (List.mem_of_getElem? (i := 1) rfl)) (allS (Or.inl (List.mem_of_getElem? (i := 0) rfl)) all0))
  have Z666 := Nat.le_trans Z0 K658.1
  obtain ⟨v667, hv_v667⟩ : ∃ z : Int32, (F_writeInt_a0_end (Int64.toInt32 (ushrL q1 (32 : Int32))) g_w_a0_bytes w_a0_end) = z := ⟨_, rfl⟩
  rw [hv_v667] at f661
  refine k_pop K X656 d11_9 rfl (q := 10) rfl ?_
  refine k_aloadN K X656 d11_10 rfl rfl (q := 11) rfl ?_
  refine k_lloadN K X656 d11_11 rfl (q := 12) rfl ?_
  refine k_l2i K X656 d11_12 (q := 13) rfl ?_
  refine k_virtual K X656 rfl d11_13 (wd hw 55 rfl) (wd hw 15 rfl) (wd hw 17 rfl) (wd hw 16 rfl) (wd hw 3 rfl) (wd hw 18 rfl) (by decide) f663 (rm3 l Z az hw [] a0 (Int64.toInt32 q1) w_a0_bytes (F_writeInt_w_a0_bytes_g (Int64.toInt32 (ushrL q1 (32 : Int32))) g_w_a0_bytes w_a0_end) v667 T654.heap n0 Z666 f660 f662 f661 f663 ge_a0 ne_w_a0_bytes_a0 ge_w_a0_bytes (ob_1 v667 hv_v667)) (W := 0) (by decide) (by decide) (by decide) (by decide) rfl pd_6 (argsL := [(.int (Int64.toInt32 q1))]) (rest := []) rfl rfl rfl (Nat.le_of_eq rfl) (q := 16) rfl ?_
  rintro _ T668 L669 X670 ⟨rfl, N671, K672, f674, f675, f676⟩
  have f677 := Exa.keep f663 K672
  have N678 := Fr.app N664 N671
  have K679 := Keep.trans K665 K672 (allS (Or.inl (List.mem_of_getElem? (i := 1) rfl)) (allS (Or.inl (List.mem_of_getElem? (i := 0) rfl)) all0))
  have Z680 := Nat.le_trans Z666 K672.1
  obtain ⟨v681, hv_v681⟩ : ∃ z : Int32, (F_writeInt_a0_end (Int64.toInt32 q1) (F_writeInt_w_a0_bytes_g (Int64.toInt32 (ushrL q1 (32 : Int32))) g_w_a0_bytes w_a0_end) v667) = z := ⟨_, rfl⟩
  rw [hv_v681] at f675
  exact k_reta K X670 rfl d11_16 rfl rfl (Nat.le_trans (by decide) hkc) (Nat.le_trans (by decide) hkn) (hQ _ _ _ ⟨rfl, N678, K679, (by rw [(show F_writeLong_w_a0_bytes_g q1 g_w_a0_bytes w_a0_end = (F_writeInt_w_a0_bytes_g (Int64.toInt32 q1) (F_writeInt_w_a0_bytes_g (Int64.toInt32 (ushrL q1 (32 : Int32))) g_w_a0_bytes w_a0_end) v667) from by first | (simp only [F_writeLong_w_a0_bytes_g, hv_v667, hv_v681]; done) | (subst hv_v667; subst hv_v681; simp only [F_writeLong_w_a0_bytes_g]))]; exact f676), f674, (by rw [(show F_writeLong_a0_end q1 g_w_a0_bytes w_a0_end = v681 from by first | (simp only [F_writeLong_a0_end, hv_v667, hv_v681]; done) | (subst hv_v667; subst hv_v681; simp only [F_writeLong_a0_end]))]; exact f675)⟩)
theorem d12_0 : decode prog_88_method_4_code 0 = .ok (.aload_n 0, 1) := by decide +kernel
theorem d12_1 : decode prog_88_method_4_code 1 = .ok (.iconst 1, 1) := by decide +kernel
theorem d12_2 : decode prog_88_method_4_code 2 = .ok (.invokevirtual 19, 3) := by decide +kernel
theorem d12_5 : decode prog_88_method_4_code 5 = .ok (.aload_n 0, 1) := by decide +kernel
theorem d12_6 : decode prog_88_method_4_code 6 = .ok (.getfield 7, 3) := by decide +kernel
theorem d12_9 : decode prog_88_method_4_code 9 = .ok (.aload_n 0, 1) := by decide +kernel
theorem d12_10 : decode prog_88_method_4_code 10 = .ok (.dup, 1) := by decide +kernel
theorem d12_11 : decode prog_88_method_4_code 11 = .ok (.getfield 15, 3) := by decide +kernel
theorem d12_14 : decode prog_88_method_4_code 14 = .ok (.dup_x1, 1) := by decide +kernel
theorem d12_15 : decode prog_88_method_4_code 15 = .ok (.iconst 1, 1) := by decide +kernel
theorem d12_16 : decode prog_88_method_4_code 16 = .ok (.iadd, 1) := by decide +kernel
theorem d12_17 : decode prog_88_method_4_code 17 = .ok (.putfield 15, 3) := by decide +kernel
theorem d12_20 : decode prog_88_method_4_code 20 = .ok (.iload_n 1, 1) := by decide +kernel
theorem d12_21 : decode prog_88_method_4_code 21 = .ok (.ifCond .eq 7, 3) := by decide +kernel
theorem d12_29 : decode prog_88_method_4_code 29 = .ok (.i2b, 1) := by decide +kernel
theorem d12_30 : decode prog_88_method_4_code 30 = .ok (.bastore, 1) := by decide +kernel
theorem d12_31 : decode prog_88_method_4_code 31 = .ok (.aload_n 0, 1) := by decide +kernel
theorem d12_32 : decode prog_88_method_4_code 32 = .ok (.areturn, 1) := by decide +kernel
theorem d12_28 : decode prog_88_method_4_code 28 = .ok (.iconst 0, 1) := by decide +kernel
theorem d12_24 : decode prog_88_method_4_code 24 = .ok (.iconst 1, 1) := by decide +kernel
theorem d12_25 : decode prog_88_method_4_code 25 = .ok (.goto 4, 3) := by decide +kernel
theorem ef_12 (a0 : Addr) (p1 : Int32) : ∀ m : MethodId, entryFrame m #[(.ref a0), (.int p1)] 2 = mkF m 0 #[.val (.ref a0), .val (.int p1)] [] := by intro m; first | (simp [entryFrame, mkF, argsToLocals, Value.category]; done) | rfl
def F_writeBoolean_a0_end (p1 : Int32) (g_w_a0_bytes : Nat → Int32) (w_a0_end : Int32) : Int32 :=
  let d753 : Int32 := (if p1 = (0 : Int32) then (0 : Int32) else (1 : Int32))
  let v755 : Nat → Int32 := (upd g_w_a0_bytes (Int32.toNatClampNeg w_a0_end) (nar .byte (i2b d753)))
  (w_a0_end + (1 : Int32))
def F_writeBoolean_w_a0_bytes_g (p1 : Int32) (g_w_a0_bytes : Nat → Int32) (w_a0_end : Int32) : Nat → Int32 :=
  let d753 : Int32 := (if p1 = (0 : Int32) then (0 : Int32) else (1 : Int32))
  let v755 : Nat → Int32 := (upd g_w_a0_bytes (Int32.toNatClampNeg w_a0_end) (nar .byte (i2b d753)))
  v755
set_option maxRecDepth 65536 in
set_option maxHeartbeats 40000000 in
theorem rm12 (l : Launch) (Z : State) (az : Array Value) (hw : ∀ d ∈ tables_1, d.before az Z = true) (ws : List Jvm.Cond) (a0 : Addr) (p1 : Int32) (w_a0_bytes : Addr) (g_w_a0_bytes : Nat → Int32) (w_a0_end : Int32) (h0 : Heap) (n0 : Nat) (Z0 : n0 ≤ h0.size) (F_a0_bytes : Fld Z h0 a0 "com/example/snow_goose/snowgoose/WireWriter" "bytes" "[B" (.ref w_a0_bytes)) (A_w_a0_bytes : Ary Z h0 w_a0_bytes .byte 64 (fun i => Value.int (g_w_a0_bytes i))) (F_a0_end : Fld Z h0 a0 "com/example/snow_goose/snowgoose/WireWriter" "end" "I" (.int w_a0_end)) (E_a0 : Exa Z h0 a0 "com/example/snow_goose/snowgoose/WireWriter") (ge_a0 : n0 ≤ a0) (ne_w_a0_bytes_a0 : w_a0_bytes ≠ a0) (ge_w_a0_bytes : n0 ≤ w_a0_bytes) (ob_0 : (own_er w_a0_end (1 : Int32))) :
    Met l (⟨"com/example/snow_goose/snowgoose/WireWriter", "writeBoolean", "(Z)Lcom/example/snow_goose/snowgoose/WireWriter;"⟩ : MethodName) prog_88_method_4_code 2 (some (.object "com/example/snow_goose/snowgoose/WireWriter")) ws ({ frames := 1, cells := 0, slots := 0, locals := 15 } : Room) Z #[(.ref a0), (.int p1)] h0 (fun v h' L => v = some (.ref a0) ∧ Fr n0 L ∧ Keep h0 h' [a0, w_a0_bytes] ∧ Fld Z h' a0 "com/example/snow_goose/snowgoose/WireWriter" "bytes" "[B" (.ref w_a0_bytes) ∧ Fld Z h' a0 "com/example/snow_goose/snowgoose/WireWriter" "end" "I" (.int (F_writeBoolean_a0_end p1 g_w_a0_bytes w_a0_end)) ∧ Ary Z h' w_a0_bytes .byte 64 (fun i => Value.int ((F_writeBoolean_w_a0_bytes_g p1 g_w_a0_bytes w_a0_end) i))) := by
  refine enter (plainFor_of_name pn_1) (ef_12 a0 p1) ?_
  intro p e s m below meth c T0 kc kn Q hkc hkn hQ K' X0 e0
  have K : Fx p s m meth c prog_88_method_4_code 2 "com/example/snow_goose/snowgoose/WireWriter" "writeBoolean" (some (.object "com/example/snow_goose/snowgoose/WireWriter")) Z := K'
  have N0 := Fr.nil n0
  have K0 : Keep h0 h0 [a0, w_a0_bytes] := Keep.refl _ _
  refine k_aloadN K X0 d12_0 rfl rfl (q := 1) rfl ?_
  refine k_iconst K X0 d12_1 (v := (1 : Int32)) rfl (q := 2) rfl ?_
  refine k_privatePV K X0 e0 d12_2 (wd hw 19 rfl) (wd hw 21 rfl) (wd hw 2 rfl) (wd hw 20 rfl) (wd hw 3 rfl) (wd hw 22 rfl) (by decide) E_a0 (rm4k l Z az hw [] a0 (1 : Int32) w_a0_bytes g_w_a0_bytes w_a0_end h0 F_a0_bytes A_w_a0_bytes F_a0_end (ob_0)) (W := 0) (by decide) (by decide) (by decide) (by decide) rfl pd_5 (argsL := [(.int (1 : Int32))]) (rest := []) rfl rfl rfl (Nat.le_of_eq rfl) (q := 5) rfl ?_
  intro T731 X732 e733
  refine k_aloadN K X732 d12_5 rfl rfl (q := 6) rfl ?_
  refine k_getfield K X732 e733 d12_6 (wd hw 10 rfl) F_a0_bytes (q := 9) rfl ?_
  intro T734 X735 e736
  refine k_aloadN K X735 d12_9 rfl rfl (q := 10) rfl ?_
  refine k_dup K X735 d12_10 rfl (q := 11) rfl ?_
  refine k_getfield K X735 e736 d12_11 (wd hw 12 rfl) F_a0_end (q := 14) rfl ?_
  intro T737 X738 e739
  refine k_dup_x1 K X738 d12_14 rfl rfl (q := 15) rfl ?_
  refine k_iconst K X738 d12_15 (v := (1 : Int32)) rfl (q := 16) rfl ?_
  refine k_iadd K X738 d12_16 (q := 17) rfl ?_
  refine k_putfield K X738 e739 d12_17 (wd hw 12 rfl) F_a0_end E_a0 (Or.inl (wd hw 13 rfl)) (wd hw 2 rfl) (ty := .int) (by decide) rfl rfl (q := 20) rfl ?_
  intro T740 h741 X742 e743 W744
  have f745 := Fld.same W744 F_a0_end
  have f746 := Fld.other W744 F_a0_bytes (Or.inr (slot_ne (Or.inl (wd hw 11 rfl)) (Or.inl (wd hw 13 rfl)) (by decide) (t := (.array .byte)) (t' := .int) (by decide) (by decide)))
  have f747 := Ary.other A_w_a0_bytes W744 ne_w_a0_bytes_a0
  have f748 := Exa.wr W744 E_a0
  have N749 := Fr.snoc X742 N0 ge_a0
  have K750 := Keep.wr K0 W744 (Or.inl (List.mem_of_getElem? (i := 0) rfl))
  have Z751 := Nat.le_trans Z0 (Nat.le_of_eq (Wr.size W744).symm)
  refine k_iloadN K X742 d12_20 rfl (q := 21) rfl ?_
  have J754 : ∀ (d753 : Int32), (if p1 = (0 : Int32) then (0 : Int32) else (1 : Int32)) = d753 → Run p e below s kc kn Q T740 (mkF m 29 #[.val (.ref a0), .val (.int p1)] [(.int d753), (.int w_a0_end), (.ref w_a0_bytes)]) := by
    intro d753 hv_d753
    refine k_i2b K X742 d12_29 (q := 30) rfl ?_
    obtain ⟨v755, hv_v755⟩ : ∃ z : Nat → Int32, (upd g_w_a0_bytes (Int32.toNatClampNeg w_a0_end) (nar .byte (i2b d753))) = z := ⟨_, rfl⟩
    refine k_bastore K X742 e743 d12_30 f747 (i := (Int32.toNatClampNeg w_a0_end)) ⟨(own_w0 (ob_0) (by decide)).1, rfl⟩ (own_w0 (ob_0) (by decide)).2 (q := 31) rfl ?_
    intro T756 h757 X758 e759 W760 A761
    have f762 : Ary Z h757 w_a0_bytes .byte 64 (fun i => Value.int (v755 i)) := Ary.eqv A761 (fun k _ => by rw [← hv_v755]; show (if k = (Int32.toNatClampNeg w_a0_end) then _ else _) = _; unfold upd; split <;> rfl)
    have f763 := Fld.other W760 f746 (Or.inl (Ne.symm ne_w_a0_bytes_a0))
    have f764 := Exa.wr W760 f748
    have f765 := Fld.other W760 f745 (Or.inl (Ne.symm ne_w_a0_bytes_a0))
    have N766 := Fr.snoc X758 N749 ge_w_a0_bytes
    have K767 := Keep.wr K750 W760 (Or.inl (List.mem_of_getElem? (i := 1) rfl))
    have Z768 := Nat.le_trans Z751 (Nat.le_of_eq (Wr.size W760).symm)
    refine k_aloadN K X758 d12_31 rfl rfl (q := 32) rfl ?_
    exact k_reta K X758 e759 d12_32 rfl rfl (Nat.le_trans (by decide) hkc) (Nat.le_trans (by decide) hkn) (hQ _ _ _ ⟨rfl, N766, K767, f763, (by rw [(show F_writeBoolean_a0_end p1 g_w_a0_bytes w_a0_end = (w_a0_end + (1 : Int32)) from by first | (simp only [F_writeBoolean_a0_end, hv_d753, hv_v755]; done) | (subst hv_d753; subst hv_v755; simp only [F_writeBoolean_a0_end]))]; exact f765), (by rw [(show F_writeBoolean_w_a0_bytes_g p1 g_w_a0_bytes w_a0_end = v755 from by first | (simp only [F_writeBoolean_w_a0_bytes_g, hv_d753, hv_v755]; done) | (subst hv_d753; subst hv_v755; simp only [F_writeBoolean_w_a0_bytes_g]))]; exact f762)⟩)
  refine k_if_eq K X742 d12_21 (by decide) (q := 28) rfl (q' := 24) rfl ?_ ?_
  · intro hc769
    refine k_iconst K X742 d12_28 (v := (0 : Int32)) rfl (q := 29) rfl ?_
    exact J754 _ (by first | (simp only [if_pos hc769]; done) | rfl)
  · intro hc769
    refine k_iconst K X742 d12_24 (v := (1 : Int32)) rfl (q := 25) rfl ?_
    refine k_goto K X742 d12_25 (by decide) (q := 29) rfl ?_
    exact J754 _ (by first | (simp only [if_neg hc769]; done) | rfl)
theorem d13_0 : decode prog_88_method_8_code 0 = .ok (.aload_n 0, 1) := by decide +kernel
theorem d13_1 : decode prog_88_method_8_code 1 = .ok (.aload_n 1, 1) := by decide +kernel
theorem d13_2 : decode prog_88_method_8_code 2 = .ok (.arraylength, 1) := by decide +kernel
theorem d13_3 : decode prog_88_method_8_code 3 = .ok (.invokevirtual 19, 3) := by decide +kernel
theorem d13_6 : decode prog_88_method_8_code 6 = .ok (.aload_n 1, 1) := by decide +kernel
theorem d13_7 : decode prog_88_method_8_code 7 = .ok (.iconst 0, 1) := by decide +kernel
theorem d13_8 : decode prog_88_method_8_code 8 = .ok (.aload_n 0, 1) := by decide +kernel
theorem d13_9 : decode prog_88_method_8_code 9 = .ok (.getfield 7, 3) := by decide +kernel
theorem d13_12 : decode prog_88_method_8_code 12 = .ok (.aload_n 0, 1) := by decide +kernel
theorem d13_13 : decode prog_88_method_8_code 13 = .ok (.getfield 15, 3) := by decide +kernel
theorem d13_16 : decode prog_88_method_8_code 16 = .ok (.aload_n 1, 1) := by decide +kernel
theorem d13_17 : decode prog_88_method_8_code 17 = .ok (.arraylength, 1) := by decide +kernel
theorem d13_18 : decode prog_88_method_8_code 18 = .ok (.invokestatic 70, 3) := by decide +kernel
theorem d13_21 : decode prog_88_method_8_code 21 = .ok (.aload_n 0, 1) := by decide +kernel
theorem d13_22 : decode prog_88_method_8_code 22 = .ok (.dup, 1) := by decide +kernel
theorem d13_23 : decode prog_88_method_8_code 23 = .ok (.getfield 15, 3) := by decide +kernel
theorem d13_26 : decode prog_88_method_8_code 26 = .ok (.aload_n 1, 1) := by decide +kernel
theorem d13_27 : decode prog_88_method_8_code 27 = .ok (.arraylength, 1) := by decide +kernel
theorem d13_28 : decode prog_88_method_8_code 28 = .ok (.iadd, 1) := by decide +kernel
theorem d13_29 : decode prog_88_method_8_code 29 = .ok (.putfield 15, 3) := by decide +kernel
theorem d13_32 : decode prog_88_method_8_code 32 = .ok (.aload_n 0, 1) := by decide +kernel
theorem d13_33 : decode prog_88_method_8_code 33 = .ok (.areturn, 1) := by decide +kernel
theorem ef_13 (a0 : Addr) (a1 : Addr) : ∀ m : MethodId, entryFrame m #[(.ref a0), (.ref a1)] 2 = mkF m 0 #[.val (.ref a0), .val (.ref a1)] [] := by intro m; first | (simp [entryFrame, mkF, argsToLocals, Value.category]; done) | rfl
def F_writeRaw_a0_end (g_a1 : Nat → Int32) (g_w_a0_bytes : Nat → Int32) (w_a0_end : Int32) : Int32 :=
  let v823 : Nat → Int32 := (blit g_a1 (F_ensureg_new0_g g_w_a0_bytes w_a0_end) 0 (Int32.toNatClampNeg w_a0_end) 61)
  (w_a0_end + (61 : Int32))
def F_writeRaw_new0_g (g_a1 : Nat → Int32) (g_w_a0_bytes : Nat → Int32) (w_a0_end : Int32) : Nat → Int32 :=
  let v823 : Nat → Int32 := (blit g_a1 (F_ensureg_new0_g g_w_a0_bytes w_a0_end) 0 (Int32.toNatClampNeg w_a0_end) 61)
  v823
set_option maxRecDepth 65536 in
set_option maxHeartbeats 40000000 in
theorem rm13 (l : Launch) (Z : State) (az : Array Value) (hw : ∀ d ∈ tables_1, d.before az Z = true) (ws : List Jvm.Cond) (a0 : Addr) (a1 : Addr) (g_a1 : Nat → Int32) (w_a0_bytes : Addr) (g_w_a0_bytes : Nat → Int32) (w_a0_end : Int32) (h0 : Heap) (n0 : Nat) (Z0 : n0 ≤ h0.size) (A_a1 : Ary Z h0 a1 .byte 61 (fun i => Value.int (g_a1 i))) (F_a0_bytes : Fld Z h0 a0 "com/example/snow_goose/snowgoose/WireWriter" "bytes" "[B" (.ref w_a0_bytes)) (A_w_a0_bytes : Ary Z h0 w_a0_bytes .byte 64 (fun i => Value.int (g_w_a0_bytes i))) (F_a0_end : Fld Z h0 a0 "com/example/snow_goose/snowgoose/WireWriter" "end" "I" (.int w_a0_end)) (E_a0 : Exa Z h0 a0 "com/example/snow_goose/snowgoose/WireWriter") (ge_a0 : n0 ≤ a0) (ne_w_a0_bytes_a0 : w_a0_bytes ≠ a0) (ne_a1_a0 : a1 ≠ a0) (ob_0 : (own_eg w_a0_end)) :
    Met l (⟨"com/example/snow_goose/snowgoose/WireWriter", "writeRaw", "([B)Lcom/example/snow_goose/snowgoose/WireWriter;"⟩ : MethodName) prog_88_method_8_code 2 (some (.object "com/example/snow_goose/snowgoose/WireWriter")) ws ({ frames := 3, cells := 1, slots := 128, locals := 48 } : Room) Z #[(.ref a0), (.ref a1)] h0 (fun v h' L => ∃ b794 : Addr, n0 ≤ b794 ∧ h0.size ≤ b794 ∧ v = some (.ref a0) ∧ Fr n0 L ∧ Keep h0 h' [a0] ∧ Fld Z h' a0 "com/example/snow_goose/snowgoose/WireWriter" "bytes" "[B" (.ref b794) ∧ Fld Z h' a0 "com/example/snow_goose/snowgoose/WireWriter" "end" "I" (.int (F_writeRaw_a0_end g_a1 g_w_a0_bytes w_a0_end)) ∧ Ary Z h' b794 .byte 128 (fun i => Value.int ((F_writeRaw_new0_g g_a1 g_w_a0_bytes w_a0_end) i))) := by
  refine enter (plainFor_of_name pn_1) (ef_13 a0 a1) ?_
  intro p e s m below meth c T0 kc kn Q hkc hkn hQ K' X0 e0
  have K : Fx p s m meth c prog_88_method_8_code 2 "com/example/snow_goose/snowgoose/WireWriter" "writeRaw" (some (.object "com/example/snow_goose/snowgoose/WireWriter")) Z := K'
  have N0 := Fr.nil n0
  have K0 : Keep h0 h0 [a0] := Keep.refl _ _
  refine k_aloadN K X0 d13_0 rfl rfl (q := 1) rfl ?_
  refine k_aloadN K X0 d13_1 rfl rfl (q := 2) rfl ?_
  refine k_arraylength K X0 e0 d13_2 A_a1 (v := (61 : Int32)) rfl (q := 3) rfl ?_
  refine k_private K X0 e0 d13_3 (wd hw 19 rfl) (wd hw 21 rfl) (wd hw 2 rfl) (wd hw 20 rfl) (wd hw 3 rfl) (wd hw 22 rfl) (by decide) E_a0 (rm4g l Z az hw [] a0 w_a0_bytes g_w_a0_bytes w_a0_end h0 n0 Z0 F_a0_bytes A_w_a0_bytes F_a0_end E_a0 ge_a0 ne_w_a0_bytes_a0 (ob_0)) (W := 0) (by decide) (by decide) (by decide) (by decide) rfl pd_5 (argsL := [(.int (61 : Int32))]) (rest := []) rfl rfl rfl (Nat.le_of_eq rfl) (q := 6) rfl ?_
  rintro _ T786 L787 X788 ⟨b794, ge795, bn796, rfl, N789, K790, f792, f793, f797⟩
  have ne798 : a1 ≠ b794 := Nat.ne_of_lt (Nat.lt_of_lt_of_le (A_a1).lt bn796)
  have ne799 : a0 ≠ b794 := Nat.ne_of_lt (Nat.lt_of_lt_of_le (F_a0_bytes).lt bn796)
  have ne800 : w_a0_bytes ≠ b794 := Nat.ne_of_lt (Nat.lt_of_lt_of_le (A_w_a0_bytes).lt bn796)
  have bn801 : h0.size ≤ b794 := Nat.le_trans K0.1 bn796
  have f802 := Ary.keep A_a1 K790 (ninS ne_a1_a0 nin0)
  have f803 := Ary.keep A_w_a0_bytes K790 (ninS ne_w_a0_bytes_a0 nin0)
  have f804 := Exa.keep E_a0 K790
  have N805 := Fr.app N0 N789
  have K806 := Keep.trans K0 K790 (allS (Or.inl (List.mem_of_getElem? (i := 0) rfl)) all0)
  have Z807 := Nat.le_trans Z0 K790.1
  refine k_aloadN K X788 d13_6 rfl rfl (q := 7) rfl ?_
  refine k_iconst K X788 d13_7 (v := (0 : Int32)) rfl (q := 8) rfl ?_
  refine k_aloadN K X788 d13_8 rfl rfl (q := 9) rfl ?_
  refine k_getfield K X788 rfl d13_9 (wd hw 10 rfl) f792 (q := 12) rfl ?_
  intro T808 X809 e810
  refine k_aloadN K X809 d13_12 rfl rfl (q := 13) rfl ?_
  refine k_getfield K X809 e810 d13_13 (wd hw 12 rfl) f793 (q := 16) rfl ?_
  intro T811 X812 e813
  refine k_aloadN K X812 d13_16 rfl rfl (q := 17) rfl ?_
  refine k_arraylength K X812 e813 d13_17 f802 (v := (61 : Int32)) rfl (q := 18) rfl ?_
  refine k_arraycopy K X812 e813 d13_18 (wd hw 77 rfl) (wd hw 45 rfl) (wd hw 43 rfl) (wd hw 44 rfl) f802 f797 rfl (i := 0) (j := (Int32.toNatClampNeg w_a0_end)) (k := 61) (by decide) ⟨((own_eg3 (ob_0))).1.2.1, rfl⟩ (by decide) ((own_eg3 (ob_0))).2.1 ((own_eg3 (ob_0))).2.2 N805 ge795 rfl (by decide) (W := 0) (Nat.le_of_eq rfl) (by decide) (q := 21) rfl ?_
  intro T814 h815 L816 X817 e818 N819 K820 A821
  obtain ⟨v823, hv_v823⟩ : ∃ z : Nat → Int32, (blit g_a1 (F_ensureg_new0_g g_w_a0_bytes w_a0_end) 0 (Int32.toNatClampNeg w_a0_end) 61) = z := ⟨_, rfl⟩
  have f822 : Ary Z h815 b794 .byte 128 (fun i => Value.int (v823 i)) := Ary.eqv A821 (fun t _ => by rw [← hv_v823]; unfold blit; split <;> rfl)
  have f824 := Ary.keep f802 K820 (ninS ne798 nin0)
  have f825 := Ary.keep f803 K820 (ninS ne800 nin0)
  have f826 := Exa.keep f804 K820
  have f827 := Fld.keep f792 K820 (ninS ne799 nin0)
  have f828 := Fld.keep f793 K820 (ninS ne799 nin0)
  have K829 := Keep.trans K806 K820 (allS (Or.inr bn801) all0)
  have Z830 := Nat.le_trans Z807 K820.1
  refine k_aloadN K X817 d13_21 rfl rfl (q := 22) rfl ?_
  refine k_dup K X817 d13_22 rfl (q := 23) rfl ?_
  refine k_getfield K X817 e818 d13_23 (wd hw 12 rfl) f828 (q := 26) rfl ?_
  intro T831 X832 e833
  refine k_aloadN K X832 d13_26 rfl rfl (q := 27) rfl ?_
  refine k_arraylength K X832 e833 d13_27 f824 (v := (61 : Int32)) rfl (q := 28) rfl ?_
  refine k_iadd K X832 d13_28 (q := 29) rfl ?_
  refine k_putfield K X832 e833 d13_29 (wd hw 12 rfl) f828 f826 (Or.inl (wd hw 13 rfl)) (wd hw 2 rfl) (ty := .int) (by decide) rfl rfl (q := 32) rfl ?_
  intro T834 h835 X836 e837 W838
  have f839 := Fld.same W838 f828
  have f840 := Ary.other f824 W838 ne_a1_a0
  have f841 := Ary.other f825 W838 ne_w_a0_bytes_a0
  have f842 := Exa.wr W838 f826
  have f843 := Fld.other W838 f827 (Or.inr (slot_ne (Or.inl (wd hw 11 rfl)) (Or.inl (wd hw 13 rfl)) (by decide) (t := (.array .byte)) (t' := .int) (by decide) (by decide)))
  have f844 := Ary.other f822 W838 (Ne.symm ne799)
  have N845 := Fr.snoc X836 N819 ge_a0
  have K846 := Keep.wr K829 W838 (Or.inl (List.mem_of_getElem? (i := 0) rfl))
  have Z847 := Nat.le_trans Z830 (Nat.le_of_eq (Wr.size W838).symm)
  refine k_aloadN K X836 d13_32 rfl rfl (q := 33) rfl ?_
  exact k_reta K X836 e837 d13_33 rfl rfl (Nat.le_trans (by decide) hkc) (Nat.le_trans (by decide) hkn) (hQ _ _ _ ⟨b794, ge795, bn801, rfl, N845, K846, f843, (by rw [(show F_writeRaw_a0_end g_a1 g_w_a0_bytes w_a0_end = (w_a0_end + (61 : Int32)) from by first | (simp only [F_writeRaw_a0_end, hv_v823]; done) | (subst hv_v823; simp only [F_writeRaw_a0_end]))]; exact f839), (by rw [(show F_writeRaw_new0_g g_a1 g_w_a0_bytes w_a0_end = v823 from by first | (simp only [F_writeRaw_new0_g, hv_v823]; done) | (subst hv_v823; simp only [F_writeRaw_new0_g]))]; exact f844)⟩)
theorem d10_0 : decode method_2_code 0 = .ok (.aload_n 0, 1) := by decide +kernel
theorem d10_1 : decode method_2_code 1 = .ok (.iload_n 1, 1) := by decide +kernel
theorem d10_2 : decode method_2_code 2 = .ok (.baload, 1) := by decide +kernel
theorem d10_3 : decode method_2_code 3 = .ok (.iload_n 2, 1) := by decide +kernel
theorem d10_4 : decode method_2_code 4 = .ok (.bipush 24, 2) := by decide +kernel
theorem d10_6 : decode method_2_code 6 = .ok (.iushr, 1) := by decide +kernel
theorem d10_7 : decode method_2_code 7 = .ok (.i2b, 1) := by decide +kernel
theorem d10_8 : decode method_2_code 8 = .ok (.if_icmp .ne 43, 3) := by decide +kernel
theorem d10_52 : decode method_2_code 52 = .ok (.ireturn, 1) := by decide +kernel
theorem d10_51 : decode method_2_code 51 = .ok (.iconst 0, 1) := by decide +kernel
theorem d10_11 : decode method_2_code 11 = .ok (.aload_n 0, 1) := by decide +kernel
theorem d10_12 : decode method_2_code 12 = .ok (.iload_n 1, 1) := by decide +kernel
theorem d10_13 : decode method_2_code 13 = .ok (.iconst 1, 1) := by decide +kernel
theorem d10_14 : decode method_2_code 14 = .ok (.iadd, 1) := by decide +kernel
theorem d10_15 : decode method_2_code 15 = .ok (.baload, 1) := by decide +kernel
theorem d10_16 : decode method_2_code 16 = .ok (.iload_n 2, 1) := by decide +kernel
theorem d10_17 : decode method_2_code 17 = .ok (.bipush 16, 2) := by decide +kernel
theorem d10_19 : decode method_2_code 19 = .ok (.iushr, 1) := by decide +kernel
theorem d10_20 : decode method_2_code 20 = .ok (.i2b, 1) := by decide +kernel
theorem d10_21 : decode method_2_code 21 = .ok (.if_icmp .ne 30, 3) := by decide +kernel
theorem d10_24 : decode method_2_code 24 = .ok (.aload_n 0, 1) := by decide +kernel
theorem d10_25 : decode method_2_code 25 = .ok (.iload_n 1, 1) := by decide +kernel
theorem d10_26 : decode method_2_code 26 = .ok (.iconst 2, 1) := by decide +kernel
theorem d10_27 : decode method_2_code 27 = .ok (.iadd, 1) := by decide +kernel
theorem d10_28 : decode method_2_code 28 = .ok (.baload, 1) := by decide +kernel
theorem d10_29 : decode method_2_code 29 = .ok (.iload_n 2, 1) := by decide +kernel
theorem d10_30 : decode method_2_code 30 = .ok (.bipush 8, 2) := by decide +kernel
theorem d10_32 : decode method_2_code 32 = .ok (.iushr, 1) := by decide +kernel
theorem d10_33 : decode method_2_code 33 = .ok (.i2b, 1) := by decide +kernel
theorem d10_34 : decode method_2_code 34 = .ok (.if_icmp .ne 17, 3) := by decide +kernel
theorem d10_37 : decode method_2_code 37 = .ok (.aload_n 0, 1) := by decide +kernel
theorem d10_38 : decode method_2_code 38 = .ok (.iload_n 1, 1) := by decide +kernel
theorem d10_39 : decode method_2_code 39 = .ok (.iconst 3, 1) := by decide +kernel
theorem d10_40 : decode method_2_code 40 = .ok (.iadd, 1) := by decide +kernel
theorem d10_41 : decode method_2_code 41 = .ok (.baload, 1) := by decide +kernel
theorem d10_42 : decode method_2_code 42 = .ok (.iload_n 2, 1) := by decide +kernel
theorem d10_43 : decode method_2_code 43 = .ok (.i2b, 1) := by decide +kernel
theorem d10_44 : decode method_2_code 44 = .ok (.if_icmp .ne 7, 3) := by decide +kernel
theorem d10_47 : decode method_2_code 47 = .ok (.iconst 1, 1) := by decide +kernel
theorem d10_48 : decode method_2_code 48 = .ok (.goto 4, 3) := by decide +kernel
theorem ef_10 (a0 : Addr) (p1 : Int32) (p2 : Int32) : ∀ m : MethodId, entryFrame m #[(.ref a0), (.int p1), (.int p2)] 3 = mkF m 0 #[.val (.ref a0), .val (.int p1), .val (.int p2)] [] := by intro m; first | (simp [entryFrame, mkF, argsToLocals, Value.category]; done) | rfl
theorem pn_2 : plainName "com/example/snow_goose/snowgoose/WireWriterToBytesPinLaw" = true := by first | (simp [plainName, overriddenIn]; done) | decide +kernel
def M10_853 (v848 : Int32) (p2 : Int32) (g_a0 : Nat → Int32) (p1 : Int32) : Int32 :=
  (if v848 = (i2b (ushrI p2 (24 : Int32))) then (if (g_a0 (Int32.toNatClampNeg (p1 + (1 : Int32)))) = (i2b (ushrI p2 (16 : Int32))) then (if (g_a0 (Int32.toNatClampNeg (p1 + (2 : Int32)))) = (i2b (ushrI p2 (8 : Int32))) then (if (g_a0 (Int32.toNatClampNeg (p1 + (3 : Int32)))) = (i2b p2) then (1 : Int32) else (0 : Int32)) else (0 : Int32)) else (0 : Int32)) else (0 : Int32))
def F_isInt (p1 : Int32) (p2 : Int32) (n_a0 : Nat) (g_a0 : Nat → Int32) : Int32 :=
  let v848 : Int32 := (g_a0 (Int32.toNatClampNeg p1))
  let d854 : Int32 := (M10_853 v848 p2 g_a0 p1)
  (nar .boolean d854)
set_option maxRecDepth 65536 in
set_option maxHeartbeats 40000000 in
theorem rm10 (l : Launch) (Z : State) (az : Array Value) (hw : ∀ d ∈ tables_1, d.before az Z = true) (ws : List Jvm.Cond) (a0 : Addr) (p1 : Int32) (p2 : Int32) (n_a0 : Nat) (g_a0 : Nat → Int32) (h0 : Heap) (A_a0 : Ary Z h0 a0 .byte n_a0 (fun i => Value.int (g_a0 i))) (ob_0 : own_i4 p1 n_a0) :
    Met l (⟨"com/example/snow_goose/snowgoose/WireWriterToBytesPinLaw", "isInt", "([BII)Z"⟩ : MethodName) method_2_code 3 (some .boolean) ws ({ frames := 0, cells := 0, slots := 0, locals := 0 } : Room) Z #[(.ref a0), (.int p1), (.int p2)] h0 (fun v h' L => v = some (Value.int (F_isInt p1 p2 n_a0 g_a0)) ∧ h' = h0 ∧ L = []) := by
  refine enter (plainFor_of_name pn_2) (ef_10 a0 p1 p2) ?_
  intro p e s m below meth c T0 kc kn Q hkc hkn hQ K' X0 e0
  have K : Fx p s m meth c method_2_code 3 "com/example/snow_goose/snowgoose/WireWriterToBytesPinLaw" "isInt" (some .boolean) Z := K'
  refine k_aloadN K X0 d10_0 rfl rfl (q := 1) rfl ?_
  refine k_iloadN K X0 d10_1 rfl (q := 2) rfl ?_
  refine k_baload K X0 e0 d10_2 A_a0 (i := (Int32.toNatClampNeg p1)) (v := (.int (g_a0 (Int32.toNatClampNeg p1)))) ⟨(own_i4z (ob_0)).1, rfl⟩ (own_i4z (ob_0)).2 rfl (q := 3) rfl ?_
  obtain ⟨v848, hv_v848⟩ : ∃ z : Int32, (g_a0 (Int32.toNatClampNeg p1)) = z := ⟨_, rfl⟩
  refine k_nameI hv_v848 ?_
  refine k_iloadN K X0 d10_3 rfl (q := 4) rfl ?_
  refine k_bipush K X0 d10_4 (v := (24 : Int32)) rfl (q := 6) rfl ?_
  refine k_iushr K X0 d10_6 (q := 7) rfl ?_
  refine k_i2b K X0 d10_7 (q := 8) rfl ?_
  have J855 : ∀ (d854 : Int32), (M10_853 v848 p2 g_a0 p1) = d854 → Run p e below s kc kn Q T0 (mkF m 52 #[.val (.ref a0), .val (.int p1), .val (.int p2)] [(.int d854)]) := by
    intro d854 hv_d854
    exact k_retz K X0 e0 d10_52 (Nat.le_trans (by decide) hkc) (Nat.le_trans (by decide) hkn) (hQ _ _ _ ⟨(by show some (Value.int (nar .boolean d854)) = some (Value.int (F_isInt p1 p2 n_a0 g_a0)); first | (simp only [F_isInt, hv_v848, hv_d854]; done) | (subst hv_v848; subst hv_d854; simp only [F_isInt])), rfl, rfl⟩)
  refine k_icmp_ne K X0 d10_8 (by decide) (q := 51) rfl (q' := 11) rfl ?_ ?_
  · intro hc856
    refine k_iconst K X0 d10_51 (v := (0 : Int32)) rfl (q := 52) rfl ?_
    exact J855 _ (by first | (simp only [M10_853, if_neg hc856]; done) | rfl)
  · intro hc856
    refine k_aloadN K X0 d10_11 rfl rfl (q := 12) rfl ?_
    refine k_iloadN K X0 d10_12 rfl (q := 13) rfl ?_
    refine k_iconst K X0 d10_13 (v := (1 : Int32)) rfl (q := 14) rfl ?_
    refine k_iadd K X0 d10_14 (q := 15) rfl ?_
    refine k_baload K X0 e0 d10_15 A_a0 (i := (Int32.toNatClampNeg (p1 + (1 : Int32)))) (v := (.int (g_a0 (Int32.toNatClampNeg (p1 + (1 : Int32)))))) ⟨(own_i40 (ob_0) (1 : Int32) (by decide) (by decide)).1, rfl⟩ (own_i40 (ob_0) (1 : Int32) (by decide) (by decide)).2 rfl (q := 16) rfl ?_
    refine k_iloadN K X0 d10_16 rfl (q := 17) rfl ?_
    refine k_bipush K X0 d10_17 (v := (16 : Int32)) rfl (q := 19) rfl ?_
    refine k_iushr K X0 d10_19 (q := 20) rfl ?_
    refine k_i2b K X0 d10_20 (q := 21) rfl ?_
    refine k_icmp_ne K X0 d10_21 (by decide) (q := 51) rfl (q' := 24) rfl ?_ ?_
    · intro hc857
      refine k_iconst K X0 d10_51 (v := (0 : Int32)) rfl (q := 52) rfl ?_
      exact J855 _ (by first | (simp only [M10_853, if_pos hc856, if_neg hc857]; done) | rfl)
    · intro hc857
      refine k_aloadN K X0 d10_24 rfl rfl (q := 25) rfl ?_
      refine k_iloadN K X0 d10_25 rfl (q := 26) rfl ?_
      refine k_iconst K X0 d10_26 (v := (2 : Int32)) rfl (q := 27) rfl ?_
      refine k_iadd K X0 d10_27 (q := 28) rfl ?_
      refine k_baload K X0 e0 d10_28 A_a0 (i := (Int32.toNatClampNeg (p1 + (2 : Int32)))) (v := (.int (g_a0 (Int32.toNatClampNeg (p1 + (2 : Int32)))))) ⟨(own_i40 (ob_0) (2 : Int32) (by decide) (by decide)).1, rfl⟩ (own_i40 (ob_0) (2 : Int32) (by decide) (by decide)).2 rfl (q := 29) rfl ?_
      refine k_iloadN K X0 d10_29 rfl (q := 30) rfl ?_
      refine k_bipush K X0 d10_30 (v := (8 : Int32)) rfl (q := 32) rfl ?_
      refine k_iushr K X0 d10_32 (q := 33) rfl ?_
      refine k_i2b K X0 d10_33 (q := 34) rfl ?_
      refine k_icmp_ne K X0 d10_34 (by decide) (q := 51) rfl (q' := 37) rfl ?_ ?_
      · intro hc858
        refine k_iconst K X0 d10_51 (v := (0 : Int32)) rfl (q := 52) rfl ?_
        exact J855 _ (by first | (simp only [M10_853, if_pos hc856, if_pos hc857, if_neg hc858]; done) | rfl)
      · intro hc858
        refine k_aloadN K X0 d10_37 rfl rfl (q := 38) rfl ?_
        refine k_iloadN K X0 d10_38 rfl (q := 39) rfl ?_
        refine k_iconst K X0 d10_39 (v := (3 : Int32)) rfl (q := 40) rfl ?_
        refine k_iadd K X0 d10_40 (q := 41) rfl ?_
        refine k_baload K X0 e0 d10_41 A_a0 (i := (Int32.toNatClampNeg (p1 + (3 : Int32)))) (v := (.int (g_a0 (Int32.toNatClampNeg (p1 + (3 : Int32)))))) ⟨(own_i40 (ob_0) (3 : Int32) (by decide) (by decide)).1, rfl⟩ (own_i40 (ob_0) (3 : Int32) (by decide) (by decide)).2 rfl (q := 42) rfl ?_
        refine k_iloadN K X0 d10_42 rfl (q := 43) rfl ?_
        refine k_i2b K X0 d10_43 (q := 44) rfl ?_
        refine k_icmp_ne K X0 d10_44 (by decide) (q := 51) rfl (q' := 47) rfl ?_ ?_
        · intro hc859
          refine k_iconst K X0 d10_51 (v := (0 : Int32)) rfl (q := 52) rfl ?_
          exact J855 _ (by first | (simp only [M10_853, if_pos hc856, if_pos hc857, if_pos hc858, if_neg hc859]; done) | rfl)
        · intro hc859
          refine k_iconst K X0 d10_47 (v := (1 : Int32)) rfl (q := 48) rfl ?_
          refine k_goto K X0 d10_48 (by decide) (q := 52) rfl ?_
          exact J855 _ (by first | (simp only [M10_853, if_pos hc856, if_pos hc857, if_pos hc858, if_pos hc859]; done) | rfl)
theorem own_bit (x : Int32) : (if x = (0 : Int32) then (0 : Int32) else (1 : Int32)) = 0 ∨ (if x = (0 : Int32) then (0 : Int32) else (1 : Int32)) = 1 := by
  by_cases h : x = 0
  · rw [if_pos h]; exact Or.inl rfl
  · rw [if_neg h]; exact Or.inr rfl
theorem own_nb (y : Int32) : nar .byte (i2b y) = i2b y := by
  have h1 : ((i2b y).toInt - y.toInt) % 256 = 0 ∧ -128 ≤ (i2b y).toInt ∧ (i2b y).toInt < 128 := c_i2b y
  have h2 : ((nar .byte (i2b y)).toInt - (i2b y).toInt) % 256 = 0 ∧ -128 ≤ (nar .byte (i2b y)).toInt ∧ (nar .byte (i2b y)).toInt < 128 := c_i2b (i2b y)
  rw [own_eqI]; omega
theorem own_u0 (v : Int32) : ushrI v 0 = v := by
  first | rfl | (unfold ushrI; simp)
theorem own_we (v : Int32) (g : Nat → Int32) (e : Int32) : F_writeInt_a0_end v g e = e + 1 + 1 + 1 + 1 := rfl
theorem own_wl (v : Int64) (g : Nat → Int32) (e : Int32) : F_writeLong_a0_end v g e = e + 1 + 1 + 1 + 1 + 1 + 1 + 1 + 1 := rfl
theorem own_wb (v : Int32) (g : Nat → Int32) (e : Int32) : F_writeBoolean_a0_end v g e = e + 1 := rfl
theorem own_wr (r g : Nat → Int32) (e : Int32) : F_writeRaw_a0_end r g e = e + 61 := rfl
theorem own_10 : ((1 : Int32) = 0) = False := by decide

theorem pd_7 : parseMethodDescriptor "()V" = some ⟨[], none⟩ := by decide +kernel
theorem pd_8 : parseMethodDescriptor "(J)Lcom/example/snow_goose/snowgoose/WireWriter;" = some ⟨[.long], some (.object "com/example/snow_goose/snowgoose/WireWriter")⟩ := by decide +kernel
theorem pd_9 : parseMethodDescriptor "(Z)Lcom/example/snow_goose/snowgoose/WireWriter;" = some ⟨[.boolean], some (.object "com/example/snow_goose/snowgoose/WireWriter")⟩ := by decide +kernel
theorem pd_10 : parseMethodDescriptor "()[B" = some ⟨[], some (.array .byte)⟩ := by decide +kernel
theorem pd_11 : parseMethodDescriptor "([BII)Z" = some ⟨[(.array .byte), .int, .int], some .boolean⟩ := by decide +kernel
theorem pd_12 : parseMethodDescriptor "([B)Lcom/example/snow_goose/snowgoose/WireWriter;" = some ⟨[(.array .byte)], some (.object "com/example/snow_goose/snowgoose/WireWriter")⟩ := by decide +kernel
theorem ef_0 (p0 : Int32) (q1 : Int64) (p2 : Int32) (p3 : Int32) : ∀ m : MethodId, entryFrame m #[(.int p0), (.long q1), (.int p2), (.int p3)] maxLocals = mkF m 0 #[.val (.int p0), .val (.long q1), .second, .val (.int p2), .val (.int p3), .unset, .unset, .unset, .unset, .unset, .unset, .unset, .unset, .unset, .unset] [] := by intro m; first | (simp [entryFrame, mkF, argsToLocals, Value.category, maxLocals]; done) | rfl
def F_law (p0 : Int32) (q1 : Int64) (p2 : Int32) (p3 : Int32) : Int32 :=
  let d861 : Int32 := (if (p2 &&& (1 : Int32)) = (0 : Int32) then (0 : Int32) else (1 : Int32))
  let d864 : Int32 := (if (p2 &&& (2 : Int32)) = (0 : Int32) then (0 : Int32) else (1 : Int32))
  let d867 : Int32 := (if (p2 &&& (4 : Int32)) = (0 : Int32) then (0 : Int32) else (1 : Int32))
  let d870 : Int32 := (if (p2 &&& (8 : Int32)) = (0 : Int32) then (0 : Int32) else (1 : Int32))
  let d873 : Int32 := (if (p2 &&& (16 : Int32)) = (0 : Int32) then (0 : Int32) else (1 : Int32))
  let v888 : Nat → Int32 := (upd (fun _ => (0 : Int32)) 0 (nar .byte (i2b p3)))
  let v899 : Nat → Int32 := (upd v888 30 (nar .byte (i2b (ushrI p3 (16 : Int32)))))
  let v910 : Nat → Int32 := (upd v899 60 (nar .byte (i2b (ushrI p3 (8 : Int32)))))
  let d973 : Int32 := (if d861 = (0 : Int32) then (4 : Int32) else (F_writeInt_a0_end p0 (fun _ => (0 : Int32)) (4 : Int32)))
  let d974 : Nat → Int32 := (if d861 = (0 : Int32) then (fun _ => (0 : Int32)) else (F_writeInt_w_a0_bytes_g p0 (fun _ => (0 : Int32)) (4 : Int32)))
  let d1004 : Int32 := (if d864 = (0 : Int32) then d973 else (F_writeLong_a0_end q1 d974 d973))
  let d1005 : Nat → Int32 := (if d864 = (0 : Int32) then d974 else (F_writeLong_w_a0_bytes_g q1 d974 d973))
  let d1035 : Int32 := (if d867 = (0 : Int32) then d1004 else (F_writeBoolean_a0_end d870 d1005 d1004))
  let d1036 : Nat → Int32 := (if d867 = (0 : Int32) then d1005 else (F_writeBoolean_w_a0_bytes_g d870 d1005 d1004))
  if d873 = (0 : Int32) then
    let d1074 : Int32 := (if d861 = (0 : Int32) then (0 : Int32) else (4 : Int32))
    let d1077 : Int32 := (if d864 = (0 : Int32) then (0 : Int32) else (8 : Int32))
    let d1080 : Int32 := (if d867 = (0 : Int32) then (0 : Int32) else (1 : Int32))
    let v1082 : Int32 := (((d1074 + d1077) + d1080) + (0 : Int32))
    let d1087 : Int32 := (if d861 = (0 : Int32) then (0 : Int32) else (4 : Int32))
    let d1101 : Int32 := (if d864 = (0 : Int32) then d1087 else (d1087 + (8 : Int32)))
    let d1111 : Int32 := (if d867 = (0 : Int32) then d1101 else (d1101 + (1 : Int32)))
    (1 : Int32)
  else
    let v1154 : Int32 := (F_writeRaw_a0_end v910 d1036 d1035)
    let d1178 : Int32 := (if d861 = (0 : Int32) then (0 : Int32) else (4 : Int32))
    let d1181 : Int32 := (if d864 = (0 : Int32) then (0 : Int32) else (8 : Int32))
    let d1184 : Int32 := (if d867 = (0 : Int32) then (0 : Int32) else (1 : Int32))
    let v1186 : Int32 := (((d1178 + d1181) + d1184) + (61 : Int32))
    let d1191 : Int32 := (if d861 = (0 : Int32) then (0 : Int32) else (4 : Int32))
    let d1205 : Int32 := (if d864 = (0 : Int32) then d1191 else (d1191 + (8 : Int32)))
    let d1215 : Int32 := (if d867 = (0 : Int32) then d1205 else (d1205 + (1 : Int32)))
    let v1217 : Int32 := ((F_copyOfRangeByte_new0_g v1154 128 (F_writeRaw_new0_g v910 d1036 d1035)) (Int32.toNatClampNeg d1215))
    let v1218 : Int32 := ((F_copyOfRangeByte_new0_g v1154 128 (F_writeRaw_new0_g v910 d1036 d1035)) (Int32.toNatClampNeg (d1215 + (1 : Int32))))
    let v1219 : Int32 := ((F_copyOfRangeByte_new0_g v1154 128 (F_writeRaw_new0_g v910 d1036 d1035)) (Int32.toNatClampNeg (d1215 + (30 : Int32))))
    let v1220 : Int32 := ((F_copyOfRangeByte_new0_g v1154 128 (F_writeRaw_new0_g v910 d1036 d1035)) (Int32.toNatClampNeg (d1215 + (59 : Int32))))
    let v1221 : Int32 := ((F_copyOfRangeByte_new0_g v1154 128 (F_writeRaw_new0_g v910 d1036 d1035)) (Int32.toNatClampNeg (d1215 + (60 : Int32))))
    (1 : Int32)
theorem own_ob_0 (p0 : Int32) (q1 : Int64) (p2 : Int32) (p3 : Int32) : ∀ (d861 : Int32), (if (p2 &&& (1 : Int32)) = (0 : Int32) then (0 : Int32) else (1 : Int32)) = d861 → ¬ (d861 = (0 : Int32)) → ((own_er (4 : Int32) (4 : Int32))) := by
  intro d861
  rintro rfl
  have b1 := own_bit (p2 &&& 1)
  revert b1
  generalize (if (p2 &&& (1 : Int32)) = (0 : Int32) then (0 : Int32) else (1 : Int32)) = f1
  simp only [own_er, own_eg, own_cr, own_i4, own_we, own_wl, own_wb, own_wr, forall_eq']
  rintro (rfl | rfl) <;> decide
theorem own_ob_1 (p0 : Int32) (q1 : Int64) (p2 : Int32) (p3 : Int32) : ∀ (d861 : Int32) (d864 : Int32) (d973 : Int32), (if (p2 &&& (1 : Int32)) = (0 : Int32) then (0 : Int32) else (1 : Int32)) = d861 → (if (p2 &&& (2 : Int32)) = (0 : Int32) then (0 : Int32) else (1 : Int32)) = d864 → (if d861 = (0 : Int32) then (4 : Int32) else (F_writeInt_a0_end p0 (fun _ => (0 : Int32)) (4 : Int32))) = d973 → ¬ (d864 = (0 : Int32)) → (((own_er d973 (4 : Int32)))) := by
  intro d861 d864 d973
  rintro rfl rfl rfl
  have b1 := own_bit (p2 &&& 1)
  have b2 := own_bit (p2 &&& 2)
  revert b1 b2
  generalize (if (p2 &&& (1 : Int32)) = (0 : Int32) then (0 : Int32) else (1 : Int32)) = f1
  generalize (if (p2 &&& (2 : Int32)) = (0 : Int32) then (0 : Int32) else (1 : Int32)) = f2
  simp only [own_er, own_eg, own_cr, own_i4, own_we, own_wl, own_wb, own_wr, forall_eq']
  rintro (rfl | rfl) (rfl | rfl) <;> decide
theorem own_ob_2 (p0 : Int32) (q1 : Int64) (p2 : Int32) (p3 : Int32) : ∀ (d861 : Int32) (d864 : Int32) (d973 : Int32) (d974 : Nat → Int32), (if (p2 &&& (1 : Int32)) = (0 : Int32) then (0 : Int32) else (1 : Int32)) = d861 → (if (p2 &&& (2 : Int32)) = (0 : Int32) then (0 : Int32) else (1 : Int32)) = d864 → (if d861 = (0 : Int32) then (4 : Int32) else (F_writeInt_a0_end p0 (fun _ => (0 : Int32)) (4 : Int32))) = d973 → (if d861 = (0 : Int32) then (fun _ => (0 : Int32)) else (F_writeInt_w_a0_bytes_g p0 (fun _ => (0 : Int32)) (4 : Int32))) = d974 → ¬ (d864 = (0 : Int32)) → (∀ (v667 : Int32), (F_writeInt_a0_end (Int64.toInt32 (ushrL q1 (32 : Int32))) d974 d973) = v667 → ((own_er v667 (4 : Int32)))) := by
  intro d861 d864 d973 d974
  rintro rfl rfl rfl rfl
  have b1 := own_bit (p2 &&& 1)
  have b2 := own_bit (p2 &&& 2)
  revert b1 b2
  generalize (if (p2 &&& (1 : Int32)) = (0 : Int32) then (0 : Int32) else (1 : Int32)) = f1
  generalize (if (p2 &&& (2 : Int32)) = (0 : Int32) then (0 : Int32) else (1 : Int32)) = f2
  simp only [own_er, own_eg, own_cr, own_i4, own_we, own_wl, own_wb, own_wr, forall_eq']
  rintro (rfl | rfl) (rfl | rfl) <;> decide
theorem own_ob_3 (p0 : Int32) (q1 : Int64) (p2 : Int32) (p3 : Int32) : ∀ (d861 : Int32) (d864 : Int32) (d867 : Int32) (d973 : Int32) (d974 : Nat → Int32) (d1004 : Int32), (if (p2 &&& (1 : Int32)) = (0 : Int32) then (0 : Int32) else (1 : Int32)) = d861 → (if (p2 &&& (2 : Int32)) = (0 : Int32) then (0 : Int32) else (1 : Int32)) = d864 → (if (p2 &&& (4 : Int32)) = (0 : Int32) then (0 : Int32) else (1 : Int32)) = d867 → (if d861 = (0 : Int32) then (4 : Int32) else (F_writeInt_a0_end p0 (fun _ => (0 : Int32)) (4 : Int32))) = d973 → (if d861 = (0 : Int32) then (fun _ => (0 : Int32)) else (F_writeInt_w_a0_bytes_g p0 (fun _ => (0 : Int32)) (4 : Int32))) = d974 → (if d864 = (0 : Int32) then d973 else (F_writeLong_a0_end q1 d974 d973)) = d1004 → ¬ (d867 = (0 : Int32)) → ((own_er d1004 (1 : Int32))) := by
  intro d861 d864 d867 d973 d974 d1004
  rintro rfl rfl rfl rfl rfl rfl
  have b1 := own_bit (p2 &&& 1)
  have b2 := own_bit (p2 &&& 2)
  have b4 := own_bit (p2 &&& 4)
  revert b1 b2 b4
  generalize (if (p2 &&& (1 : Int32)) = (0 : Int32) then (0 : Int32) else (1 : Int32)) = f1
  generalize (if (p2 &&& (2 : Int32)) = (0 : Int32) then (0 : Int32) else (1 : Int32)) = f2
  generalize (if (p2 &&& (4 : Int32)) = (0 : Int32) then (0 : Int32) else (1 : Int32)) = f4
  simp only [own_er, own_eg, own_cr, own_i4, own_we, own_wl, own_wb, own_wr, forall_eq']
  rintro (rfl | rfl) (rfl | rfl) (rfl | rfl) <;> decide
theorem own_ob_4 (p0 : Int32) (q1 : Int64) (p2 : Int32) (p3 : Int32) : ∀ (d861 : Int32) (d864 : Int32) (d867 : Int32) (d870 : Int32) (d873 : Int32) (d973 : Int32) (d974 : Nat → Int32) (d1004 : Int32) (d1005 : Nat → Int32) (d1035 : Int32), (if (p2 &&& (1 : Int32)) = (0 : Int32) then (0 : Int32) else (1 : Int32)) = d861 → (if (p2 &&& (2 : Int32)) = (0 : Int32) then (0 : Int32) else (1 : Int32)) = d864 → (if (p2 &&& (4 : Int32)) = (0 : Int32) then (0 : Int32) else (1 : Int32)) = d867 → (if (p2 &&& (8 : Int32)) = (0 : Int32) then (0 : Int32) else (1 : Int32)) = d870 → (if (p2 &&& (16 : Int32)) = (0 : Int32) then (0 : Int32) else (1 : Int32)) = d873 → (if d861 = (0 : Int32) then (4 : Int32) else (F_writeInt_a0_end p0 (fun _ => (0 : Int32)) (4 : Int32))) = d973 → (if d861 = (0 : Int32) then (fun _ => (0 : Int32)) else (F_writeInt_w_a0_bytes_g p0 (fun _ => (0 : Int32)) (4 : Int32))) = d974 → (if d864 = (0 : Int32) then d973 else (F_writeLong_a0_end q1 d974 d973)) = d1004 → (if d864 = (0 : Int32) then d974 else (F_writeLong_w_a0_bytes_g q1 d974 d973)) = d1005 → (if d867 = (0 : Int32) then d1004 else (F_writeBoolean_a0_end d870 d1005 d1004)) = d1035 → d873 = (0 : Int32) → (((own_cr d1035 64))) := by
  intro d861 d864 d867 d870 d873 d973 d974 d1004 d1005 d1035
  rintro rfl rfl rfl rfl rfl rfl rfl rfl rfl rfl
  have b1 := own_bit (p2 &&& 1)
  have b2 := own_bit (p2 &&& 2)
  have b4 := own_bit (p2 &&& 4)
  have b8 := own_bit (p2 &&& 8)
  have b16 := own_bit (p2 &&& 16)
  revert b1 b2 b4 b8 b16
  generalize (if (p2 &&& (1 : Int32)) = (0 : Int32) then (0 : Int32) else (1 : Int32)) = f1
  generalize (if (p2 &&& (2 : Int32)) = (0 : Int32) then (0 : Int32) else (1 : Int32)) = f2
  generalize (if (p2 &&& (4 : Int32)) = (0 : Int32) then (0 : Int32) else (1 : Int32)) = f4
  generalize (if (p2 &&& (8 : Int32)) = (0 : Int32) then (0 : Int32) else (1 : Int32)) = f8
  generalize (if (p2 &&& (16 : Int32)) = (0 : Int32) then (0 : Int32) else (1 : Int32)) = f16
  simp only [own_er, own_eg, own_cr, own_i4, own_we, own_wl, own_wb, own_wr, forall_eq']
  rintro (rfl | rfl) (rfl | rfl) (rfl | rfl) (rfl | rfl) (rfl | rfl) <;> decide
theorem own_ob_5 (p0 : Int32) (q1 : Int64) (p2 : Int32) (p3 : Int32) : ∀ (d861 : Int32) (d864 : Int32) (d867 : Int32) (d870 : Int32) (d873 : Int32) (d973 : Int32) (d974 : Nat → Int32) (d1004 : Int32) (d1005 : Nat → Int32) (d1035 : Int32) (d1074 : Int32) (d1077 : Int32) (d1080 : Int32) (v1082 : Int32), (if (p2 &&& (1 : Int32)) = (0 : Int32) then (0 : Int32) else (1 : Int32)) = d861 → (if (p2 &&& (2 : Int32)) = (0 : Int32) then (0 : Int32) else (1 : Int32)) = d864 → (if (p2 &&& (4 : Int32)) = (0 : Int32) then (0 : Int32) else (1 : Int32)) = d867 → (if (p2 &&& (8 : Int32)) = (0 : Int32) then (0 : Int32) else (1 : Int32)) = d870 → (if (p2 &&& (16 : Int32)) = (0 : Int32) then (0 : Int32) else (1 : Int32)) = d873 → (if d861 = (0 : Int32) then (4 : Int32) else (F_writeInt_a0_end p0 (fun _ => (0 : Int32)) (4 : Int32))) = d973 → (if d861 = (0 : Int32) then (fun _ => (0 : Int32)) else (F_writeInt_w_a0_bytes_g p0 (fun _ => (0 : Int32)) (4 : Int32))) = d974 → (if d864 = (0 : Int32) then d973 else (F_writeLong_a0_end q1 d974 d973)) = d1004 → (if d864 = (0 : Int32) then d974 else (F_writeLong_w_a0_bytes_g q1 d974 d973)) = d1005 → (if d867 = (0 : Int32) then d1004 else (F_writeBoolean_a0_end d870 d1005 d1004)) = d1035 → (if d861 = (0 : Int32) then (0 : Int32) else (4 : Int32)) = d1074 → (if d864 = (0 : Int32) then (0 : Int32) else (8 : Int32)) = d1077 → (if d867 = (0 : Int32) then (0 : Int32) else (1 : Int32)) = d1080 → (((d1074 + d1077) + d1080) + (0 : Int32)) = v1082 → d873 = (0 : Int32) → (Nat.toInt32 (Int32.toNatClampNeg (d1035 - (4 : Int32)))) = v1082 := by
  intro d861 d864 d867 d870 d873 d973 d974 d1004 d1005 d1035 d1074 d1077 d1080 v1082
  rintro rfl rfl rfl rfl rfl rfl rfl rfl rfl rfl rfl rfl rfl rfl
  have b1 := own_bit (p2 &&& 1)
  have b2 := own_bit (p2 &&& 2)
  have b4 := own_bit (p2 &&& 4)
  have b8 := own_bit (p2 &&& 8)
  have b16 := own_bit (p2 &&& 16)
  revert b1 b2 b4 b8 b16
  generalize (if (p2 &&& (1 : Int32)) = (0 : Int32) then (0 : Int32) else (1 : Int32)) = f1
  generalize (if (p2 &&& (2 : Int32)) = (0 : Int32) then (0 : Int32) else (1 : Int32)) = f2
  generalize (if (p2 &&& (4 : Int32)) = (0 : Int32) then (0 : Int32) else (1 : Int32)) = f4
  generalize (if (p2 &&& (8 : Int32)) = (0 : Int32) then (0 : Int32) else (1 : Int32)) = f8
  generalize (if (p2 &&& (16 : Int32)) = (0 : Int32) then (0 : Int32) else (1 : Int32)) = f16
  simp only [own_er, own_eg, own_cr, own_i4, own_we, own_wl, own_wb, own_wr, forall_eq']
  rintro (rfl | rfl) (rfl | rfl) (rfl | rfl) (rfl | rfl) (rfl | rfl) <;> decide
theorem own_ob_6 (p0 : Int32) (q1 : Int64) (p2 : Int32) (p3 : Int32) : ∀ (d861 : Int32) (d864 : Int32) (d867 : Int32) (d870 : Int32) (d873 : Int32) (d973 : Int32) (d974 : Nat → Int32) (d1004 : Int32) (d1005 : Nat → Int32) (d1035 : Int32), (if (p2 &&& (1 : Int32)) = (0 : Int32) then (0 : Int32) else (1 : Int32)) = d861 → (if (p2 &&& (2 : Int32)) = (0 : Int32) then (0 : Int32) else (1 : Int32)) = d864 → (if (p2 &&& (4 : Int32)) = (0 : Int32) then (0 : Int32) else (1 : Int32)) = d867 → (if (p2 &&& (8 : Int32)) = (0 : Int32) then (0 : Int32) else (1 : Int32)) = d870 → (if (p2 &&& (16 : Int32)) = (0 : Int32) then (0 : Int32) else (1 : Int32)) = d873 → (if d861 = (0 : Int32) then (4 : Int32) else (F_writeInt_a0_end p0 (fun _ => (0 : Int32)) (4 : Int32))) = d973 → (if d861 = (0 : Int32) then (fun _ => (0 : Int32)) else (F_writeInt_w_a0_bytes_g p0 (fun _ => (0 : Int32)) (4 : Int32))) = d974 → (if d864 = (0 : Int32) then d973 else (F_writeLong_a0_end q1 d974 d973)) = d1004 → (if d864 = (0 : Int32) then d974 else (F_writeLong_w_a0_bytes_g q1 d974 d973)) = d1005 → (if d867 = (0 : Int32) then d1004 else (F_writeBoolean_a0_end d870 d1005 d1004)) = d1035 → d873 = (0 : Int32) → ¬ (d861 = (0 : Int32)) → (own_i4 (0 : Int32) (Int32.toNatClampNeg (d1035 - (4 : Int32)))) := by
  intro d861 d864 d867 d870 d873 d973 d974 d1004 d1005 d1035
  rintro rfl rfl rfl rfl rfl rfl rfl rfl rfl rfl
  have b1 := own_bit (p2 &&& 1)
  have b2 := own_bit (p2 &&& 2)
  have b4 := own_bit (p2 &&& 4)
  have b8 := own_bit (p2 &&& 8)
  have b16 := own_bit (p2 &&& 16)
  revert b1 b2 b4 b8 b16
  generalize (if (p2 &&& (1 : Int32)) = (0 : Int32) then (0 : Int32) else (1 : Int32)) = f1
  generalize (if (p2 &&& (2 : Int32)) = (0 : Int32) then (0 : Int32) else (1 : Int32)) = f2
  generalize (if (p2 &&& (4 : Int32)) = (0 : Int32) then (0 : Int32) else (1 : Int32)) = f4
  generalize (if (p2 &&& (8 : Int32)) = (0 : Int32) then (0 : Int32) else (1 : Int32)) = f8
  generalize (if (p2 &&& (16 : Int32)) = (0 : Int32) then (0 : Int32) else (1 : Int32)) = f16
  simp only [own_er, own_eg, own_cr, own_i4, own_we, own_wl, own_wb, own_wr, forall_eq']
  rintro (rfl | rfl) (rfl | rfl) (rfl | rfl) (rfl | rfl) (rfl | rfl) <;> decide
theorem own_ob_7 (p0 : Int32) (q1 : Int64) (p2 : Int32) (p3 : Int32) : ∀ (d861 : Int32) (d864 : Int32) (d867 : Int32) (d870 : Int32) (d873 : Int32) (d973 : Int32) (d974 : Nat → Int32) (d1004 : Int32) (d1005 : Nat → Int32) (d1035 : Int32) (d1036 : Nat → Int32), (if (p2 &&& (1 : Int32)) = (0 : Int32) then (0 : Int32) else (1 : Int32)) = d861 → (if (p2 &&& (2 : Int32)) = (0 : Int32) then (0 : Int32) else (1 : Int32)) = d864 → (if (p2 &&& (4 : Int32)) = (0 : Int32) then (0 : Int32) else (1 : Int32)) = d867 → (if (p2 &&& (8 : Int32)) = (0 : Int32) then (0 : Int32) else (1 : Int32)) = d870 → (if (p2 &&& (16 : Int32)) = (0 : Int32) then (0 : Int32) else (1 : Int32)) = d873 → (if d861 = (0 : Int32) then (4 : Int32) else (F_writeInt_a0_end p0 (fun _ => (0 : Int32)) (4 : Int32))) = d973 → (if d861 = (0 : Int32) then (fun _ => (0 : Int32)) else (F_writeInt_w_a0_bytes_g p0 (fun _ => (0 : Int32)) (4 : Int32))) = d974 → (if d864 = (0 : Int32) then d973 else (F_writeLong_a0_end q1 d974 d973)) = d1004 → (if d864 = (0 : Int32) then d974 else (F_writeLong_w_a0_bytes_g q1 d974 d973)) = d1005 → (if d867 = (0 : Int32) then d1004 else (F_writeBoolean_a0_end d870 d1005 d1004)) = d1035 → (if d867 = (0 : Int32) then d1005 else (F_writeBoolean_w_a0_bytes_g d870 d1005 d1004)) = d1036 → d873 = (0 : Int32) → ¬ (d861 = (0 : Int32)) → ¬ ((F_isInt (0 : Int32) p0 (Int32.toNatClampNeg (d1035 - (4 : Int32))) (F_copyOfRangeByte_new0_g d1035 64 d1036)) = (0 : Int32)) := by
  intro d861 d864 d867 d870 d873 d973 d974 d1004 d1005 d1035 d1036
  rintro rfl rfl rfl rfl rfl rfl rfl rfl rfl rfl rfl
  have b1 := own_bit (p2 &&& 1)
  have b2 := own_bit (p2 &&& 2)
  have b4 := own_bit (p2 &&& 4)
  have b8 := own_bit (p2 &&& 8)
  have b16 := own_bit (p2 &&& 16)
  revert b1 b2 b4 b8 b16
  generalize (if (p2 &&& (1 : Int32)) = (0 : Int32) then (0 : Int32) else (1 : Int32)) = f1
  generalize (if (p2 &&& (2 : Int32)) = (0 : Int32) then (0 : Int32) else (1 : Int32)) = f2
  generalize (if (p2 &&& (4 : Int32)) = (0 : Int32) then (0 : Int32) else (1 : Int32)) = f4
  generalize (if (p2 &&& (8 : Int32)) = (0 : Int32) then (0 : Int32) else (1 : Int32)) = f8
  generalize (if (p2 &&& (16 : Int32)) = (0 : Int32) then (0 : Int32) else (1 : Int32)) = f16
  rintro (rfl | rfl) (rfl | rfl) (rfl | rfl) - (rfl | rfl) <;> intros <;> first | contradiction | simp +decide only [own_10, own_nb, own_u0, if_true, if_false, own_we, own_wl, own_wb, own_wr, F_isInt, M10_853, F_copyOfRangeByte_new0_g, F_writeInt_w_a0_bytes_g, F_writeLong_w_a0_bytes_g, F_writeBoolean_w_a0_bytes_g, F_writeRaw_new0_g, F_ensureg_new0_g, F_copyOf_new0_g, blit, upd]
theorem own_ob_8 (p0 : Int32) (q1 : Int64) (p2 : Int32) (p3 : Int32) : ∀ (d861 : Int32) (d864 : Int32) (d867 : Int32) (d870 : Int32) (d873 : Int32) (d973 : Int32) (d974 : Nat → Int32) (d1004 : Int32) (d1005 : Nat → Int32) (d1035 : Int32) (d1087 : Int32), (if (p2 &&& (1 : Int32)) = (0 : Int32) then (0 : Int32) else (1 : Int32)) = d861 → (if (p2 &&& (2 : Int32)) = (0 : Int32) then (0 : Int32) else (1 : Int32)) = d864 → (if (p2 &&& (4 : Int32)) = (0 : Int32) then (0 : Int32) else (1 : Int32)) = d867 → (if (p2 &&& (8 : Int32)) = (0 : Int32) then (0 : Int32) else (1 : Int32)) = d870 → (if (p2 &&& (16 : Int32)) = (0 : Int32) then (0 : Int32) else (1 : Int32)) = d873 → (if d861 = (0 : Int32) then (4 : Int32) else (F_writeInt_a0_end p0 (fun _ => (0 : Int32)) (4 : Int32))) = d973 → (if d861 = (0 : Int32) then (fun _ => (0 : Int32)) else (F_writeInt_w_a0_bytes_g p0 (fun _ => (0 : Int32)) (4 : Int32))) = d974 → (if d864 = (0 : Int32) then d973 else (F_writeLong_a0_end q1 d974 d973)) = d1004 → (if d864 = (0 : Int32) then d974 else (F_writeLong_w_a0_bytes_g q1 d974 d973)) = d1005 → (if d867 = (0 : Int32) then d1004 else (F_writeBoolean_a0_end d870 d1005 d1004)) = d1035 → (if d861 = (0 : Int32) then (0 : Int32) else (4 : Int32)) = d1087 → d873 = (0 : Int32) → ¬ (d864 = (0 : Int32)) → (own_i4 d1087 (Int32.toNatClampNeg (d1035 - (4 : Int32)))) := by
  intro d861 d864 d867 d870 d873 d973 d974 d1004 d1005 d1035 d1087
  rintro rfl rfl rfl rfl rfl rfl rfl rfl rfl rfl rfl
  have b1 := own_bit (p2 &&& 1)
  have b2 := own_bit (p2 &&& 2)
  have b4 := own_bit (p2 &&& 4)
  have b8 := own_bit (p2 &&& 8)
  have b16 := own_bit (p2 &&& 16)
  revert b1 b2 b4 b8 b16
  generalize (if (p2 &&& (1 : Int32)) = (0 : Int32) then (0 : Int32) else (1 : Int32)) = f1
  generalize (if (p2 &&& (2 : Int32)) = (0 : Int32) then (0 : Int32) else (1 : Int32)) = f2
  generalize (if (p2 &&& (4 : Int32)) = (0 : Int32) then (0 : Int32) else (1 : Int32)) = f4
  generalize (if (p2 &&& (8 : Int32)) = (0 : Int32) then (0 : Int32) else (1 : Int32)) = f8
  generalize (if (p2 &&& (16 : Int32)) = (0 : Int32) then (0 : Int32) else (1 : Int32)) = f16
  simp only [own_er, own_eg, own_cr, own_i4, own_we, own_wl, own_wb, own_wr, forall_eq']
  rintro (rfl | rfl) (rfl | rfl) (rfl | rfl) (rfl | rfl) (rfl | rfl) <;> decide
theorem own_ob_9 (p0 : Int32) (q1 : Int64) (p2 : Int32) (p3 : Int32) : ∀ (d861 : Int32) (d864 : Int32) (d867 : Int32) (d870 : Int32) (d873 : Int32) (d973 : Int32) (d974 : Nat → Int32) (d1004 : Int32) (d1005 : Nat → Int32) (d1035 : Int32) (d1036 : Nat → Int32) (d1087 : Int32), (if (p2 &&& (1 : Int32)) = (0 : Int32) then (0 : Int32) else (1 : Int32)) = d861 → (if (p2 &&& (2 : Int32)) = (0 : Int32) then (0 : Int32) else (1 : Int32)) = d864 → (if (p2 &&& (4 : Int32)) = (0 : Int32) then (0 : Int32) else (1 : Int32)) = d867 → (if (p2 &&& (8 : Int32)) = (0 : Int32) then (0 : Int32) else (1 : Int32)) = d870 → (if (p2 &&& (16 : Int32)) = (0 : Int32) then (0 : Int32) else (1 : Int32)) = d873 → (if d861 = (0 : Int32) then (4 : Int32) else (F_writeInt_a0_end p0 (fun _ => (0 : Int32)) (4 : Int32))) = d973 → (if d861 = (0 : Int32) then (fun _ => (0 : Int32)) else (F_writeInt_w_a0_bytes_g p0 (fun _ => (0 : Int32)) (4 : Int32))) = d974 → (if d864 = (0 : Int32) then d973 else (F_writeLong_a0_end q1 d974 d973)) = d1004 → (if d864 = (0 : Int32) then d974 else (F_writeLong_w_a0_bytes_g q1 d974 d973)) = d1005 → (if d867 = (0 : Int32) then d1004 else (F_writeBoolean_a0_end d870 d1005 d1004)) = d1035 → (if d867 = (0 : Int32) then d1005 else (F_writeBoolean_w_a0_bytes_g d870 d1005 d1004)) = d1036 → (if d861 = (0 : Int32) then (0 : Int32) else (4 : Int32)) = d1087 → d873 = (0 : Int32) → ¬ (d864 = (0 : Int32)) → ¬ ((F_isInt d1087 (Int64.toInt32 (ushrL q1 (32 : Int32))) (Int32.toNatClampNeg (d1035 - (4 : Int32))) (F_copyOfRangeByte_new0_g d1035 64 d1036)) = (0 : Int32)) := by
  intro d861 d864 d867 d870 d873 d973 d974 d1004 d1005 d1035 d1036 d1087
  rintro rfl rfl rfl rfl rfl rfl rfl rfl rfl rfl rfl rfl
  have b1 := own_bit (p2 &&& 1)
  have b2 := own_bit (p2 &&& 2)
  have b4 := own_bit (p2 &&& 4)
  have b8 := own_bit (p2 &&& 8)
  have b16 := own_bit (p2 &&& 16)
  revert b1 b2 b4 b8 b16
  generalize (if (p2 &&& (1 : Int32)) = (0 : Int32) then (0 : Int32) else (1 : Int32)) = f1
  generalize (if (p2 &&& (2 : Int32)) = (0 : Int32) then (0 : Int32) else (1 : Int32)) = f2
  generalize (if (p2 &&& (4 : Int32)) = (0 : Int32) then (0 : Int32) else (1 : Int32)) = f4
  generalize (if (p2 &&& (8 : Int32)) = (0 : Int32) then (0 : Int32) else (1 : Int32)) = f8
  generalize (if (p2 &&& (16 : Int32)) = (0 : Int32) then (0 : Int32) else (1 : Int32)) = f16
  rintro (rfl | rfl) (rfl | rfl) (rfl | rfl) - (rfl | rfl) <;> intros <;> first | contradiction | simp +decide only [own_10, own_nb, own_u0, if_true, if_false, own_we, own_wl, own_wb, own_wr, F_isInt, M10_853, F_copyOfRangeByte_new0_g, F_writeInt_w_a0_bytes_g, F_writeLong_w_a0_bytes_g, F_writeBoolean_w_a0_bytes_g, F_writeRaw_new0_g, F_ensureg_new0_g, F_copyOf_new0_g, blit, upd]
theorem own_ob_10 (p0 : Int32) (q1 : Int64) (p2 : Int32) (p3 : Int32) : ∀ (d861 : Int32) (d864 : Int32) (d867 : Int32) (d870 : Int32) (d873 : Int32) (d973 : Int32) (d974 : Nat → Int32) (d1004 : Int32) (d1005 : Nat → Int32) (d1035 : Int32) (d1087 : Int32), (if (p2 &&& (1 : Int32)) = (0 : Int32) then (0 : Int32) else (1 : Int32)) = d861 → (if (p2 &&& (2 : Int32)) = (0 : Int32) then (0 : Int32) else (1 : Int32)) = d864 → (if (p2 &&& (4 : Int32)) = (0 : Int32) then (0 : Int32) else (1 : Int32)) = d867 → (if (p2 &&& (8 : Int32)) = (0 : Int32) then (0 : Int32) else (1 : Int32)) = d870 → (if (p2 &&& (16 : Int32)) = (0 : Int32) then (0 : Int32) else (1 : Int32)) = d873 → (if d861 = (0 : Int32) then (4 : Int32) else (F_writeInt_a0_end p0 (fun _ => (0 : Int32)) (4 : Int32))) = d973 → (if d861 = (0 : Int32) then (fun _ => (0 : Int32)) else (F_writeInt_w_a0_bytes_g p0 (fun _ => (0 : Int32)) (4 : Int32))) = d974 → (if d864 = (0 : Int32) then d973 else (F_writeLong_a0_end q1 d974 d973)) = d1004 → (if d864 = (0 : Int32) then d974 else (F_writeLong_w_a0_bytes_g q1 d974 d973)) = d1005 → (if d867 = (0 : Int32) then d1004 else (F_writeBoolean_a0_end d870 d1005 d1004)) = d1035 → (if d861 = (0 : Int32) then (0 : Int32) else (4 : Int32)) = d1087 → d873 = (0 : Int32) → ¬ (d864 = (0 : Int32)) → (own_i4 (d1087 + (4 : Int32)) (Int32.toNatClampNeg (d1035 - (4 : Int32)))) := by
  intro d861 d864 d867 d870 d873 d973 d974 d1004 d1005 d1035 d1087
  rintro rfl rfl rfl rfl rfl rfl rfl rfl rfl rfl rfl
  have b1 := own_bit (p2 &&& 1)
  have b2 := own_bit (p2 &&& 2)
  have b4 := own_bit (p2 &&& 4)
  have b8 := own_bit (p2 &&& 8)
  have b16 := own_bit (p2 &&& 16)
  revert b1 b2 b4 b8 b16
  generalize (if (p2 &&& (1 : Int32)) = (0 : Int32) then (0 : Int32) else (1 : Int32)) = f1
  generalize (if (p2 &&& (2 : Int32)) = (0 : Int32) then (0 : Int32) else (1 : Int32)) = f2
  generalize (if (p2 &&& (4 : Int32)) = (0 : Int32) then (0 : Int32) else (1 : Int32)) = f4
  generalize (if (p2 &&& (8 : Int32)) = (0 : Int32) then (0 : Int32) else (1 : Int32)) = f8
  generalize (if (p2 &&& (16 : Int32)) = (0 : Int32) then (0 : Int32) else (1 : Int32)) = f16
  simp only [own_er, own_eg, own_cr, own_i4, own_we, own_wl, own_wb, own_wr, forall_eq']
  rintro (rfl | rfl) (rfl | rfl) (rfl | rfl) (rfl | rfl) (rfl | rfl) <;> decide
theorem own_ob_11 (p0 : Int32) (q1 : Int64) (p2 : Int32) (p3 : Int32) : ∀ (d861 : Int32) (d864 : Int32) (d867 : Int32) (d870 : Int32) (d873 : Int32) (d973 : Int32) (d974 : Nat → Int32) (d1004 : Int32) (d1005 : Nat → Int32) (d1035 : Int32) (d1036 : Nat → Int32) (d1087 : Int32), (if (p2 &&& (1 : Int32)) = (0 : Int32) then (0 : Int32) else (1 : Int32)) = d861 → (if (p2 &&& (2 : Int32)) = (0 : Int32) then (0 : Int32) else (1 : Int32)) = d864 → (if (p2 &&& (4 : Int32)) = (0 : Int32) then (0 : Int32) else (1 : Int32)) = d867 → (if (p2 &&& (8 : Int32)) = (0 : Int32) then (0 : Int32) else (1 : Int32)) = d870 → (if (p2 &&& (16 : Int32)) = (0 : Int32) then (0 : Int32) else (1 : Int32)) = d873 → (if d861 = (0 : Int32) then (4 : Int32) else (F_writeInt_a0_end p0 (fun _ => (0 : Int32)) (4 : Int32))) = d973 → (if d861 = (0 : Int32) then (fun _ => (0 : Int32)) else (F_writeInt_w_a0_bytes_g p0 (fun _ => (0 : Int32)) (4 : Int32))) = d974 → (if d864 = (0 : Int32) then d973 else (F_writeLong_a0_end q1 d974 d973)) = d1004 → (if d864 = (0 : Int32) then d974 else (F_writeLong_w_a0_bytes_g q1 d974 d973)) = d1005 → (if d867 = (0 : Int32) then d1004 else (F_writeBoolean_a0_end d870 d1005 d1004)) = d1035 → (if d867 = (0 : Int32) then d1005 else (F_writeBoolean_w_a0_bytes_g d870 d1005 d1004)) = d1036 → (if d861 = (0 : Int32) then (0 : Int32) else (4 : Int32)) = d1087 → d873 = (0 : Int32) → ¬ (d864 = (0 : Int32)) → ¬ ((F_isInt (d1087 + (4 : Int32)) (Int64.toInt32 q1) (Int32.toNatClampNeg (d1035 - (4 : Int32))) (F_copyOfRangeByte_new0_g d1035 64 d1036)) = (0 : Int32)) := by
  intro d861 d864 d867 d870 d873 d973 d974 d1004 d1005 d1035 d1036 d1087
  rintro rfl rfl rfl rfl rfl rfl rfl rfl rfl rfl rfl rfl
  have b1 := own_bit (p2 &&& 1)
  have b2 := own_bit (p2 &&& 2)
  have b4 := own_bit (p2 &&& 4)
  have b8 := own_bit (p2 &&& 8)
  have b16 := own_bit (p2 &&& 16)
  revert b1 b2 b4 b8 b16
  generalize (if (p2 &&& (1 : Int32)) = (0 : Int32) then (0 : Int32) else (1 : Int32)) = f1
  generalize (if (p2 &&& (2 : Int32)) = (0 : Int32) then (0 : Int32) else (1 : Int32)) = f2
  generalize (if (p2 &&& (4 : Int32)) = (0 : Int32) then (0 : Int32) else (1 : Int32)) = f4
  generalize (if (p2 &&& (8 : Int32)) = (0 : Int32) then (0 : Int32) else (1 : Int32)) = f8
  generalize (if (p2 &&& (16 : Int32)) = (0 : Int32) then (0 : Int32) else (1 : Int32)) = f16
  rintro (rfl | rfl) (rfl | rfl) (rfl | rfl) - (rfl | rfl) <;> intros <;> first | contradiction | simp +decide only [own_10, own_nb, own_u0, if_true, if_false, own_we, own_wl, own_wb, own_wr, F_isInt, M10_853, F_copyOfRangeByte_new0_g, F_writeInt_w_a0_bytes_g, F_writeLong_w_a0_bytes_g, F_writeBoolean_w_a0_bytes_g, F_writeRaw_new0_g, F_ensureg_new0_g, F_copyOf_new0_g, blit, upd]
theorem own_ob_12 (p0 : Int32) (q1 : Int64) (p2 : Int32) (p3 : Int32) : ∀ (d861 : Int32) (d864 : Int32) (d867 : Int32) (d870 : Int32) (d873 : Int32) (d973 : Int32) (d974 : Nat → Int32) (d1004 : Int32) (d1005 : Nat → Int32) (d1035 : Int32) (d1087 : Int32) (d1101 : Int32), (if (p2 &&& (1 : Int32)) = (0 : Int32) then (0 : Int32) else (1 : Int32)) = d861 → (if (p2 &&& (2 : Int32)) = (0 : Int32) then (0 : Int32) else (1 : Int32)) = d864 → (if (p2 &&& (4 : Int32)) = (0 : Int32) then (0 : Int32) else (1 : Int32)) = d867 → (if (p2 &&& (8 : Int32)) = (0 : Int32) then (0 : Int32) else (1 : Int32)) = d870 → (if (p2 &&& (16 : Int32)) = (0 : Int32) then (0 : Int32) else (1 : Int32)) = d873 → (if d861 = (0 : Int32) then (4 : Int32) else (F_writeInt_a0_end p0 (fun _ => (0 : Int32)) (4 : Int32))) = d973 → (if d861 = (0 : Int32) then (fun _ => (0 : Int32)) else (F_writeInt_w_a0_bytes_g p0 (fun _ => (0 : Int32)) (4 : Int32))) = d974 → (if d864 = (0 : Int32) then d973 else (F_writeLong_a0_end q1 d974 d973)) = d1004 → (if d864 = (0 : Int32) then d974 else (F_writeLong_w_a0_bytes_g q1 d974 d973)) = d1005 → (if d867 = (0 : Int32) then d1004 else (F_writeBoolean_a0_end d870 d1005 d1004)) = d1035 → (if d861 = (0 : Int32) then (0 : Int32) else (4 : Int32)) = d1087 → (if d864 = (0 : Int32) then d1087 else (d1087 + (8 : Int32))) = d1101 → d873 = (0 : Int32) → ¬ (d867 = (0 : Int32)) → ¬ d1101 < (0 : Int32) ∧ Int32.toNatClampNeg d1101 < (Int32.toNatClampNeg (d1035 - (4 : Int32))) := by
  intro d861 d864 d867 d870 d873 d973 d974 d1004 d1005 d1035 d1087 d1101
  rintro rfl rfl rfl rfl rfl rfl rfl rfl rfl rfl rfl rfl
  have b1 := own_bit (p2 &&& 1)
  have b2 := own_bit (p2 &&& 2)
  have b4 := own_bit (p2 &&& 4)
  have b8 := own_bit (p2 &&& 8)
  have b16 := own_bit (p2 &&& 16)
  revert b1 b2 b4 b8 b16
  generalize (if (p2 &&& (1 : Int32)) = (0 : Int32) then (0 : Int32) else (1 : Int32)) = f1
  generalize (if (p2 &&& (2 : Int32)) = (0 : Int32) then (0 : Int32) else (1 : Int32)) = f2
  generalize (if (p2 &&& (4 : Int32)) = (0 : Int32) then (0 : Int32) else (1 : Int32)) = f4
  generalize (if (p2 &&& (8 : Int32)) = (0 : Int32) then (0 : Int32) else (1 : Int32)) = f8
  generalize (if (p2 &&& (16 : Int32)) = (0 : Int32) then (0 : Int32) else (1 : Int32)) = f16
  simp only [own_er, own_eg, own_cr, own_i4, own_we, own_wl, own_wb, own_wr, forall_eq']
  rintro (rfl | rfl) (rfl | rfl) (rfl | rfl) (rfl | rfl) (rfl | rfl) <;> decide
theorem own_ob_13 (p0 : Int32) (q1 : Int64) (p2 : Int32) (p3 : Int32) : ∀ (d861 : Int32) (d864 : Int32) (d867 : Int32) (d870 : Int32) (d873 : Int32) (d973 : Int32) (d974 : Nat → Int32) (d1004 : Int32) (d1005 : Nat → Int32) (d1035 : Int32) (d1036 : Nat → Int32) (d1087 : Int32) (d1101 : Int32), (if (p2 &&& (1 : Int32)) = (0 : Int32) then (0 : Int32) else (1 : Int32)) = d861 → (if (p2 &&& (2 : Int32)) = (0 : Int32) then (0 : Int32) else (1 : Int32)) = d864 → (if (p2 &&& (4 : Int32)) = (0 : Int32) then (0 : Int32) else (1 : Int32)) = d867 → (if (p2 &&& (8 : Int32)) = (0 : Int32) then (0 : Int32) else (1 : Int32)) = d870 → (if (p2 &&& (16 : Int32)) = (0 : Int32) then (0 : Int32) else (1 : Int32)) = d873 → (if d861 = (0 : Int32) then (4 : Int32) else (F_writeInt_a0_end p0 (fun _ => (0 : Int32)) (4 : Int32))) = d973 → (if d861 = (0 : Int32) then (fun _ => (0 : Int32)) else (F_writeInt_w_a0_bytes_g p0 (fun _ => (0 : Int32)) (4 : Int32))) = d974 → (if d864 = (0 : Int32) then d973 else (F_writeLong_a0_end q1 d974 d973)) = d1004 → (if d864 = (0 : Int32) then d974 else (F_writeLong_w_a0_bytes_g q1 d974 d973)) = d1005 → (if d867 = (0 : Int32) then d1004 else (F_writeBoolean_a0_end d870 d1005 d1004)) = d1035 → (if d867 = (0 : Int32) then d1005 else (F_writeBoolean_w_a0_bytes_g d870 d1005 d1004)) = d1036 → (if d861 = (0 : Int32) then (0 : Int32) else (4 : Int32)) = d1087 → (if d864 = (0 : Int32) then d1087 else (d1087 + (8 : Int32))) = d1101 → d873 = (0 : Int32) → ¬ (d867 = (0 : Int32)) → ((F_copyOfRangeByte_new0_g d1035 64 d1036) (Int32.toNatClampNeg d1101)) = (i2b (if d870 = (0 : Int32) then (0 : Int32) else (1 : Int32))) := by
  intro d861 d864 d867 d870 d873 d973 d974 d1004 d1005 d1035 d1036 d1087 d1101
  rintro rfl rfl rfl rfl rfl rfl rfl rfl rfl rfl rfl rfl rfl
  have b1 := own_bit (p2 &&& 1)
  have b2 := own_bit (p2 &&& 2)
  have b4 := own_bit (p2 &&& 4)
  have b8 := own_bit (p2 &&& 8)
  have b16 := own_bit (p2 &&& 16)
  revert b1 b2 b4 b8 b16
  generalize (if (p2 &&& (1 : Int32)) = (0 : Int32) then (0 : Int32) else (1 : Int32)) = f1
  generalize (if (p2 &&& (2 : Int32)) = (0 : Int32) then (0 : Int32) else (1 : Int32)) = f2
  generalize (if (p2 &&& (4 : Int32)) = (0 : Int32) then (0 : Int32) else (1 : Int32)) = f4
  generalize (if (p2 &&& (8 : Int32)) = (0 : Int32) then (0 : Int32) else (1 : Int32)) = f8
  generalize (if (p2 &&& (16 : Int32)) = (0 : Int32) then (0 : Int32) else (1 : Int32)) = f16
  rintro (rfl | rfl) (rfl | rfl) (rfl | rfl) - (rfl | rfl) <;> intros <;> first | contradiction | simp +decide only [own_10, own_nb, own_u0, if_true, if_false, own_we, own_wl, own_wb, own_wr, F_isInt, M10_853, F_copyOfRangeByte_new0_g, F_writeInt_w_a0_bytes_g, F_writeLong_w_a0_bytes_g, F_writeBoolean_w_a0_bytes_g, F_writeRaw_new0_g, F_ensureg_new0_g, F_copyOf_new0_g, blit, upd]
theorem own_ob_14 (p0 : Int32) (q1 : Int64) (p2 : Int32) (p3 : Int32) : ∀ (d861 : Int32) (d864 : Int32) (d867 : Int32) (d870 : Int32) (d873 : Int32) (d973 : Int32) (d974 : Nat → Int32) (d1004 : Int32) (d1005 : Nat → Int32) (d1035 : Int32) (d1036 : Nat → Int32) (d1087 : Int32) (d1101 : Int32) (d1115 : Int32), (if (p2 &&& (1 : Int32)) = (0 : Int32) then (0 : Int32) else (1 : Int32)) = d861 → (if (p2 &&& (2 : Int32)) = (0 : Int32) then (0 : Int32) else (1 : Int32)) = d864 → (if (p2 &&& (4 : Int32)) = (0 : Int32) then (0 : Int32) else (1 : Int32)) = d867 → (if (p2 &&& (8 : Int32)) = (0 : Int32) then (0 : Int32) else (1 : Int32)) = d870 → (if (p2 &&& (16 : Int32)) = (0 : Int32) then (0 : Int32) else (1 : Int32)) = d873 → (if d861 = (0 : Int32) then (4 : Int32) else (F_writeInt_a0_end p0 (fun _ => (0 : Int32)) (4 : Int32))) = d973 → (if d861 = (0 : Int32) then (fun _ => (0 : Int32)) else (F_writeInt_w_a0_bytes_g p0 (fun _ => (0 : Int32)) (4 : Int32))) = d974 → (if d864 = (0 : Int32) then d973 else (F_writeLong_a0_end q1 d974 d973)) = d1004 → (if d864 = (0 : Int32) then d974 else (F_writeLong_w_a0_bytes_g q1 d974 d973)) = d1005 → (if d867 = (0 : Int32) then d1004 else (F_writeBoolean_a0_end d870 d1005 d1004)) = d1035 → (if d867 = (0 : Int32) then d1005 else (F_writeBoolean_w_a0_bytes_g d870 d1005 d1004)) = d1036 → (if d861 = (0 : Int32) then (0 : Int32) else (4 : Int32)) = d1087 → (if d864 = (0 : Int32) then d1087 else (d1087 + (8 : Int32))) = d1101 → (if d870 = (0 : Int32) then (0 : Int32) else (1 : Int32)) = d1115 → d873 = (0 : Int32) → ¬ (d867 = (0 : Int32)) → ((F_copyOfRangeByte_new0_g d1035 64 d1036) (Int32.toNatClampNeg d1101)) = (i2b d1115) := by
  intro d861 d864 d867 d870 d873 d973 d974 d1004 d1005 d1035 d1036 d1087 d1101 d1115
  rintro rfl rfl rfl rfl rfl rfl rfl rfl rfl rfl rfl rfl rfl rfl
  have b1 := own_bit (p2 &&& 1)
  have b2 := own_bit (p2 &&& 2)
  have b4 := own_bit (p2 &&& 4)
  have b8 := own_bit (p2 &&& 8)
  have b16 := own_bit (p2 &&& 16)
  revert b1 b2 b4 b8 b16
  generalize (if (p2 &&& (1 : Int32)) = (0 : Int32) then (0 : Int32) else (1 : Int32)) = f1
  generalize (if (p2 &&& (2 : Int32)) = (0 : Int32) then (0 : Int32) else (1 : Int32)) = f2
  generalize (if (p2 &&& (4 : Int32)) = (0 : Int32) then (0 : Int32) else (1 : Int32)) = f4
  generalize (if (p2 &&& (8 : Int32)) = (0 : Int32) then (0 : Int32) else (1 : Int32)) = f8
  generalize (if (p2 &&& (16 : Int32)) = (0 : Int32) then (0 : Int32) else (1 : Int32)) = f16
  rintro (rfl | rfl) (rfl | rfl) (rfl | rfl) - (rfl | rfl) <;> intros <;> first | contradiction | simp +decide only [own_10, own_nb, own_u0, if_true, if_false, own_we, own_wl, own_wb, own_wr, F_isInt, M10_853, F_copyOfRangeByte_new0_g, F_writeInt_w_a0_bytes_g, F_writeLong_w_a0_bytes_g, F_writeBoolean_w_a0_bytes_g, F_writeRaw_new0_g, F_ensureg_new0_g, F_copyOf_new0_g, blit, upd]
theorem own_ob_15 (p0 : Int32) (q1 : Int64) (p2 : Int32) (p3 : Int32) : ∀ (d861 : Int32) (d864 : Int32) (d867 : Int32) (d870 : Int32) (d873 : Int32) (d973 : Int32) (d974 : Nat → Int32) (d1004 : Int32) (d1005 : Nat → Int32) (d1035 : Int32), (if (p2 &&& (1 : Int32)) = (0 : Int32) then (0 : Int32) else (1 : Int32)) = d861 → (if (p2 &&& (2 : Int32)) = (0 : Int32) then (0 : Int32) else (1 : Int32)) = d864 → (if (p2 &&& (4 : Int32)) = (0 : Int32) then (0 : Int32) else (1 : Int32)) = d867 → (if (p2 &&& (8 : Int32)) = (0 : Int32) then (0 : Int32) else (1 : Int32)) = d870 → (if (p2 &&& (16 : Int32)) = (0 : Int32) then (0 : Int32) else (1 : Int32)) = d873 → (if d861 = (0 : Int32) then (4 : Int32) else (F_writeInt_a0_end p0 (fun _ => (0 : Int32)) (4 : Int32))) = d973 → (if d861 = (0 : Int32) then (fun _ => (0 : Int32)) else (F_writeInt_w_a0_bytes_g p0 (fun _ => (0 : Int32)) (4 : Int32))) = d974 → (if d864 = (0 : Int32) then d973 else (F_writeLong_a0_end q1 d974 d973)) = d1004 → (if d864 = (0 : Int32) then d974 else (F_writeLong_w_a0_bytes_g q1 d974 d973)) = d1005 → (if d867 = (0 : Int32) then d1004 else (F_writeBoolean_a0_end d870 d1005 d1004)) = d1035 → ¬ (d873 = (0 : Int32)) → ((own_eg d1035)) := by
  intro d861 d864 d867 d870 d873 d973 d974 d1004 d1005 d1035
  rintro rfl rfl rfl rfl rfl rfl rfl rfl rfl rfl
  have b1 := own_bit (p2 &&& 1)
  have b2 := own_bit (p2 &&& 2)
  have b4 := own_bit (p2 &&& 4)
  have b8 := own_bit (p2 &&& 8)
  have b16 := own_bit (p2 &&& 16)
  revert b1 b2 b4 b8 b16
  generalize (if (p2 &&& (1 : Int32)) = (0 : Int32) then (0 : Int32) else (1 : Int32)) = f1
  generalize (if (p2 &&& (2 : Int32)) = (0 : Int32) then (0 : Int32) else (1 : Int32)) = f2
  generalize (if (p2 &&& (4 : Int32)) = (0 : Int32) then (0 : Int32) else (1 : Int32)) = f4
  generalize (if (p2 &&& (8 : Int32)) = (0 : Int32) then (0 : Int32) else (1 : Int32)) = f8
  generalize (if (p2 &&& (16 : Int32)) = (0 : Int32) then (0 : Int32) else (1 : Int32)) = f16
  simp only [own_er, own_eg, own_cr, own_i4, own_we, own_wl, own_wb, own_wr, forall_eq']
  rintro (rfl | rfl) (rfl | rfl) (rfl | rfl) (rfl | rfl) (rfl | rfl) <;> decide
theorem own_ob_16 (p0 : Int32) (q1 : Int64) (p2 : Int32) (p3 : Int32) : ∀ (d861 : Int32) (d864 : Int32) (d867 : Int32) (d870 : Int32) (d873 : Int32) (v888 : Nat → Int32) (v899 : Nat → Int32) (v910 : Nat → Int32) (d973 : Int32) (d974 : Nat → Int32) (d1004 : Int32) (d1005 : Nat → Int32) (d1035 : Int32) (d1036 : Nat → Int32) (v1154 : Int32), (if (p2 &&& (1 : Int32)) = (0 : Int32) then (0 : Int32) else (1 : Int32)) = d861 → (if (p2 &&& (2 : Int32)) = (0 : Int32) then (0 : Int32) else (1 : Int32)) = d864 → (if (p2 &&& (4 : Int32)) = (0 : Int32) then (0 : Int32) else (1 : Int32)) = d867 → (if (p2 &&& (8 : Int32)) = (0 : Int32) then (0 : Int32) else (1 : Int32)) = d870 → (if (p2 &&& (16 : Int32)) = (0 : Int32) then (0 : Int32) else (1 : Int32)) = d873 → (upd (fun _ => (0 : Int32)) 0 (nar .byte (i2b p3))) = v888 → (upd v888 30 (nar .byte (i2b (ushrI p3 (16 : Int32))))) = v899 → (upd v899 60 (nar .byte (i2b (ushrI p3 (8 : Int32))))) = v910 → (if d861 = (0 : Int32) then (4 : Int32) else (F_writeInt_a0_end p0 (fun _ => (0 : Int32)) (4 : Int32))) = d973 → (if d861 = (0 : Int32) then (fun _ => (0 : Int32)) else (F_writeInt_w_a0_bytes_g p0 (fun _ => (0 : Int32)) (4 : Int32))) = d974 → (if d864 = (0 : Int32) then d973 else (F_writeLong_a0_end q1 d974 d973)) = d1004 → (if d864 = (0 : Int32) then d974 else (F_writeLong_w_a0_bytes_g q1 d974 d973)) = d1005 → (if d867 = (0 : Int32) then d1004 else (F_writeBoolean_a0_end d870 d1005 d1004)) = d1035 → (if d867 = (0 : Int32) then d1005 else (F_writeBoolean_w_a0_bytes_g d870 d1005 d1004)) = d1036 → (F_writeRaw_a0_end v910 d1036 d1035) = v1154 → ¬ (d873 = (0 : Int32)) → (((own_cr v1154 128))) := by
  intro d861 d864 d867 d870 d873 v888 v899 v910 d973 d974 d1004 d1005 d1035 d1036 v1154
  rintro rfl rfl rfl rfl rfl rfl rfl rfl rfl rfl rfl rfl rfl rfl rfl
  have b1 := own_bit (p2 &&& 1)
  have b2 := own_bit (p2 &&& 2)
  have b4 := own_bit (p2 &&& 4)
  have b8 := own_bit (p2 &&& 8)
  have b16 := own_bit (p2 &&& 16)
  revert b1 b2 b4 b8 b16
  generalize (if (p2 &&& (1 : Int32)) = (0 : Int32) then (0 : Int32) else (1 : Int32)) = f1
  generalize (if (p2 &&& (2 : Int32)) = (0 : Int32) then (0 : Int32) else (1 : Int32)) = f2
  generalize (if (p2 &&& (4 : Int32)) = (0 : Int32) then (0 : Int32) else (1 : Int32)) = f4
  generalize (if (p2 &&& (8 : Int32)) = (0 : Int32) then (0 : Int32) else (1 : Int32)) = f8
  generalize (if (p2 &&& (16 : Int32)) = (0 : Int32) then (0 : Int32) else (1 : Int32)) = f16
  simp only [own_er, own_eg, own_cr, own_i4, own_we, own_wl, own_wb, own_wr, forall_eq']
  rintro (rfl | rfl) (rfl | rfl) (rfl | rfl) (rfl | rfl) (rfl | rfl) <;> decide
theorem own_ob_17 (p0 : Int32) (q1 : Int64) (p2 : Int32) (p3 : Int32) : ∀ (d861 : Int32) (d864 : Int32) (d867 : Int32) (d870 : Int32) (d873 : Int32) (v888 : Nat → Int32) (v899 : Nat → Int32) (v910 : Nat → Int32) (d973 : Int32) (d974 : Nat → Int32) (d1004 : Int32) (d1005 : Nat → Int32) (d1035 : Int32) (d1036 : Nat → Int32) (v1154 : Int32) (d1178 : Int32) (d1181 : Int32) (d1184 : Int32) (v1186 : Int32), (if (p2 &&& (1 : Int32)) = (0 : Int32) then (0 : Int32) else (1 : Int32)) = d861 → (if (p2 &&& (2 : Int32)) = (0 : Int32) then (0 : Int32) else (1 : Int32)) = d864 → (if (p2 &&& (4 : Int32)) = (0 : Int32) then (0 : Int32) else (1 : Int32)) = d867 → (if (p2 &&& (8 : Int32)) = (0 : Int32) then (0 : Int32) else (1 : Int32)) = d870 → (if (p2 &&& (16 : Int32)) = (0 : Int32) then (0 : Int32) else (1 : Int32)) = d873 → (upd (fun _ => (0 : Int32)) 0 (nar .byte (i2b p3))) = v888 → (upd v888 30 (nar .byte (i2b (ushrI p3 (16 : Int32))))) = v899 → (upd v899 60 (nar .byte (i2b (ushrI p3 (8 : Int32))))) = v910 → (if d861 = (0 : Int32) then (4 : Int32) else (F_writeInt_a0_end p0 (fun _ => (0 : Int32)) (4 : Int32))) = d973 → (if d861 = (0 : Int32) then (fun _ => (0 : Int32)) else (F_writeInt_w_a0_bytes_g p0 (fun _ => (0 : Int32)) (4 : Int32))) = d974 → (if d864 = (0 : Int32) then d973 else (F_writeLong_a0_end q1 d974 d973)) = d1004 → (if d864 = (0 : Int32) then d974 else (F_writeLong_w_a0_bytes_g q1 d974 d973)) = d1005 → (if d867 = (0 : Int32) then d1004 else (F_writeBoolean_a0_end d870 d1005 d1004)) = d1035 → (if d867 = (0 : Int32) then d1005 else (F_writeBoolean_w_a0_bytes_g d870 d1005 d1004)) = d1036 → (F_writeRaw_a0_end v910 d1036 d1035) = v1154 → (if d861 = (0 : Int32) then (0 : Int32) else (4 : Int32)) = d1178 → (if d864 = (0 : Int32) then (0 : Int32) else (8 : Int32)) = d1181 → (if d867 = (0 : Int32) then (0 : Int32) else (1 : Int32)) = d1184 → (((d1178 + d1181) + d1184) + (61 : Int32)) = v1186 → ¬ (d873 = (0 : Int32)) → (Nat.toInt32 (Int32.toNatClampNeg (v1154 - (4 : Int32)))) = v1186 := by
  intro d861 d864 d867 d870 d873 v888 v899 v910 d973 d974 d1004 d1005 d1035 d1036 v1154 d1178 d1181 d1184 v1186
  rintro rfl rfl rfl rfl rfl rfl rfl rfl rfl rfl rfl rfl rfl rfl rfl rfl rfl rfl rfl
  have b1 := own_bit (p2 &&& 1)
  have b2 := own_bit (p2 &&& 2)
  have b4 := own_bit (p2 &&& 4)
  have b8 := own_bit (p2 &&& 8)
  have b16 := own_bit (p2 &&& 16)
  revert b1 b2 b4 b8 b16
  generalize (if (p2 &&& (1 : Int32)) = (0 : Int32) then (0 : Int32) else (1 : Int32)) = f1
  generalize (if (p2 &&& (2 : Int32)) = (0 : Int32) then (0 : Int32) else (1 : Int32)) = f2
  generalize (if (p2 &&& (4 : Int32)) = (0 : Int32) then (0 : Int32) else (1 : Int32)) = f4
  generalize (if (p2 &&& (8 : Int32)) = (0 : Int32) then (0 : Int32) else (1 : Int32)) = f8
  generalize (if (p2 &&& (16 : Int32)) = (0 : Int32) then (0 : Int32) else (1 : Int32)) = f16
  simp only [own_er, own_eg, own_cr, own_i4, own_we, own_wl, own_wb, own_wr, forall_eq']
  rintro (rfl | rfl) (rfl | rfl) (rfl | rfl) (rfl | rfl) (rfl | rfl) <;> decide
theorem own_ob_18 (p0 : Int32) (q1 : Int64) (p2 : Int32) (p3 : Int32) : ∀ (d861 : Int32) (d864 : Int32) (d867 : Int32) (d870 : Int32) (d873 : Int32) (v888 : Nat → Int32) (v899 : Nat → Int32) (v910 : Nat → Int32) (d973 : Int32) (d974 : Nat → Int32) (d1004 : Int32) (d1005 : Nat → Int32) (d1035 : Int32) (d1036 : Nat → Int32) (v1154 : Int32), (if (p2 &&& (1 : Int32)) = (0 : Int32) then (0 : Int32) else (1 : Int32)) = d861 → (if (p2 &&& (2 : Int32)) = (0 : Int32) then (0 : Int32) else (1 : Int32)) = d864 → (if (p2 &&& (4 : Int32)) = (0 : Int32) then (0 : Int32) else (1 : Int32)) = d867 → (if (p2 &&& (8 : Int32)) = (0 : Int32) then (0 : Int32) else (1 : Int32)) = d870 → (if (p2 &&& (16 : Int32)) = (0 : Int32) then (0 : Int32) else (1 : Int32)) = d873 → (upd (fun _ => (0 : Int32)) 0 (nar .byte (i2b p3))) = v888 → (upd v888 30 (nar .byte (i2b (ushrI p3 (16 : Int32))))) = v899 → (upd v899 60 (nar .byte (i2b (ushrI p3 (8 : Int32))))) = v910 → (if d861 = (0 : Int32) then (4 : Int32) else (F_writeInt_a0_end p0 (fun _ => (0 : Int32)) (4 : Int32))) = d973 → (if d861 = (0 : Int32) then (fun _ => (0 : Int32)) else (F_writeInt_w_a0_bytes_g p0 (fun _ => (0 : Int32)) (4 : Int32))) = d974 → (if d864 = (0 : Int32) then d973 else (F_writeLong_a0_end q1 d974 d973)) = d1004 → (if d864 = (0 : Int32) then d974 else (F_writeLong_w_a0_bytes_g q1 d974 d973)) = d1005 → (if d867 = (0 : Int32) then d1004 else (F_writeBoolean_a0_end d870 d1005 d1004)) = d1035 → (if d867 = (0 : Int32) then d1005 else (F_writeBoolean_w_a0_bytes_g d870 d1005 d1004)) = d1036 → (F_writeRaw_a0_end v910 d1036 d1035) = v1154 → ¬ (d873 = (0 : Int32)) → ¬ (d861 = (0 : Int32)) → (own_i4 (0 : Int32) (Int32.toNatClampNeg (v1154 - (4 : Int32)))) := by
  intro d861 d864 d867 d870 d873 v888 v899 v910 d973 d974 d1004 d1005 d1035 d1036 v1154
  rintro rfl rfl rfl rfl rfl rfl rfl rfl rfl rfl rfl rfl rfl rfl rfl
  have b1 := own_bit (p2 &&& 1)
  have b2 := own_bit (p2 &&& 2)
  have b4 := own_bit (p2 &&& 4)
  have b8 := own_bit (p2 &&& 8)
  have b16 := own_bit (p2 &&& 16)
  revert b1 b2 b4 b8 b16
  generalize (if (p2 &&& (1 : Int32)) = (0 : Int32) then (0 : Int32) else (1 : Int32)) = f1
  generalize (if (p2 &&& (2 : Int32)) = (0 : Int32) then (0 : Int32) else (1 : Int32)) = f2
  generalize (if (p2 &&& (4 : Int32)) = (0 : Int32) then (0 : Int32) else (1 : Int32)) = f4
  generalize (if (p2 &&& (8 : Int32)) = (0 : Int32) then (0 : Int32) else (1 : Int32)) = f8
  generalize (if (p2 &&& (16 : Int32)) = (0 : Int32) then (0 : Int32) else (1 : Int32)) = f16
  simp only [own_er, own_eg, own_cr, own_i4, own_we, own_wl, own_wb, own_wr, forall_eq']
  rintro (rfl | rfl) (rfl | rfl) (rfl | rfl) (rfl | rfl) (rfl | rfl) <;> decide
theorem own_ob_19 (p0 : Int32) (q1 : Int64) (p2 : Int32) (p3 : Int32) : ∀ (d861 : Int32) (d864 : Int32) (d867 : Int32) (d870 : Int32) (d873 : Int32) (v888 : Nat → Int32) (v899 : Nat → Int32) (v910 : Nat → Int32) (d973 : Int32) (d974 : Nat → Int32) (d1004 : Int32) (d1005 : Nat → Int32) (d1035 : Int32) (d1036 : Nat → Int32) (v1154 : Int32), (if (p2 &&& (1 : Int32)) = (0 : Int32) then (0 : Int32) else (1 : Int32)) = d861 → (if (p2 &&& (2 : Int32)) = (0 : Int32) then (0 : Int32) else (1 : Int32)) = d864 → (if (p2 &&& (4 : Int32)) = (0 : Int32) then (0 : Int32) else (1 : Int32)) = d867 → (if (p2 &&& (8 : Int32)) = (0 : Int32) then (0 : Int32) else (1 : Int32)) = d870 → (if (p2 &&& (16 : Int32)) = (0 : Int32) then (0 : Int32) else (1 : Int32)) = d873 → (upd (fun _ => (0 : Int32)) 0 (nar .byte (i2b p3))) = v888 → (upd v888 30 (nar .byte (i2b (ushrI p3 (16 : Int32))))) = v899 → (upd v899 60 (nar .byte (i2b (ushrI p3 (8 : Int32))))) = v910 → (if d861 = (0 : Int32) then (4 : Int32) else (F_writeInt_a0_end p0 (fun _ => (0 : Int32)) (4 : Int32))) = d973 → (if d861 = (0 : Int32) then (fun _ => (0 : Int32)) else (F_writeInt_w_a0_bytes_g p0 (fun _ => (0 : Int32)) (4 : Int32))) = d974 → (if d864 = (0 : Int32) then d973 else (F_writeLong_a0_end q1 d974 d973)) = d1004 → (if d864 = (0 : Int32) then d974 else (F_writeLong_w_a0_bytes_g q1 d974 d973)) = d1005 → (if d867 = (0 : Int32) then d1004 else (F_writeBoolean_a0_end d870 d1005 d1004)) = d1035 → (if d867 = (0 : Int32) then d1005 else (F_writeBoolean_w_a0_bytes_g d870 d1005 d1004)) = d1036 → (F_writeRaw_a0_end v910 d1036 d1035) = v1154 → ¬ (d873 = (0 : Int32)) → ¬ (d861 = (0 : Int32)) → ¬ ((F_isInt (0 : Int32) p0 (Int32.toNatClampNeg (v1154 - (4 : Int32))) (F_copyOfRangeByte_new0_g v1154 128 (F_writeRaw_new0_g v910 d1036 d1035))) = (0 : Int32)) := by
  intro d861 d864 d867 d870 d873 v888 v899 v910 d973 d974 d1004 d1005 d1035 d1036 v1154
  rintro rfl rfl rfl rfl rfl rfl rfl rfl rfl rfl rfl rfl rfl rfl rfl
  have b1 := own_bit (p2 &&& 1)
  have b2 := own_bit (p2 &&& 2)
  have b4 := own_bit (p2 &&& 4)
  have b8 := own_bit (p2 &&& 8)
  have b16 := own_bit (p2 &&& 16)
  revert b1 b2 b4 b8 b16
  generalize (if (p2 &&& (1 : Int32)) = (0 : Int32) then (0 : Int32) else (1 : Int32)) = f1
  generalize (if (p2 &&& (2 : Int32)) = (0 : Int32) then (0 : Int32) else (1 : Int32)) = f2
  generalize (if (p2 &&& (4 : Int32)) = (0 : Int32) then (0 : Int32) else (1 : Int32)) = f4
  generalize (if (p2 &&& (8 : Int32)) = (0 : Int32) then (0 : Int32) else (1 : Int32)) = f8
  generalize (if (p2 &&& (16 : Int32)) = (0 : Int32) then (0 : Int32) else (1 : Int32)) = f16
  rintro (rfl | rfl) (rfl | rfl) (rfl | rfl) - (rfl | rfl) <;> intros <;> first | contradiction | simp +decide only [own_10, own_nb, own_u0, if_true, if_false, own_we, own_wl, own_wb, own_wr, F_isInt, M10_853, F_copyOfRangeByte_new0_g, F_writeInt_w_a0_bytes_g, F_writeLong_w_a0_bytes_g, F_writeBoolean_w_a0_bytes_g, F_writeRaw_new0_g, F_ensureg_new0_g, F_copyOf_new0_g, blit, upd]
theorem own_ob_20 (p0 : Int32) (q1 : Int64) (p2 : Int32) (p3 : Int32) : ∀ (d861 : Int32) (d864 : Int32) (d867 : Int32) (d870 : Int32) (d873 : Int32) (v888 : Nat → Int32) (v899 : Nat → Int32) (v910 : Nat → Int32) (d973 : Int32) (d974 : Nat → Int32) (d1004 : Int32) (d1005 : Nat → Int32) (d1035 : Int32) (d1036 : Nat → Int32) (v1154 : Int32) (d1191 : Int32), (if (p2 &&& (1 : Int32)) = (0 : Int32) then (0 : Int32) else (1 : Int32)) = d861 → (if (p2 &&& (2 : Int32)) = (0 : Int32) then (0 : Int32) else (1 : Int32)) = d864 → (if (p2 &&& (4 : Int32)) = (0 : Int32) then (0 : Int32) else (1 : Int32)) = d867 → (if (p2 &&& (8 : Int32)) = (0 : Int32) then (0 : Int32) else (1 : Int32)) = d870 → (if (p2 &&& (16 : Int32)) = (0 : Int32) then (0 : Int32) else (1 : Int32)) = d873 → (upd (fun _ => (0 : Int32)) 0 (nar .byte (i2b p3))) = v888 → (upd v888 30 (nar .byte (i2b (ushrI p3 (16 : Int32))))) = v899 → (upd v899 60 (nar .byte (i2b (ushrI p3 (8 : Int32))))) = v910 → (if d861 = (0 : Int32) then (4 : Int32) else (F_writeInt_a0_end p0 (fun _ => (0 : Int32)) (4 : Int32))) = d973 → (if d861 = (0 : Int32) then (fun _ => (0 : Int32)) else (F_writeInt_w_a0_bytes_g p0 (fun _ => (0 : Int32)) (4 : Int32))) = d974 → (if d864 = (0 : Int32) then d973 else (F_writeLong_a0_end q1 d974 d973)) = d1004 → (if d864 = (0 : Int32) then d974 else (F_writeLong_w_a0_bytes_g q1 d974 d973)) = d1005 → (if d867 = (0 : Int32) then d1004 else (F_writeBoolean_a0_end d870 d1005 d1004)) = d1035 → (if d867 = (0 : Int32) then d1005 else (F_writeBoolean_w_a0_bytes_g d870 d1005 d1004)) = d1036 → (F_writeRaw_a0_end v910 d1036 d1035) = v1154 → (if d861 = (0 : Int32) then (0 : Int32) else (4 : Int32)) = d1191 → ¬ (d873 = (0 : Int32)) → ¬ (d864 = (0 : Int32)) → (own_i4 d1191 (Int32.toNatClampNeg (v1154 - (4 : Int32)))) := by
  intro d861 d864 d867 d870 d873 v888 v899 v910 d973 d974 d1004 d1005 d1035 d1036 v1154 d1191
  rintro rfl rfl rfl rfl rfl rfl rfl rfl rfl rfl rfl rfl rfl rfl rfl rfl
  have b1 := own_bit (p2 &&& 1)
  have b2 := own_bit (p2 &&& 2)
  have b4 := own_bit (p2 &&& 4)
  have b8 := own_bit (p2 &&& 8)
  have b16 := own_bit (p2 &&& 16)
  revert b1 b2 b4 b8 b16
  generalize (if (p2 &&& (1 : Int32)) = (0 : Int32) then (0 : Int32) else (1 : Int32)) = f1
  generalize (if (p2 &&& (2 : Int32)) = (0 : Int32) then (0 : Int32) else (1 : Int32)) = f2
  generalize (if (p2 &&& (4 : Int32)) = (0 : Int32) then (0 : Int32) else (1 : Int32)) = f4
  generalize (if (p2 &&& (8 : Int32)) = (0 : Int32) then (0 : Int32) else (1 : Int32)) = f8
  generalize (if (p2 &&& (16 : Int32)) = (0 : Int32) then (0 : Int32) else (1 : Int32)) = f16
  simp only [own_er, own_eg, own_cr, own_i4, own_we, own_wl, own_wb, own_wr, forall_eq']
  rintro (rfl | rfl) (rfl | rfl) (rfl | rfl) (rfl | rfl) (rfl | rfl) <;> decide
theorem own_ob_21 (p0 : Int32) (q1 : Int64) (p2 : Int32) (p3 : Int32) : ∀ (d861 : Int32) (d864 : Int32) (d867 : Int32) (d870 : Int32) (d873 : Int32) (v888 : Nat → Int32) (v899 : Nat → Int32) (v910 : Nat → Int32) (d973 : Int32) (d974 : Nat → Int32) (d1004 : Int32) (d1005 : Nat → Int32) (d1035 : Int32) (d1036 : Nat → Int32) (v1154 : Int32) (d1191 : Int32), (if (p2 &&& (1 : Int32)) = (0 : Int32) then (0 : Int32) else (1 : Int32)) = d861 → (if (p2 &&& (2 : Int32)) = (0 : Int32) then (0 : Int32) else (1 : Int32)) = d864 → (if (p2 &&& (4 : Int32)) = (0 : Int32) then (0 : Int32) else (1 : Int32)) = d867 → (if (p2 &&& (8 : Int32)) = (0 : Int32) then (0 : Int32) else (1 : Int32)) = d870 → (if (p2 &&& (16 : Int32)) = (0 : Int32) then (0 : Int32) else (1 : Int32)) = d873 → (upd (fun _ => (0 : Int32)) 0 (nar .byte (i2b p3))) = v888 → (upd v888 30 (nar .byte (i2b (ushrI p3 (16 : Int32))))) = v899 → (upd v899 60 (nar .byte (i2b (ushrI p3 (8 : Int32))))) = v910 → (if d861 = (0 : Int32) then (4 : Int32) else (F_writeInt_a0_end p0 (fun _ => (0 : Int32)) (4 : Int32))) = d973 → (if d861 = (0 : Int32) then (fun _ => (0 : Int32)) else (F_writeInt_w_a0_bytes_g p0 (fun _ => (0 : Int32)) (4 : Int32))) = d974 → (if d864 = (0 : Int32) then d973 else (F_writeLong_a0_end q1 d974 d973)) = d1004 → (if d864 = (0 : Int32) then d974 else (F_writeLong_w_a0_bytes_g q1 d974 d973)) = d1005 → (if d867 = (0 : Int32) then d1004 else (F_writeBoolean_a0_end d870 d1005 d1004)) = d1035 → (if d867 = (0 : Int32) then d1005 else (F_writeBoolean_w_a0_bytes_g d870 d1005 d1004)) = d1036 → (F_writeRaw_a0_end v910 d1036 d1035) = v1154 → (if d861 = (0 : Int32) then (0 : Int32) else (4 : Int32)) = d1191 → ¬ (d873 = (0 : Int32)) → ¬ (d864 = (0 : Int32)) → ¬ ((F_isInt d1191 (Int64.toInt32 (ushrL q1 (32 : Int32))) (Int32.toNatClampNeg (v1154 - (4 : Int32))) (F_copyOfRangeByte_new0_g v1154 128 (F_writeRaw_new0_g v910 d1036 d1035))) = (0 : Int32)) := by
  intro d861 d864 d867 d870 d873 v888 v899 v910 d973 d974 d1004 d1005 d1035 d1036 v1154 d1191
  rintro rfl rfl rfl rfl rfl rfl rfl rfl rfl rfl rfl rfl rfl rfl rfl rfl
  have b1 := own_bit (p2 &&& 1)
  have b2 := own_bit (p2 &&& 2)
  have b4 := own_bit (p2 &&& 4)
  have b8 := own_bit (p2 &&& 8)
  have b16 := own_bit (p2 &&& 16)
  revert b1 b2 b4 b8 b16
  generalize (if (p2 &&& (1 : Int32)) = (0 : Int32) then (0 : Int32) else (1 : Int32)) = f1
  generalize (if (p2 &&& (2 : Int32)) = (0 : Int32) then (0 : Int32) else (1 : Int32)) = f2
  generalize (if (p2 &&& (4 : Int32)) = (0 : Int32) then (0 : Int32) else (1 : Int32)) = f4
  generalize (if (p2 &&& (8 : Int32)) = (0 : Int32) then (0 : Int32) else (1 : Int32)) = f8
  generalize (if (p2 &&& (16 : Int32)) = (0 : Int32) then (0 : Int32) else (1 : Int32)) = f16
  rintro (rfl | rfl) (rfl | rfl) (rfl | rfl) - (rfl | rfl) <;> intros <;> first | contradiction | simp +decide only [own_10, own_nb, own_u0, if_true, if_false, own_we, own_wl, own_wb, own_wr, F_isInt, M10_853, F_copyOfRangeByte_new0_g, F_writeInt_w_a0_bytes_g, F_writeLong_w_a0_bytes_g, F_writeBoolean_w_a0_bytes_g, F_writeRaw_new0_g, F_ensureg_new0_g, F_copyOf_new0_g, blit, upd]
theorem own_ob_22 (p0 : Int32) (q1 : Int64) (p2 : Int32) (p3 : Int32) : ∀ (d861 : Int32) (d864 : Int32) (d867 : Int32) (d870 : Int32) (d873 : Int32) (v888 : Nat → Int32) (v899 : Nat → Int32) (v910 : Nat → Int32) (d973 : Int32) (d974 : Nat → Int32) (d1004 : Int32) (d1005 : Nat → Int32) (d1035 : Int32) (d1036 : Nat → Int32) (v1154 : Int32) (d1191 : Int32), (if (p2 &&& (1 : Int32)) = (0 : Int32) then (0 : Int32) else (1 : Int32)) = d861 → (if (p2 &&& (2 : Int32)) = (0 : Int32) then (0 : Int32) else (1 : Int32)) = d864 → (if (p2 &&& (4 : Int32)) = (0 : Int32) then (0 : Int32) else (1 : Int32)) = d867 → (if (p2 &&& (8 : Int32)) = (0 : Int32) then (0 : Int32) else (1 : Int32)) = d870 → (if (p2 &&& (16 : Int32)) = (0 : Int32) then (0 : Int32) else (1 : Int32)) = d873 → (upd (fun _ => (0 : Int32)) 0 (nar .byte (i2b p3))) = v888 → (upd v888 30 (nar .byte (i2b (ushrI p3 (16 : Int32))))) = v899 → (upd v899 60 (nar .byte (i2b (ushrI p3 (8 : Int32))))) = v910 → (if d861 = (0 : Int32) then (4 : Int32) else (F_writeInt_a0_end p0 (fun _ => (0 : Int32)) (4 : Int32))) = d973 → (if d861 = (0 : Int32) then (fun _ => (0 : Int32)) else (F_writeInt_w_a0_bytes_g p0 (fun _ => (0 : Int32)) (4 : Int32))) = d974 → (if d864 = (0 : Int32) then d973 else (F_writeLong_a0_end q1 d974 d973)) = d1004 → (if d864 = (0 : Int32) then d974 else (F_writeLong_w_a0_bytes_g q1 d974 d973)) = d1005 → (if d867 = (0 : Int32) then d1004 else (F_writeBoolean_a0_end d870 d1005 d1004)) = d1035 → (if d867 = (0 : Int32) then d1005 else (F_writeBoolean_w_a0_bytes_g d870 d1005 d1004)) = d1036 → (F_writeRaw_a0_end v910 d1036 d1035) = v1154 → (if d861 = (0 : Int32) then (0 : Int32) else (4 : Int32)) = d1191 → ¬ (d873 = (0 : Int32)) → ¬ (d864 = (0 : Int32)) → (own_i4 (d1191 + (4 : Int32)) (Int32.toNatClampNeg (v1154 - (4 : Int32)))) := by
  intro d861 d864 d867 d870 d873 v888 v899 v910 d973 d974 d1004 d1005 d1035 d1036 v1154 d1191
  rintro rfl rfl rfl rfl rfl rfl rfl rfl rfl rfl rfl rfl rfl rfl rfl rfl
  have b1 := own_bit (p2 &&& 1)
  have b2 := own_bit (p2 &&& 2)
  have b4 := own_bit (p2 &&& 4)
  have b8 := own_bit (p2 &&& 8)
  have b16 := own_bit (p2 &&& 16)
  revert b1 b2 b4 b8 b16
  generalize (if (p2 &&& (1 : Int32)) = (0 : Int32) then (0 : Int32) else (1 : Int32)) = f1
  generalize (if (p2 &&& (2 : Int32)) = (0 : Int32) then (0 : Int32) else (1 : Int32)) = f2
  generalize (if (p2 &&& (4 : Int32)) = (0 : Int32) then (0 : Int32) else (1 : Int32)) = f4
  generalize (if (p2 &&& (8 : Int32)) = (0 : Int32) then (0 : Int32) else (1 : Int32)) = f8
  generalize (if (p2 &&& (16 : Int32)) = (0 : Int32) then (0 : Int32) else (1 : Int32)) = f16
  simp only [own_er, own_eg, own_cr, own_i4, own_we, own_wl, own_wb, own_wr, forall_eq']
  rintro (rfl | rfl) (rfl | rfl) (rfl | rfl) (rfl | rfl) (rfl | rfl) <;> decide
theorem own_ob_23 (p0 : Int32) (q1 : Int64) (p2 : Int32) (p3 : Int32) : ∀ (d861 : Int32) (d864 : Int32) (d867 : Int32) (d870 : Int32) (d873 : Int32) (v888 : Nat → Int32) (v899 : Nat → Int32) (v910 : Nat → Int32) (d973 : Int32) (d974 : Nat → Int32) (d1004 : Int32) (d1005 : Nat → Int32) (d1035 : Int32) (d1036 : Nat → Int32) (v1154 : Int32) (d1191 : Int32), (if (p2 &&& (1 : Int32)) = (0 : Int32) then (0 : Int32) else (1 : Int32)) = d861 → (if (p2 &&& (2 : Int32)) = (0 : Int32) then (0 : Int32) else (1 : Int32)) = d864 → (if (p2 &&& (4 : Int32)) = (0 : Int32) then (0 : Int32) else (1 : Int32)) = d867 → (if (p2 &&& (8 : Int32)) = (0 : Int32) then (0 : Int32) else (1 : Int32)) = d870 → (if (p2 &&& (16 : Int32)) = (0 : Int32) then (0 : Int32) else (1 : Int32)) = d873 → (upd (fun _ => (0 : Int32)) 0 (nar .byte (i2b p3))) = v888 → (upd v888 30 (nar .byte (i2b (ushrI p3 (16 : Int32))))) = v899 → (upd v899 60 (nar .byte (i2b (ushrI p3 (8 : Int32))))) = v910 → (if d861 = (0 : Int32) then (4 : Int32) else (F_writeInt_a0_end p0 (fun _ => (0 : Int32)) (4 : Int32))) = d973 → (if d861 = (0 : Int32) then (fun _ => (0 : Int32)) else (F_writeInt_w_a0_bytes_g p0 (fun _ => (0 : Int32)) (4 : Int32))) = d974 → (if d864 = (0 : Int32) then d973 else (F_writeLong_a0_end q1 d974 d973)) = d1004 → (if d864 = (0 : Int32) then d974 else (F_writeLong_w_a0_bytes_g q1 d974 d973)) = d1005 → (if d867 = (0 : Int32) then d1004 else (F_writeBoolean_a0_end d870 d1005 d1004)) = d1035 → (if d867 = (0 : Int32) then d1005 else (F_writeBoolean_w_a0_bytes_g d870 d1005 d1004)) = d1036 → (F_writeRaw_a0_end v910 d1036 d1035) = v1154 → (if d861 = (0 : Int32) then (0 : Int32) else (4 : Int32)) = d1191 → ¬ (d873 = (0 : Int32)) → ¬ (d864 = (0 : Int32)) → ¬ ((F_isInt (d1191 + (4 : Int32)) (Int64.toInt32 q1) (Int32.toNatClampNeg (v1154 - (4 : Int32))) (F_copyOfRangeByte_new0_g v1154 128 (F_writeRaw_new0_g v910 d1036 d1035))) = (0 : Int32)) := by
  intro d861 d864 d867 d870 d873 v888 v899 v910 d973 d974 d1004 d1005 d1035 d1036 v1154 d1191
  rintro rfl rfl rfl rfl rfl rfl rfl rfl rfl rfl rfl rfl rfl rfl rfl rfl
  have b1 := own_bit (p2 &&& 1)
  have b2 := own_bit (p2 &&& 2)
  have b4 := own_bit (p2 &&& 4)
  have b8 := own_bit (p2 &&& 8)
  have b16 := own_bit (p2 &&& 16)
  revert b1 b2 b4 b8 b16
  generalize (if (p2 &&& (1 : Int32)) = (0 : Int32) then (0 : Int32) else (1 : Int32)) = f1
  generalize (if (p2 &&& (2 : Int32)) = (0 : Int32) then (0 : Int32) else (1 : Int32)) = f2
  generalize (if (p2 &&& (4 : Int32)) = (0 : Int32) then (0 : Int32) else (1 : Int32)) = f4
  generalize (if (p2 &&& (8 : Int32)) = (0 : Int32) then (0 : Int32) else (1 : Int32)) = f8
  generalize (if (p2 &&& (16 : Int32)) = (0 : Int32) then (0 : Int32) else (1 : Int32)) = f16
  rintro (rfl | rfl) (rfl | rfl) (rfl | rfl) - (rfl | rfl) <;> intros <;> first | contradiction | simp +decide only [own_10, own_nb, own_u0, if_true, if_false, own_we, own_wl, own_wb, own_wr, F_isInt, M10_853, F_copyOfRangeByte_new0_g, F_writeInt_w_a0_bytes_g, F_writeLong_w_a0_bytes_g, F_writeBoolean_w_a0_bytes_g, F_writeRaw_new0_g, F_ensureg_new0_g, F_copyOf_new0_g, blit, upd]
theorem own_ob_24 (p0 : Int32) (q1 : Int64) (p2 : Int32) (p3 : Int32) : ∀ (d861 : Int32) (d864 : Int32) (d867 : Int32) (d870 : Int32) (d873 : Int32) (v888 : Nat → Int32) (v899 : Nat → Int32) (v910 : Nat → Int32) (d973 : Int32) (d974 : Nat → Int32) (d1004 : Int32) (d1005 : Nat → Int32) (d1035 : Int32) (d1036 : Nat → Int32) (v1154 : Int32) (d1191 : Int32) (d1205 : Int32), (if (p2 &&& (1 : Int32)) = (0 : Int32) then (0 : Int32) else (1 : Int32)) = d861 → (if (p2 &&& (2 : Int32)) = (0 : Int32) then (0 : Int32) else (1 : Int32)) = d864 → (if (p2 &&& (4 : Int32)) = (0 : Int32) then (0 : Int32) else (1 : Int32)) = d867 → (if (p2 &&& (8 : Int32)) = (0 : Int32) then (0 : Int32) else (1 : Int32)) = d870 → (if (p2 &&& (16 : Int32)) = (0 : Int32) then (0 : Int32) else (1 : Int32)) = d873 → (upd (fun _ => (0 : Int32)) 0 (nar .byte (i2b p3))) = v888 → (upd v888 30 (nar .byte (i2b (ushrI p3 (16 : Int32))))) = v899 → (upd v899 60 (nar .byte (i2b (ushrI p3 (8 : Int32))))) = v910 → (if d861 = (0 : Int32) then (4 : Int32) else (F_writeInt_a0_end p0 (fun _ => (0 : Int32)) (4 : Int32))) = d973 → (if d861 = (0 : Int32) then (fun _ => (0 : Int32)) else (F_writeInt_w_a0_bytes_g p0 (fun _ => (0 : Int32)) (4 : Int32))) = d974 → (if d864 = (0 : Int32) then d973 else (F_writeLong_a0_end q1 d974 d973)) = d1004 → (if d864 = (0 : Int32) then d974 else (F_writeLong_w_a0_bytes_g q1 d974 d973)) = d1005 → (if d867 = (0 : Int32) then d1004 else (F_writeBoolean_a0_end d870 d1005 d1004)) = d1035 → (if d867 = (0 : Int32) then d1005 else (F_writeBoolean_w_a0_bytes_g d870 d1005 d1004)) = d1036 → (F_writeRaw_a0_end v910 d1036 d1035) = v1154 → (if d861 = (0 : Int32) then (0 : Int32) else (4 : Int32)) = d1191 → (if d864 = (0 : Int32) then d1191 else (d1191 + (8 : Int32))) = d1205 → ¬ (d873 = (0 : Int32)) → ¬ (d867 = (0 : Int32)) → ¬ d1205 < (0 : Int32) ∧ Int32.toNatClampNeg d1205 < (Int32.toNatClampNeg (v1154 - (4 : Int32))) := by
  intro d861 d864 d867 d870 d873 v888 v899 v910 d973 d974 d1004 d1005 d1035 d1036 v1154 d1191 d1205
  rintro rfl rfl rfl rfl rfl rfl rfl rfl rfl rfl rfl rfl rfl rfl rfl rfl rfl
  have b1 := own_bit (p2 &&& 1)
  have b2 := own_bit (p2 &&& 2)
  have b4 := own_bit (p2 &&& 4)
  have b8 := own_bit (p2 &&& 8)
  have b16 := own_bit (p2 &&& 16)
  revert b1 b2 b4 b8 b16
  generalize (if (p2 &&& (1 : Int32)) = (0 : Int32) then (0 : Int32) else (1 : Int32)) = f1
  generalize (if (p2 &&& (2 : Int32)) = (0 : Int32) then (0 : Int32) else (1 : Int32)) = f2
  generalize (if (p2 &&& (4 : Int32)) = (0 : Int32) then (0 : Int32) else (1 : Int32)) = f4
  generalize (if (p2 &&& (8 : Int32)) = (0 : Int32) then (0 : Int32) else (1 : Int32)) = f8
  generalize (if (p2 &&& (16 : Int32)) = (0 : Int32) then (0 : Int32) else (1 : Int32)) = f16
  simp only [own_er, own_eg, own_cr, own_i4, own_we, own_wl, own_wb, own_wr, forall_eq']
  rintro (rfl | rfl) (rfl | rfl) (rfl | rfl) (rfl | rfl) (rfl | rfl) <;> decide
theorem own_ob_25 (p0 : Int32) (q1 : Int64) (p2 : Int32) (p3 : Int32) : ∀ (d861 : Int32) (d864 : Int32) (d867 : Int32) (d870 : Int32) (d873 : Int32) (v888 : Nat → Int32) (v899 : Nat → Int32) (v910 : Nat → Int32) (d973 : Int32) (d974 : Nat → Int32) (d1004 : Int32) (d1005 : Nat → Int32) (d1035 : Int32) (d1036 : Nat → Int32) (v1154 : Int32) (d1191 : Int32) (d1205 : Int32), (if (p2 &&& (1 : Int32)) = (0 : Int32) then (0 : Int32) else (1 : Int32)) = d861 → (if (p2 &&& (2 : Int32)) = (0 : Int32) then (0 : Int32) else (1 : Int32)) = d864 → (if (p2 &&& (4 : Int32)) = (0 : Int32) then (0 : Int32) else (1 : Int32)) = d867 → (if (p2 &&& (8 : Int32)) = (0 : Int32) then (0 : Int32) else (1 : Int32)) = d870 → (if (p2 &&& (16 : Int32)) = (0 : Int32) then (0 : Int32) else (1 : Int32)) = d873 → (upd (fun _ => (0 : Int32)) 0 (nar .byte (i2b p3))) = v888 → (upd v888 30 (nar .byte (i2b (ushrI p3 (16 : Int32))))) = v899 → (upd v899 60 (nar .byte (i2b (ushrI p3 (8 : Int32))))) = v910 → (if d861 = (0 : Int32) then (4 : Int32) else (F_writeInt_a0_end p0 (fun _ => (0 : Int32)) (4 : Int32))) = d973 → (if d861 = (0 : Int32) then (fun _ => (0 : Int32)) else (F_writeInt_w_a0_bytes_g p0 (fun _ => (0 : Int32)) (4 : Int32))) = d974 → (if d864 = (0 : Int32) then d973 else (F_writeLong_a0_end q1 d974 d973)) = d1004 → (if d864 = (0 : Int32) then d974 else (F_writeLong_w_a0_bytes_g q1 d974 d973)) = d1005 → (if d867 = (0 : Int32) then d1004 else (F_writeBoolean_a0_end d870 d1005 d1004)) = d1035 → (if d867 = (0 : Int32) then d1005 else (F_writeBoolean_w_a0_bytes_g d870 d1005 d1004)) = d1036 → (F_writeRaw_a0_end v910 d1036 d1035) = v1154 → (if d861 = (0 : Int32) then (0 : Int32) else (4 : Int32)) = d1191 → (if d864 = (0 : Int32) then d1191 else (d1191 + (8 : Int32))) = d1205 → ¬ (d873 = (0 : Int32)) → ¬ (d867 = (0 : Int32)) → ((F_copyOfRangeByte_new0_g v1154 128 (F_writeRaw_new0_g v910 d1036 d1035)) (Int32.toNatClampNeg d1205)) = (i2b (if d870 = (0 : Int32) then (0 : Int32) else (1 : Int32))) := by
  intro d861 d864 d867 d870 d873 v888 v899 v910 d973 d974 d1004 d1005 d1035 d1036 v1154 d1191 d1205
  rintro rfl rfl rfl rfl rfl rfl rfl rfl rfl rfl rfl rfl rfl rfl rfl rfl rfl
  have b1 := own_bit (p2 &&& 1)
  have b2 := own_bit (p2 &&& 2)
  have b4 := own_bit (p2 &&& 4)
  have b8 := own_bit (p2 &&& 8)
  have b16 := own_bit (p2 &&& 16)
  revert b1 b2 b4 b8 b16
  generalize (if (p2 &&& (1 : Int32)) = (0 : Int32) then (0 : Int32) else (1 : Int32)) = f1
  generalize (if (p2 &&& (2 : Int32)) = (0 : Int32) then (0 : Int32) else (1 : Int32)) = f2
  generalize (if (p2 &&& (4 : Int32)) = (0 : Int32) then (0 : Int32) else (1 : Int32)) = f4
  generalize (if (p2 &&& (8 : Int32)) = (0 : Int32) then (0 : Int32) else (1 : Int32)) = f8
  generalize (if (p2 &&& (16 : Int32)) = (0 : Int32) then (0 : Int32) else (1 : Int32)) = f16
  rintro (rfl | rfl) (rfl | rfl) (rfl | rfl) - (rfl | rfl) <;> intros <;> first | contradiction | simp +decide only [own_10, own_nb, own_u0, if_true, if_false, own_we, own_wl, own_wb, own_wr, F_isInt, M10_853, F_copyOfRangeByte_new0_g, F_writeInt_w_a0_bytes_g, F_writeLong_w_a0_bytes_g, F_writeBoolean_w_a0_bytes_g, F_writeRaw_new0_g, F_ensureg_new0_g, F_copyOf_new0_g, blit, upd]
theorem own_ob_26 (p0 : Int32) (q1 : Int64) (p2 : Int32) (p3 : Int32) : ∀ (d861 : Int32) (d864 : Int32) (d867 : Int32) (d870 : Int32) (d873 : Int32) (v888 : Nat → Int32) (v899 : Nat → Int32) (v910 : Nat → Int32) (d973 : Int32) (d974 : Nat → Int32) (d1004 : Int32) (d1005 : Nat → Int32) (d1035 : Int32) (d1036 : Nat → Int32) (v1154 : Int32) (d1191 : Int32) (d1205 : Int32) (d1215 : Int32), (if (p2 &&& (1 : Int32)) = (0 : Int32) then (0 : Int32) else (1 : Int32)) = d861 → (if (p2 &&& (2 : Int32)) = (0 : Int32) then (0 : Int32) else (1 : Int32)) = d864 → (if (p2 &&& (4 : Int32)) = (0 : Int32) then (0 : Int32) else (1 : Int32)) = d867 → (if (p2 &&& (8 : Int32)) = (0 : Int32) then (0 : Int32) else (1 : Int32)) = d870 → (if (p2 &&& (16 : Int32)) = (0 : Int32) then (0 : Int32) else (1 : Int32)) = d873 → (upd (fun _ => (0 : Int32)) 0 (nar .byte (i2b p3))) = v888 → (upd v888 30 (nar .byte (i2b (ushrI p3 (16 : Int32))))) = v899 → (upd v899 60 (nar .byte (i2b (ushrI p3 (8 : Int32))))) = v910 → (if d861 = (0 : Int32) then (4 : Int32) else (F_writeInt_a0_end p0 (fun _ => (0 : Int32)) (4 : Int32))) = d973 → (if d861 = (0 : Int32) then (fun _ => (0 : Int32)) else (F_writeInt_w_a0_bytes_g p0 (fun _ => (0 : Int32)) (4 : Int32))) = d974 → (if d864 = (0 : Int32) then d973 else (F_writeLong_a0_end q1 d974 d973)) = d1004 → (if d864 = (0 : Int32) then d974 else (F_writeLong_w_a0_bytes_g q1 d974 d973)) = d1005 → (if d867 = (0 : Int32) then d1004 else (F_writeBoolean_a0_end d870 d1005 d1004)) = d1035 → (if d867 = (0 : Int32) then d1005 else (F_writeBoolean_w_a0_bytes_g d870 d1005 d1004)) = d1036 → (F_writeRaw_a0_end v910 d1036 d1035) = v1154 → (if d861 = (0 : Int32) then (0 : Int32) else (4 : Int32)) = d1191 → (if d864 = (0 : Int32) then d1191 else (d1191 + (8 : Int32))) = d1205 → (if d867 = (0 : Int32) then d1205 else (d1205 + (1 : Int32))) = d1215 → ¬ (d873 = (0 : Int32)) → ¬ d1215 < (0 : Int32) ∧ Int32.toNatClampNeg d1215 < (Int32.toNatClampNeg (v1154 - (4 : Int32))) := by
  intro d861 d864 d867 d870 d873 v888 v899 v910 d973 d974 d1004 d1005 d1035 d1036 v1154 d1191 d1205 d1215
  rintro rfl rfl rfl rfl rfl rfl rfl rfl rfl rfl rfl rfl rfl rfl rfl rfl rfl rfl
  have b1 := own_bit (p2 &&& 1)
  have b2 := own_bit (p2 &&& 2)
  have b4 := own_bit (p2 &&& 4)
  have b8 := own_bit (p2 &&& 8)
  have b16 := own_bit (p2 &&& 16)
  revert b1 b2 b4 b8 b16
  generalize (if (p2 &&& (1 : Int32)) = (0 : Int32) then (0 : Int32) else (1 : Int32)) = f1
  generalize (if (p2 &&& (2 : Int32)) = (0 : Int32) then (0 : Int32) else (1 : Int32)) = f2
  generalize (if (p2 &&& (4 : Int32)) = (0 : Int32) then (0 : Int32) else (1 : Int32)) = f4
  generalize (if (p2 &&& (8 : Int32)) = (0 : Int32) then (0 : Int32) else (1 : Int32)) = f8
  generalize (if (p2 &&& (16 : Int32)) = (0 : Int32) then (0 : Int32) else (1 : Int32)) = f16
  simp only [own_er, own_eg, own_cr, own_i4, own_we, own_wl, own_wb, own_wr, forall_eq']
  rintro (rfl | rfl) (rfl | rfl) (rfl | rfl) (rfl | rfl) (rfl | rfl) <;> decide
theorem own_ob_27 (p0 : Int32) (q1 : Int64) (p2 : Int32) (p3 : Int32) : ∀ (d861 : Int32) (d864 : Int32) (d867 : Int32) (d870 : Int32) (d873 : Int32) (v888 : Nat → Int32) (v899 : Nat → Int32) (v910 : Nat → Int32) (d973 : Int32) (d974 : Nat → Int32) (d1004 : Int32) (d1005 : Nat → Int32) (d1035 : Int32) (d1036 : Nat → Int32) (v1154 : Int32) (d1191 : Int32) (d1205 : Int32) (d1215 : Int32) (v1217 : Int32), (if (p2 &&& (1 : Int32)) = (0 : Int32) then (0 : Int32) else (1 : Int32)) = d861 → (if (p2 &&& (2 : Int32)) = (0 : Int32) then (0 : Int32) else (1 : Int32)) = d864 → (if (p2 &&& (4 : Int32)) = (0 : Int32) then (0 : Int32) else (1 : Int32)) = d867 → (if (p2 &&& (8 : Int32)) = (0 : Int32) then (0 : Int32) else (1 : Int32)) = d870 → (if (p2 &&& (16 : Int32)) = (0 : Int32) then (0 : Int32) else (1 : Int32)) = d873 → (upd (fun _ => (0 : Int32)) 0 (nar .byte (i2b p3))) = v888 → (upd v888 30 (nar .byte (i2b (ushrI p3 (16 : Int32))))) = v899 → (upd v899 60 (nar .byte (i2b (ushrI p3 (8 : Int32))))) = v910 → (if d861 = (0 : Int32) then (4 : Int32) else (F_writeInt_a0_end p0 (fun _ => (0 : Int32)) (4 : Int32))) = d973 → (if d861 = (0 : Int32) then (fun _ => (0 : Int32)) else (F_writeInt_w_a0_bytes_g p0 (fun _ => (0 : Int32)) (4 : Int32))) = d974 → (if d864 = (0 : Int32) then d973 else (F_writeLong_a0_end q1 d974 d973)) = d1004 → (if d864 = (0 : Int32) then d974 else (F_writeLong_w_a0_bytes_g q1 d974 d973)) = d1005 → (if d867 = (0 : Int32) then d1004 else (F_writeBoolean_a0_end d870 d1005 d1004)) = d1035 → (if d867 = (0 : Int32) then d1005 else (F_writeBoolean_w_a0_bytes_g d870 d1005 d1004)) = d1036 → (F_writeRaw_a0_end v910 d1036 d1035) = v1154 → (if d861 = (0 : Int32) then (0 : Int32) else (4 : Int32)) = d1191 → (if d864 = (0 : Int32) then d1191 else (d1191 + (8 : Int32))) = d1205 → (if d867 = (0 : Int32) then d1205 else (d1205 + (1 : Int32))) = d1215 → ((F_copyOfRangeByte_new0_g v1154 128 (F_writeRaw_new0_g v910 d1036 d1035)) (Int32.toNatClampNeg d1215)) = v1217 → ¬ (d873 = (0 : Int32)) → v1217 = (i2b p3) := by
  intro d861 d864 d867 d870 d873 v888 v899 v910 d973 d974 d1004 d1005 d1035 d1036 v1154 d1191 d1205 d1215 v1217
  rintro rfl rfl rfl rfl rfl rfl rfl rfl rfl rfl rfl rfl rfl rfl rfl rfl rfl rfl rfl
  have b1 := own_bit (p2 &&& 1)
  have b2 := own_bit (p2 &&& 2)
  have b4 := own_bit (p2 &&& 4)
  have b8 := own_bit (p2 &&& 8)
  have b16 := own_bit (p2 &&& 16)
  revert b1 b2 b4 b8 b16
  generalize (if (p2 &&& (1 : Int32)) = (0 : Int32) then (0 : Int32) else (1 : Int32)) = f1
  generalize (if (p2 &&& (2 : Int32)) = (0 : Int32) then (0 : Int32) else (1 : Int32)) = f2
  generalize (if (p2 &&& (4 : Int32)) = (0 : Int32) then (0 : Int32) else (1 : Int32)) = f4
  generalize (if (p2 &&& (8 : Int32)) = (0 : Int32) then (0 : Int32) else (1 : Int32)) = f8
  generalize (if (p2 &&& (16 : Int32)) = (0 : Int32) then (0 : Int32) else (1 : Int32)) = f16
  rintro (rfl | rfl) (rfl | rfl) (rfl | rfl) - (rfl | rfl) <;> intros <;> first | contradiction | simp +decide only [own_10, own_nb, own_u0, if_true, if_false, own_we, own_wl, own_wb, own_wr, F_isInt, M10_853, F_copyOfRangeByte_new0_g, F_writeInt_w_a0_bytes_g, F_writeLong_w_a0_bytes_g, F_writeBoolean_w_a0_bytes_g, F_writeRaw_new0_g, F_ensureg_new0_g, F_copyOf_new0_g, blit, upd]
theorem own_ob_28 (p0 : Int32) (q1 : Int64) (p2 : Int32) (p3 : Int32) : ∀ (d861 : Int32) (d864 : Int32) (d867 : Int32) (d870 : Int32) (d873 : Int32) (v888 : Nat → Int32) (v899 : Nat → Int32) (v910 : Nat → Int32) (d973 : Int32) (d974 : Nat → Int32) (d1004 : Int32) (d1005 : Nat → Int32) (d1035 : Int32) (d1036 : Nat → Int32) (v1154 : Int32) (d1191 : Int32) (d1205 : Int32) (d1215 : Int32), (if (p2 &&& (1 : Int32)) = (0 : Int32) then (0 : Int32) else (1 : Int32)) = d861 → (if (p2 &&& (2 : Int32)) = (0 : Int32) then (0 : Int32) else (1 : Int32)) = d864 → (if (p2 &&& (4 : Int32)) = (0 : Int32) then (0 : Int32) else (1 : Int32)) = d867 → (if (p2 &&& (8 : Int32)) = (0 : Int32) then (0 : Int32) else (1 : Int32)) = d870 → (if (p2 &&& (16 : Int32)) = (0 : Int32) then (0 : Int32) else (1 : Int32)) = d873 → (upd (fun _ => (0 : Int32)) 0 (nar .byte (i2b p3))) = v888 → (upd v888 30 (nar .byte (i2b (ushrI p3 (16 : Int32))))) = v899 → (upd v899 60 (nar .byte (i2b (ushrI p3 (8 : Int32))))) = v910 → (if d861 = (0 : Int32) then (4 : Int32) else (F_writeInt_a0_end p0 (fun _ => (0 : Int32)) (4 : Int32))) = d973 → (if d861 = (0 : Int32) then (fun _ => (0 : Int32)) else (F_writeInt_w_a0_bytes_g p0 (fun _ => (0 : Int32)) (4 : Int32))) = d974 → (if d864 = (0 : Int32) then d973 else (F_writeLong_a0_end q1 d974 d973)) = d1004 → (if d864 = (0 : Int32) then d974 else (F_writeLong_w_a0_bytes_g q1 d974 d973)) = d1005 → (if d867 = (0 : Int32) then d1004 else (F_writeBoolean_a0_end d870 d1005 d1004)) = d1035 → (if d867 = (0 : Int32) then d1005 else (F_writeBoolean_w_a0_bytes_g d870 d1005 d1004)) = d1036 → (F_writeRaw_a0_end v910 d1036 d1035) = v1154 → (if d861 = (0 : Int32) then (0 : Int32) else (4 : Int32)) = d1191 → (if d864 = (0 : Int32) then d1191 else (d1191 + (8 : Int32))) = d1205 → (if d867 = (0 : Int32) then d1205 else (d1205 + (1 : Int32))) = d1215 → ¬ (d873 = (0 : Int32)) → ¬ (d1215 + (1 : Int32)) < (0 : Int32) ∧ Int32.toNatClampNeg (d1215 + (1 : Int32)) < (Int32.toNatClampNeg (v1154 - (4 : Int32))) := by
  intro d861 d864 d867 d870 d873 v888 v899 v910 d973 d974 d1004 d1005 d1035 d1036 v1154 d1191 d1205 d1215
  rintro rfl rfl rfl rfl rfl rfl rfl rfl rfl rfl rfl rfl rfl rfl rfl rfl rfl rfl
  have b1 := own_bit (p2 &&& 1)
  have b2 := own_bit (p2 &&& 2)
  have b4 := own_bit (p2 &&& 4)
  have b8 := own_bit (p2 &&& 8)
  have b16 := own_bit (p2 &&& 16)
  revert b1 b2 b4 b8 b16
  generalize (if (p2 &&& (1 : Int32)) = (0 : Int32) then (0 : Int32) else (1 : Int32)) = f1
  generalize (if (p2 &&& (2 : Int32)) = (0 : Int32) then (0 : Int32) else (1 : Int32)) = f2
  generalize (if (p2 &&& (4 : Int32)) = (0 : Int32) then (0 : Int32) else (1 : Int32)) = f4
  generalize (if (p2 &&& (8 : Int32)) = (0 : Int32) then (0 : Int32) else (1 : Int32)) = f8
  generalize (if (p2 &&& (16 : Int32)) = (0 : Int32) then (0 : Int32) else (1 : Int32)) = f16
  simp only [own_er, own_eg, own_cr, own_i4, own_we, own_wl, own_wb, own_wr, forall_eq']
  rintro (rfl | rfl) (rfl | rfl) (rfl | rfl) (rfl | rfl) (rfl | rfl) <;> decide
theorem own_ob_29 (p0 : Int32) (q1 : Int64) (p2 : Int32) (p3 : Int32) : ∀ (d861 : Int32) (d864 : Int32) (d867 : Int32) (d870 : Int32) (d873 : Int32) (v888 : Nat → Int32) (v899 : Nat → Int32) (v910 : Nat → Int32) (d973 : Int32) (d974 : Nat → Int32) (d1004 : Int32) (d1005 : Nat → Int32) (d1035 : Int32) (d1036 : Nat → Int32) (v1154 : Int32) (d1191 : Int32) (d1205 : Int32) (d1215 : Int32) (v1218 : Int32), (if (p2 &&& (1 : Int32)) = (0 : Int32) then (0 : Int32) else (1 : Int32)) = d861 → (if (p2 &&& (2 : Int32)) = (0 : Int32) then (0 : Int32) else (1 : Int32)) = d864 → (if (p2 &&& (4 : Int32)) = (0 : Int32) then (0 : Int32) else (1 : Int32)) = d867 → (if (p2 &&& (8 : Int32)) = (0 : Int32) then (0 : Int32) else (1 : Int32)) = d870 → (if (p2 &&& (16 : Int32)) = (0 : Int32) then (0 : Int32) else (1 : Int32)) = d873 → (upd (fun _ => (0 : Int32)) 0 (nar .byte (i2b p3))) = v888 → (upd v888 30 (nar .byte (i2b (ushrI p3 (16 : Int32))))) = v899 → (upd v899 60 (nar .byte (i2b (ushrI p3 (8 : Int32))))) = v910 → (if d861 = (0 : Int32) then (4 : Int32) else (F_writeInt_a0_end p0 (fun _ => (0 : Int32)) (4 : Int32))) = d973 → (if d861 = (0 : Int32) then (fun _ => (0 : Int32)) else (F_writeInt_w_a0_bytes_g p0 (fun _ => (0 : Int32)) (4 : Int32))) = d974 → (if d864 = (0 : Int32) then d973 else (F_writeLong_a0_end q1 d974 d973)) = d1004 → (if d864 = (0 : Int32) then d974 else (F_writeLong_w_a0_bytes_g q1 d974 d973)) = d1005 → (if d867 = (0 : Int32) then d1004 else (F_writeBoolean_a0_end d870 d1005 d1004)) = d1035 → (if d867 = (0 : Int32) then d1005 else (F_writeBoolean_w_a0_bytes_g d870 d1005 d1004)) = d1036 → (F_writeRaw_a0_end v910 d1036 d1035) = v1154 → (if d861 = (0 : Int32) then (0 : Int32) else (4 : Int32)) = d1191 → (if d864 = (0 : Int32) then d1191 else (d1191 + (8 : Int32))) = d1205 → (if d867 = (0 : Int32) then d1205 else (d1205 + (1 : Int32))) = d1215 → ((F_copyOfRangeByte_new0_g v1154 128 (F_writeRaw_new0_g v910 d1036 d1035)) (Int32.toNatClampNeg (d1215 + (1 : Int32)))) = v1218 → ¬ (d873 = (0 : Int32)) → v1218 = (0 : Int32) := by
  intro d861 d864 d867 d870 d873 v888 v899 v910 d973 d974 d1004 d1005 d1035 d1036 v1154 d1191 d1205 d1215 v1218
  rintro rfl rfl rfl rfl rfl rfl rfl rfl rfl rfl rfl rfl rfl rfl rfl rfl rfl rfl rfl
  have b1 := own_bit (p2 &&& 1)
  have b2 := own_bit (p2 &&& 2)
  have b4 := own_bit (p2 &&& 4)
  have b8 := own_bit (p2 &&& 8)
  have b16 := own_bit (p2 &&& 16)
  revert b1 b2 b4 b8 b16
  generalize (if (p2 &&& (1 : Int32)) = (0 : Int32) then (0 : Int32) else (1 : Int32)) = f1
  generalize (if (p2 &&& (2 : Int32)) = (0 : Int32) then (0 : Int32) else (1 : Int32)) = f2
  generalize (if (p2 &&& (4 : Int32)) = (0 : Int32) then (0 : Int32) else (1 : Int32)) = f4
  generalize (if (p2 &&& (8 : Int32)) = (0 : Int32) then (0 : Int32) else (1 : Int32)) = f8
  generalize (if (p2 &&& (16 : Int32)) = (0 : Int32) then (0 : Int32) else (1 : Int32)) = f16
  rintro (rfl | rfl) (rfl | rfl) (rfl | rfl) - (rfl | rfl) <;> intros <;> first | contradiction | simp +decide only [own_10, own_nb, own_u0, if_true, if_false, own_we, own_wl, own_wb, own_wr, F_isInt, M10_853, F_copyOfRangeByte_new0_g, F_writeInt_w_a0_bytes_g, F_writeLong_w_a0_bytes_g, F_writeBoolean_w_a0_bytes_g, F_writeRaw_new0_g, F_ensureg_new0_g, F_copyOf_new0_g, blit, upd]
theorem own_ob_30 (p0 : Int32) (q1 : Int64) (p2 : Int32) (p3 : Int32) : ∀ (d861 : Int32) (d864 : Int32) (d867 : Int32) (d870 : Int32) (d873 : Int32) (v888 : Nat → Int32) (v899 : Nat → Int32) (v910 : Nat → Int32) (d973 : Int32) (d974 : Nat → Int32) (d1004 : Int32) (d1005 : Nat → Int32) (d1035 : Int32) (d1036 : Nat → Int32) (v1154 : Int32) (d1191 : Int32) (d1205 : Int32) (d1215 : Int32), (if (p2 &&& (1 : Int32)) = (0 : Int32) then (0 : Int32) else (1 : Int32)) = d861 → (if (p2 &&& (2 : Int32)) = (0 : Int32) then (0 : Int32) else (1 : Int32)) = d864 → (if (p2 &&& (4 : Int32)) = (0 : Int32) then (0 : Int32) else (1 : Int32)) = d867 → (if (p2 &&& (8 : Int32)) = (0 : Int32) then (0 : Int32) else (1 : Int32)) = d870 → (if (p2 &&& (16 : Int32)) = (0 : Int32) then (0 : Int32) else (1 : Int32)) = d873 → (upd (fun _ => (0 : Int32)) 0 (nar .byte (i2b p3))) = v888 → (upd v888 30 (nar .byte (i2b (ushrI p3 (16 : Int32))))) = v899 → (upd v899 60 (nar .byte (i2b (ushrI p3 (8 : Int32))))) = v910 → (if d861 = (0 : Int32) then (4 : Int32) else (F_writeInt_a0_end p0 (fun _ => (0 : Int32)) (4 : Int32))) = d973 → (if d861 = (0 : Int32) then (fun _ => (0 : Int32)) else (F_writeInt_w_a0_bytes_g p0 (fun _ => (0 : Int32)) (4 : Int32))) = d974 → (if d864 = (0 : Int32) then d973 else (F_writeLong_a0_end q1 d974 d973)) = d1004 → (if d864 = (0 : Int32) then d974 else (F_writeLong_w_a0_bytes_g q1 d974 d973)) = d1005 → (if d867 = (0 : Int32) then d1004 else (F_writeBoolean_a0_end d870 d1005 d1004)) = d1035 → (if d867 = (0 : Int32) then d1005 else (F_writeBoolean_w_a0_bytes_g d870 d1005 d1004)) = d1036 → (F_writeRaw_a0_end v910 d1036 d1035) = v1154 → (if d861 = (0 : Int32) then (0 : Int32) else (4 : Int32)) = d1191 → (if d864 = (0 : Int32) then d1191 else (d1191 + (8 : Int32))) = d1205 → (if d867 = (0 : Int32) then d1205 else (d1205 + (1 : Int32))) = d1215 → ¬ (d873 = (0 : Int32)) → ¬ (d1215 + (30 : Int32)) < (0 : Int32) ∧ Int32.toNatClampNeg (d1215 + (30 : Int32)) < (Int32.toNatClampNeg (v1154 - (4 : Int32))) := by
  intro d861 d864 d867 d870 d873 v888 v899 v910 d973 d974 d1004 d1005 d1035 d1036 v1154 d1191 d1205 d1215
  rintro rfl rfl rfl rfl rfl rfl rfl rfl rfl rfl rfl rfl rfl rfl rfl rfl rfl rfl
  have b1 := own_bit (p2 &&& 1)
  have b2 := own_bit (p2 &&& 2)
  have b4 := own_bit (p2 &&& 4)
  have b8 := own_bit (p2 &&& 8)
  have b16 := own_bit (p2 &&& 16)
  revert b1 b2 b4 b8 b16
  generalize (if (p2 &&& (1 : Int32)) = (0 : Int32) then (0 : Int32) else (1 : Int32)) = f1
  generalize (if (p2 &&& (2 : Int32)) = (0 : Int32) then (0 : Int32) else (1 : Int32)) = f2
  generalize (if (p2 &&& (4 : Int32)) = (0 : Int32) then (0 : Int32) else (1 : Int32)) = f4
  generalize (if (p2 &&& (8 : Int32)) = (0 : Int32) then (0 : Int32) else (1 : Int32)) = f8
  generalize (if (p2 &&& (16 : Int32)) = (0 : Int32) then (0 : Int32) else (1 : Int32)) = f16
  simp only [own_er, own_eg, own_cr, own_i4, own_we, own_wl, own_wb, own_wr, forall_eq']
  rintro (rfl | rfl) (rfl | rfl) (rfl | rfl) (rfl | rfl) (rfl | rfl) <;> decide
theorem own_ob_31 (p0 : Int32) (q1 : Int64) (p2 : Int32) (p3 : Int32) : ∀ (d861 : Int32) (d864 : Int32) (d867 : Int32) (d870 : Int32) (d873 : Int32) (v888 : Nat → Int32) (v899 : Nat → Int32) (v910 : Nat → Int32) (d973 : Int32) (d974 : Nat → Int32) (d1004 : Int32) (d1005 : Nat → Int32) (d1035 : Int32) (d1036 : Nat → Int32) (v1154 : Int32) (d1191 : Int32) (d1205 : Int32) (d1215 : Int32) (v1219 : Int32), (if (p2 &&& (1 : Int32)) = (0 : Int32) then (0 : Int32) else (1 : Int32)) = d861 → (if (p2 &&& (2 : Int32)) = (0 : Int32) then (0 : Int32) else (1 : Int32)) = d864 → (if (p2 &&& (4 : Int32)) = (0 : Int32) then (0 : Int32) else (1 : Int32)) = d867 → (if (p2 &&& (8 : Int32)) = (0 : Int32) then (0 : Int32) else (1 : Int32)) = d870 → (if (p2 &&& (16 : Int32)) = (0 : Int32) then (0 : Int32) else (1 : Int32)) = d873 → (upd (fun _ => (0 : Int32)) 0 (nar .byte (i2b p3))) = v888 → (upd v888 30 (nar .byte (i2b (ushrI p3 (16 : Int32))))) = v899 → (upd v899 60 (nar .byte (i2b (ushrI p3 (8 : Int32))))) = v910 → (if d861 = (0 : Int32) then (4 : Int32) else (F_writeInt_a0_end p0 (fun _ => (0 : Int32)) (4 : Int32))) = d973 → (if d861 = (0 : Int32) then (fun _ => (0 : Int32)) else (F_writeInt_w_a0_bytes_g p0 (fun _ => (0 : Int32)) (4 : Int32))) = d974 → (if d864 = (0 : Int32) then d973 else (F_writeLong_a0_end q1 d974 d973)) = d1004 → (if d864 = (0 : Int32) then d974 else (F_writeLong_w_a0_bytes_g q1 d974 d973)) = d1005 → (if d867 = (0 : Int32) then d1004 else (F_writeBoolean_a0_end d870 d1005 d1004)) = d1035 → (if d867 = (0 : Int32) then d1005 else (F_writeBoolean_w_a0_bytes_g d870 d1005 d1004)) = d1036 → (F_writeRaw_a0_end v910 d1036 d1035) = v1154 → (if d861 = (0 : Int32) then (0 : Int32) else (4 : Int32)) = d1191 → (if d864 = (0 : Int32) then d1191 else (d1191 + (8 : Int32))) = d1205 → (if d867 = (0 : Int32) then d1205 else (d1205 + (1 : Int32))) = d1215 → ((F_copyOfRangeByte_new0_g v1154 128 (F_writeRaw_new0_g v910 d1036 d1035)) (Int32.toNatClampNeg (d1215 + (30 : Int32)))) = v1219 → ¬ (d873 = (0 : Int32)) → v1219 = (i2b (ushrI p3 (16 : Int32))) := by
  intro d861 d864 d867 d870 d873 v888 v899 v910 d973 d974 d1004 d1005 d1035 d1036 v1154 d1191 d1205 d1215 v1219
  rintro rfl rfl rfl rfl rfl rfl rfl rfl rfl rfl rfl rfl rfl rfl rfl rfl rfl rfl rfl
  have b1 := own_bit (p2 &&& 1)
  have b2 := own_bit (p2 &&& 2)
  have b4 := own_bit (p2 &&& 4)
  have b8 := own_bit (p2 &&& 8)
  have b16 := own_bit (p2 &&& 16)
  revert b1 b2 b4 b8 b16
  generalize (if (p2 &&& (1 : Int32)) = (0 : Int32) then (0 : Int32) else (1 : Int32)) = f1
  generalize (if (p2 &&& (2 : Int32)) = (0 : Int32) then (0 : Int32) else (1 : Int32)) = f2
  generalize (if (p2 &&& (4 : Int32)) = (0 : Int32) then (0 : Int32) else (1 : Int32)) = f4
  generalize (if (p2 &&& (8 : Int32)) = (0 : Int32) then (0 : Int32) else (1 : Int32)) = f8
  generalize (if (p2 &&& (16 : Int32)) = (0 : Int32) then (0 : Int32) else (1 : Int32)) = f16
  rintro (rfl | rfl) (rfl | rfl) (rfl | rfl) - (rfl | rfl) <;> intros <;> first | contradiction | simp +decide only [own_10, own_nb, own_u0, if_true, if_false, own_we, own_wl, own_wb, own_wr, F_isInt, M10_853, F_copyOfRangeByte_new0_g, F_writeInt_w_a0_bytes_g, F_writeLong_w_a0_bytes_g, F_writeBoolean_w_a0_bytes_g, F_writeRaw_new0_g, F_ensureg_new0_g, F_copyOf_new0_g, blit, upd]
theorem own_ob_32 (p0 : Int32) (q1 : Int64) (p2 : Int32) (p3 : Int32) : ∀ (d861 : Int32) (d864 : Int32) (d867 : Int32) (d870 : Int32) (d873 : Int32) (v888 : Nat → Int32) (v899 : Nat → Int32) (v910 : Nat → Int32) (d973 : Int32) (d974 : Nat → Int32) (d1004 : Int32) (d1005 : Nat → Int32) (d1035 : Int32) (d1036 : Nat → Int32) (v1154 : Int32) (d1191 : Int32) (d1205 : Int32) (d1215 : Int32), (if (p2 &&& (1 : Int32)) = (0 : Int32) then (0 : Int32) else (1 : Int32)) = d861 → (if (p2 &&& (2 : Int32)) = (0 : Int32) then (0 : Int32) else (1 : Int32)) = d864 → (if (p2 &&& (4 : Int32)) = (0 : Int32) then (0 : Int32) else (1 : Int32)) = d867 → (if (p2 &&& (8 : Int32)) = (0 : Int32) then (0 : Int32) else (1 : Int32)) = d870 → (if (p2 &&& (16 : Int32)) = (0 : Int32) then (0 : Int32) else (1 : Int32)) = d873 → (upd (fun _ => (0 : Int32)) 0 (nar .byte (i2b p3))) = v888 → (upd v888 30 (nar .byte (i2b (ushrI p3 (16 : Int32))))) = v899 → (upd v899 60 (nar .byte (i2b (ushrI p3 (8 : Int32))))) = v910 → (if d861 = (0 : Int32) then (4 : Int32) else (F_writeInt_a0_end p0 (fun _ => (0 : Int32)) (4 : Int32))) = d973 → (if d861 = (0 : Int32) then (fun _ => (0 : Int32)) else (F_writeInt_w_a0_bytes_g p0 (fun _ => (0 : Int32)) (4 : Int32))) = d974 → (if d864 = (0 : Int32) then d973 else (F_writeLong_a0_end q1 d974 d973)) = d1004 → (if d864 = (0 : Int32) then d974 else (F_writeLong_w_a0_bytes_g q1 d974 d973)) = d1005 → (if d867 = (0 : Int32) then d1004 else (F_writeBoolean_a0_end d870 d1005 d1004)) = d1035 → (if d867 = (0 : Int32) then d1005 else (F_writeBoolean_w_a0_bytes_g d870 d1005 d1004)) = d1036 → (F_writeRaw_a0_end v910 d1036 d1035) = v1154 → (if d861 = (0 : Int32) then (0 : Int32) else (4 : Int32)) = d1191 → (if d864 = (0 : Int32) then d1191 else (d1191 + (8 : Int32))) = d1205 → (if d867 = (0 : Int32) then d1205 else (d1205 + (1 : Int32))) = d1215 → ¬ (d873 = (0 : Int32)) → ¬ (d1215 + (59 : Int32)) < (0 : Int32) ∧ Int32.toNatClampNeg (d1215 + (59 : Int32)) < (Int32.toNatClampNeg (v1154 - (4 : Int32))) := by
  intro d861 d864 d867 d870 d873 v888 v899 v910 d973 d974 d1004 d1005 d1035 d1036 v1154 d1191 d1205 d1215
  rintro rfl rfl rfl rfl rfl rfl rfl rfl rfl rfl rfl rfl rfl rfl rfl rfl rfl rfl
  have b1 := own_bit (p2 &&& 1)
  have b2 := own_bit (p2 &&& 2)
  have b4 := own_bit (p2 &&& 4)
  have b8 := own_bit (p2 &&& 8)
  have b16 := own_bit (p2 &&& 16)
  revert b1 b2 b4 b8 b16
  generalize (if (p2 &&& (1 : Int32)) = (0 : Int32) then (0 : Int32) else (1 : Int32)) = f1
  generalize (if (p2 &&& (2 : Int32)) = (0 : Int32) then (0 : Int32) else (1 : Int32)) = f2
  generalize (if (p2 &&& (4 : Int32)) = (0 : Int32) then (0 : Int32) else (1 : Int32)) = f4
  generalize (if (p2 &&& (8 : Int32)) = (0 : Int32) then (0 : Int32) else (1 : Int32)) = f8
  generalize (if (p2 &&& (16 : Int32)) = (0 : Int32) then (0 : Int32) else (1 : Int32)) = f16
  simp only [own_er, own_eg, own_cr, own_i4, own_we, own_wl, own_wb, own_wr, forall_eq']
  rintro (rfl | rfl) (rfl | rfl) (rfl | rfl) (rfl | rfl) (rfl | rfl) <;> decide
theorem own_ob_33 (p0 : Int32) (q1 : Int64) (p2 : Int32) (p3 : Int32) : ∀ (d861 : Int32) (d864 : Int32) (d867 : Int32) (d870 : Int32) (d873 : Int32) (v888 : Nat → Int32) (v899 : Nat → Int32) (v910 : Nat → Int32) (d973 : Int32) (d974 : Nat → Int32) (d1004 : Int32) (d1005 : Nat → Int32) (d1035 : Int32) (d1036 : Nat → Int32) (v1154 : Int32) (d1191 : Int32) (d1205 : Int32) (d1215 : Int32) (v1220 : Int32), (if (p2 &&& (1 : Int32)) = (0 : Int32) then (0 : Int32) else (1 : Int32)) = d861 → (if (p2 &&& (2 : Int32)) = (0 : Int32) then (0 : Int32) else (1 : Int32)) = d864 → (if (p2 &&& (4 : Int32)) = (0 : Int32) then (0 : Int32) else (1 : Int32)) = d867 → (if (p2 &&& (8 : Int32)) = (0 : Int32) then (0 : Int32) else (1 : Int32)) = d870 → (if (p2 &&& (16 : Int32)) = (0 : Int32) then (0 : Int32) else (1 : Int32)) = d873 → (upd (fun _ => (0 : Int32)) 0 (nar .byte (i2b p3))) = v888 → (upd v888 30 (nar .byte (i2b (ushrI p3 (16 : Int32))))) = v899 → (upd v899 60 (nar .byte (i2b (ushrI p3 (8 : Int32))))) = v910 → (if d861 = (0 : Int32) then (4 : Int32) else (F_writeInt_a0_end p0 (fun _ => (0 : Int32)) (4 : Int32))) = d973 → (if d861 = (0 : Int32) then (fun _ => (0 : Int32)) else (F_writeInt_w_a0_bytes_g p0 (fun _ => (0 : Int32)) (4 : Int32))) = d974 → (if d864 = (0 : Int32) then d973 else (F_writeLong_a0_end q1 d974 d973)) = d1004 → (if d864 = (0 : Int32) then d974 else (F_writeLong_w_a0_bytes_g q1 d974 d973)) = d1005 → (if d867 = (0 : Int32) then d1004 else (F_writeBoolean_a0_end d870 d1005 d1004)) = d1035 → (if d867 = (0 : Int32) then d1005 else (F_writeBoolean_w_a0_bytes_g d870 d1005 d1004)) = d1036 → (F_writeRaw_a0_end v910 d1036 d1035) = v1154 → (if d861 = (0 : Int32) then (0 : Int32) else (4 : Int32)) = d1191 → (if d864 = (0 : Int32) then d1191 else (d1191 + (8 : Int32))) = d1205 → (if d867 = (0 : Int32) then d1205 else (d1205 + (1 : Int32))) = d1215 → ((F_copyOfRangeByte_new0_g v1154 128 (F_writeRaw_new0_g v910 d1036 d1035)) (Int32.toNatClampNeg (d1215 + (59 : Int32)))) = v1220 → ¬ (d873 = (0 : Int32)) → v1220 = (0 : Int32) := by
  intro d861 d864 d867 d870 d873 v888 v899 v910 d973 d974 d1004 d1005 d1035 d1036 v1154 d1191 d1205 d1215 v1220
  rintro rfl rfl rfl rfl rfl rfl rfl rfl rfl rfl rfl rfl rfl rfl rfl rfl rfl rfl rfl
  have b1 := own_bit (p2 &&& 1)
  have b2 := own_bit (p2 &&& 2)
  have b4 := own_bit (p2 &&& 4)
  have b8 := own_bit (p2 &&& 8)
  have b16 := own_bit (p2 &&& 16)
  revert b1 b2 b4 b8 b16
  generalize (if (p2 &&& (1 : Int32)) = (0 : Int32) then (0 : Int32) else (1 : Int32)) = f1
  generalize (if (p2 &&& (2 : Int32)) = (0 : Int32) then (0 : Int32) else (1 : Int32)) = f2
  generalize (if (p2 &&& (4 : Int32)) = (0 : Int32) then (0 : Int32) else (1 : Int32)) = f4
  generalize (if (p2 &&& (8 : Int32)) = (0 : Int32) then (0 : Int32) else (1 : Int32)) = f8
  generalize (if (p2 &&& (16 : Int32)) = (0 : Int32) then (0 : Int32) else (1 : Int32)) = f16
  rintro (rfl | rfl) (rfl | rfl) (rfl | rfl) - (rfl | rfl) <;> intros <;> first | contradiction | simp +decide only [own_10, own_nb, own_u0, if_true, if_false, own_we, own_wl, own_wb, own_wr, F_isInt, M10_853, F_copyOfRangeByte_new0_g, F_writeInt_w_a0_bytes_g, F_writeLong_w_a0_bytes_g, F_writeBoolean_w_a0_bytes_g, F_writeRaw_new0_g, F_ensureg_new0_g, F_copyOf_new0_g, blit, upd]
theorem own_ob_34 (p0 : Int32) (q1 : Int64) (p2 : Int32) (p3 : Int32) : ∀ (d861 : Int32) (d864 : Int32) (d867 : Int32) (d870 : Int32) (d873 : Int32) (v888 : Nat → Int32) (v899 : Nat → Int32) (v910 : Nat → Int32) (d973 : Int32) (d974 : Nat → Int32) (d1004 : Int32) (d1005 : Nat → Int32) (d1035 : Int32) (d1036 : Nat → Int32) (v1154 : Int32) (d1191 : Int32) (d1205 : Int32) (d1215 : Int32), (if (p2 &&& (1 : Int32)) = (0 : Int32) then (0 : Int32) else (1 : Int32)) = d861 → (if (p2 &&& (2 : Int32)) = (0 : Int32) then (0 : Int32) else (1 : Int32)) = d864 → (if (p2 &&& (4 : Int32)) = (0 : Int32) then (0 : Int32) else (1 : Int32)) = d867 → (if (p2 &&& (8 : Int32)) = (0 : Int32) then (0 : Int32) else (1 : Int32)) = d870 → (if (p2 &&& (16 : Int32)) = (0 : Int32) then (0 : Int32) else (1 : Int32)) = d873 → (upd (fun _ => (0 : Int32)) 0 (nar .byte (i2b p3))) = v888 → (upd v888 30 (nar .byte (i2b (ushrI p3 (16 : Int32))))) = v899 → (upd v899 60 (nar .byte (i2b (ushrI p3 (8 : Int32))))) = v910 → (if d861 = (0 : Int32) then (4 : Int32) else (F_writeInt_a0_end p0 (fun _ => (0 : Int32)) (4 : Int32))) = d973 → (if d861 = (0 : Int32) then (fun _ => (0 : Int32)) else (F_writeInt_w_a0_bytes_g p0 (fun _ => (0 : Int32)) (4 : Int32))) = d974 → (if d864 = (0 : Int32) then d973 else (F_writeLong_a0_end q1 d974 d973)) = d1004 → (if d864 = (0 : Int32) then d974 else (F_writeLong_w_a0_bytes_g q1 d974 d973)) = d1005 → (if d867 = (0 : Int32) then d1004 else (F_writeBoolean_a0_end d870 d1005 d1004)) = d1035 → (if d867 = (0 : Int32) then d1005 else (F_writeBoolean_w_a0_bytes_g d870 d1005 d1004)) = d1036 → (F_writeRaw_a0_end v910 d1036 d1035) = v1154 → (if d861 = (0 : Int32) then (0 : Int32) else (4 : Int32)) = d1191 → (if d864 = (0 : Int32) then d1191 else (d1191 + (8 : Int32))) = d1205 → (if d867 = (0 : Int32) then d1205 else (d1205 + (1 : Int32))) = d1215 → ¬ (d873 = (0 : Int32)) → ¬ (d1215 + (60 : Int32)) < (0 : Int32) ∧ Int32.toNatClampNeg (d1215 + (60 : Int32)) < (Int32.toNatClampNeg (v1154 - (4 : Int32))) := by
  intro d861 d864 d867 d870 d873 v888 v899 v910 d973 d974 d1004 d1005 d1035 d1036 v1154 d1191 d1205 d1215
  rintro rfl rfl rfl rfl rfl rfl rfl rfl rfl rfl rfl rfl rfl rfl rfl rfl rfl rfl
  have b1 := own_bit (p2 &&& 1)
  have b2 := own_bit (p2 &&& 2)
  have b4 := own_bit (p2 &&& 4)
  have b8 := own_bit (p2 &&& 8)
  have b16 := own_bit (p2 &&& 16)
  revert b1 b2 b4 b8 b16
  generalize (if (p2 &&& (1 : Int32)) = (0 : Int32) then (0 : Int32) else (1 : Int32)) = f1
  generalize (if (p2 &&& (2 : Int32)) = (0 : Int32) then (0 : Int32) else (1 : Int32)) = f2
  generalize (if (p2 &&& (4 : Int32)) = (0 : Int32) then (0 : Int32) else (1 : Int32)) = f4
  generalize (if (p2 &&& (8 : Int32)) = (0 : Int32) then (0 : Int32) else (1 : Int32)) = f8
  generalize (if (p2 &&& (16 : Int32)) = (0 : Int32) then (0 : Int32) else (1 : Int32)) = f16
  simp only [own_er, own_eg, own_cr, own_i4, own_we, own_wl, own_wb, own_wr, forall_eq']
  rintro (rfl | rfl) (rfl | rfl) (rfl | rfl) (rfl | rfl) (rfl | rfl) <;> decide
theorem own_ob_35 (p0 : Int32) (q1 : Int64) (p2 : Int32) (p3 : Int32) : ∀ (d861 : Int32) (d864 : Int32) (d867 : Int32) (d870 : Int32) (d873 : Int32) (v888 : Nat → Int32) (v899 : Nat → Int32) (v910 : Nat → Int32) (d973 : Int32) (d974 : Nat → Int32) (d1004 : Int32) (d1005 : Nat → Int32) (d1035 : Int32) (d1036 : Nat → Int32) (v1154 : Int32) (d1191 : Int32) (d1205 : Int32) (d1215 : Int32) (v1221 : Int32), (if (p2 &&& (1 : Int32)) = (0 : Int32) then (0 : Int32) else (1 : Int32)) = d861 → (if (p2 &&& (2 : Int32)) = (0 : Int32) then (0 : Int32) else (1 : Int32)) = d864 → (if (p2 &&& (4 : Int32)) = (0 : Int32) then (0 : Int32) else (1 : Int32)) = d867 → (if (p2 &&& (8 : Int32)) = (0 : Int32) then (0 : Int32) else (1 : Int32)) = d870 → (if (p2 &&& (16 : Int32)) = (0 : Int32) then (0 : Int32) else (1 : Int32)) = d873 → (upd (fun _ => (0 : Int32)) 0 (nar .byte (i2b p3))) = v888 → (upd v888 30 (nar .byte (i2b (ushrI p3 (16 : Int32))))) = v899 → (upd v899 60 (nar .byte (i2b (ushrI p3 (8 : Int32))))) = v910 → (if d861 = (0 : Int32) then (4 : Int32) else (F_writeInt_a0_end p0 (fun _ => (0 : Int32)) (4 : Int32))) = d973 → (if d861 = (0 : Int32) then (fun _ => (0 : Int32)) else (F_writeInt_w_a0_bytes_g p0 (fun _ => (0 : Int32)) (4 : Int32))) = d974 → (if d864 = (0 : Int32) then d973 else (F_writeLong_a0_end q1 d974 d973)) = d1004 → (if d864 = (0 : Int32) then d974 else (F_writeLong_w_a0_bytes_g q1 d974 d973)) = d1005 → (if d867 = (0 : Int32) then d1004 else (F_writeBoolean_a0_end d870 d1005 d1004)) = d1035 → (if d867 = (0 : Int32) then d1005 else (F_writeBoolean_w_a0_bytes_g d870 d1005 d1004)) = d1036 → (F_writeRaw_a0_end v910 d1036 d1035) = v1154 → (if d861 = (0 : Int32) then (0 : Int32) else (4 : Int32)) = d1191 → (if d864 = (0 : Int32) then d1191 else (d1191 + (8 : Int32))) = d1205 → (if d867 = (0 : Int32) then d1205 else (d1205 + (1 : Int32))) = d1215 → ((F_copyOfRangeByte_new0_g v1154 128 (F_writeRaw_new0_g v910 d1036 d1035)) (Int32.toNatClampNeg (d1215 + (60 : Int32)))) = v1221 → ¬ (d873 = (0 : Int32)) → v1221 = (i2b (ushrI p3 (8 : Int32))) := by
  intro d861 d864 d867 d870 d873 v888 v899 v910 d973 d974 d1004 d1005 d1035 d1036 v1154 d1191 d1205 d1215 v1221
  rintro rfl rfl rfl rfl rfl rfl rfl rfl rfl rfl rfl rfl rfl rfl rfl rfl rfl rfl rfl
  have b1 := own_bit (p2 &&& 1)
  have b2 := own_bit (p2 &&& 2)
  have b4 := own_bit (p2 &&& 4)
  have b8 := own_bit (p2 &&& 8)
  have b16 := own_bit (p2 &&& 16)
  revert b1 b2 b4 b8 b16
  generalize (if (p2 &&& (1 : Int32)) = (0 : Int32) then (0 : Int32) else (1 : Int32)) = f1
  generalize (if (p2 &&& (2 : Int32)) = (0 : Int32) then (0 : Int32) else (1 : Int32)) = f2
  generalize (if (p2 &&& (4 : Int32)) = (0 : Int32) then (0 : Int32) else (1 : Int32)) = f4
  generalize (if (p2 &&& (8 : Int32)) = (0 : Int32) then (0 : Int32) else (1 : Int32)) = f8
  generalize (if (p2 &&& (16 : Int32)) = (0 : Int32) then (0 : Int32) else (1 : Int32)) = f16
  rintro (rfl | rfl) (rfl | rfl) (rfl | rfl) - (rfl | rfl) <;> intros <;> first | contradiction | simp +decide only [own_10, own_nb, own_u0, if_true, if_false, own_we, own_wl, own_wb, own_wr, F_isInt, M10_853, F_copyOfRangeByte_new0_g, F_writeInt_w_a0_bytes_g, F_writeLong_w_a0_bytes_g, F_writeBoolean_w_a0_bytes_g, F_writeRaw_new0_g, F_ensureg_new0_g, F_copyOf_new0_g, blit, upd]
theorem own_ob_36 (p0 : Int32) (q1 : Int64) (p2 : Int32) (p3 : Int32) : ∀ (d861 : Int32) (d864 : Int32) (d867 : Int32) (d870 : Int32) (d873 : Int32) (v888 : Nat → Int32) (v899 : Nat → Int32) (v910 : Nat → Int32) (d973 : Int32) (d974 : Nat → Int32) (d1004 : Int32) (d1005 : Nat → Int32) (d1035 : Int32) (d1036 : Nat → Int32) (v1154 : Int32) (d1191 : Int32) (d1205 : Int32) (d1224 : Int32), (if (p2 &&& (1 : Int32)) = (0 : Int32) then (0 : Int32) else (1 : Int32)) = d861 → (if (p2 &&& (2 : Int32)) = (0 : Int32) then (0 : Int32) else (1 : Int32)) = d864 → (if (p2 &&& (4 : Int32)) = (0 : Int32) then (0 : Int32) else (1 : Int32)) = d867 → (if (p2 &&& (8 : Int32)) = (0 : Int32) then (0 : Int32) else (1 : Int32)) = d870 → (if (p2 &&& (16 : Int32)) = (0 : Int32) then (0 : Int32) else (1 : Int32)) = d873 → (upd (fun _ => (0 : Int32)) 0 (nar .byte (i2b p3))) = v888 → (upd v888 30 (nar .byte (i2b (ushrI p3 (16 : Int32))))) = v899 → (upd v899 60 (nar .byte (i2b (ushrI p3 (8 : Int32))))) = v910 → (if d861 = (0 : Int32) then (4 : Int32) else (F_writeInt_a0_end p0 (fun _ => (0 : Int32)) (4 : Int32))) = d973 → (if d861 = (0 : Int32) then (fun _ => (0 : Int32)) else (F_writeInt_w_a0_bytes_g p0 (fun _ => (0 : Int32)) (4 : Int32))) = d974 → (if d864 = (0 : Int32) then d973 else (F_writeLong_a0_end q1 d974 d973)) = d1004 → (if d864 = (0 : Int32) then d974 else (F_writeLong_w_a0_bytes_g q1 d974 d973)) = d1005 → (if d867 = (0 : Int32) then d1004 else (F_writeBoolean_a0_end d870 d1005 d1004)) = d1035 → (if d867 = (0 : Int32) then d1005 else (F_writeBoolean_w_a0_bytes_g d870 d1005 d1004)) = d1036 → (F_writeRaw_a0_end v910 d1036 d1035) = v1154 → (if d861 = (0 : Int32) then (0 : Int32) else (4 : Int32)) = d1191 → (if d864 = (0 : Int32) then d1191 else (d1191 + (8 : Int32))) = d1205 → (if d870 = (0 : Int32) then (0 : Int32) else (1 : Int32)) = d1224 → ¬ (d873 = (0 : Int32)) → ¬ (d867 = (0 : Int32)) → ((F_copyOfRangeByte_new0_g v1154 128 (F_writeRaw_new0_g v910 d1036 d1035)) (Int32.toNatClampNeg d1205)) = (i2b d1224) := by
  intro d861 d864 d867 d870 d873 v888 v899 v910 d973 d974 d1004 d1005 d1035 d1036 v1154 d1191 d1205 d1224
  rintro rfl rfl rfl rfl rfl rfl rfl rfl rfl rfl rfl rfl rfl rfl rfl rfl rfl rfl
  have b1 := own_bit (p2 &&& 1)
  have b2 := own_bit (p2 &&& 2)
  have b4 := own_bit (p2 &&& 4)
  have b8 := own_bit (p2 &&& 8)
  have b16 := own_bit (p2 &&& 16)
  revert b1 b2 b4 b8 b16
  generalize (if (p2 &&& (1 : Int32)) = (0 : Int32) then (0 : Int32) else (1 : Int32)) = f1
  generalize (if (p2 &&& (2 : Int32)) = (0 : Int32) then (0 : Int32) else (1 : Int32)) = f2
  generalize (if (p2 &&& (4 : Int32)) = (0 : Int32) then (0 : Int32) else (1 : Int32)) = f4
  generalize (if (p2 &&& (8 : Int32)) = (0 : Int32) then (0 : Int32) else (1 : Int32)) = f8
  generalize (if (p2 &&& (16 : Int32)) = (0 : Int32) then (0 : Int32) else (1 : Int32)) = f16
  rintro (rfl | rfl) (rfl | rfl) (rfl | rfl) - (rfl | rfl) <;> intros <;> first | contradiction | simp +decide only [own_10, own_nb, own_u0, if_true, if_false, own_we, own_wl, own_wb, own_wr, F_isInt, M10_853, F_copyOfRangeByte_new0_g, F_writeInt_w_a0_bytes_g, F_writeLong_w_a0_bytes_g, F_writeBoolean_w_a0_bytes_g, F_writeRaw_new0_g, F_ensureg_new0_g, F_copyOf_new0_g, blit, upd]
set_option maxRecDepth 65536 in
set_option maxHeartbeats 40000000 in
theorem rm0 (l : Launch) (Z : State) (az : Array Value) (hw : ∀ d ∈ tables_1, d.before az Z = true) (ws : List Jvm.Cond) (p0 : Int32) (q1 : Int64) (p2 : Int32) (p3 : Int32) (h0 : Heap) (n0 : Nat) (Z0 : n0 ≤ h0.size) :
    Met l x code maxLocals ret ws room_1 Z #[(.int p0), (.long q1), (.int p2), (.int p3)] h0 (fun v h' L => v = some (Value.int (F_law p0 q1 p2 p3)) ∧ Fr n0 L) := by
  refine enter (plainFor_of_name pn_2) (ef_0 p0 q1 p2 p3) ?_
  intro p e s m below meth c T0 kc kn Q hkc hkn hQ K' X0 e0
  have K : Fx p s m meth c code 15 "com/example/snow_goose/snowgoose/WireWriterToBytesPinLaw" "law" (some .boolean) Z := K'
  have N0 := Fr.nil n0
  have K0 : Keep h0 h0 [] := Keep.refl _ _
  refine k_iloadN K X0 at_0 rfl (q := 1) rfl ?_
  refine k_iconst K X0 at_1 (v := (1 : Int32)) rfl (q := 2) rfl ?_
  refine k_iand K X0 at_2 (q := 3) rfl ?_
  have J862 : ∀ (d861 : Int32), (if (p2 &&& (1 : Int32)) = (0 : Int32) then (0 : Int32) else (1 : Int32)) = d861 → Run p e below s kc kn Q T0 (mkF m 11 #[.val (.int p0), .val (.long q1), .second, .val (.int p2), .val (.int p3), .unset, .unset, .unset, .unset, .unset, .unset, .unset, .unset, .unset, .unset] [(.int d861)]) := by
    intro d861 hv_d861
    refine k_istore K X0 at_11 rfl (Ls' := #[.val (.int p0), .val (.long q1), .second, .val (.int p2), .val (.int p3), .val (.int d861), .unset, .unset, .unset, .unset, .unset, .unset, .unset, .unset, .unset]) rfl (q := 13) rfl ?_
    refine k_iloadN K X0 at_13 rfl (q := 14) rfl ?_
    refine k_iconst K X0 at_14 (v := (2 : Int32)) rfl (q := 15) rfl ?_
    refine k_iand K X0 at_15 (q := 16) rfl ?_
    have J865 : ∀ (d864 : Int32), (if (p2 &&& (2 : Int32)) = (0 : Int32) then (0 : Int32) else (1 : Int32)) = d864 → Run p e below s kc kn Q T0 (mkF m 24 #[.val (.int p0), .val (.long q1), .second, .val (.int p2), .val (.int p3), .val (.int d861), .unset, .unset, .unset, .unset, .unset, .unset, .unset, .unset, .unset] [(.int d864)]) := by
      intro d864 hv_d864
      refine k_istore K X0 at_24 rfl (Ls' := #[.val (.int p0), .val (.long q1), .second, .val (.int p2), .val (.int p3), .val (.int d861), .val (.int d864), .unset, .unset, .unset, .unset, .unset, .unset, .unset, .unset]) rfl (q := 26) rfl ?_
      refine k_iloadN K X0 at_26 rfl (q := 27) rfl ?_
      refine k_iconst K X0 at_27 (v := (4 : Int32)) rfl (q := 28) rfl ?_
      refine k_iand K X0 at_28 (q := 29) rfl ?_
      have J868 : ∀ (d867 : Int32), (if (p2 &&& (4 : Int32)) = (0 : Int32) then (0 : Int32) else (1 : Int32)) = d867 → Run p e below s kc kn Q T0 (mkF m 37 #[.val (.int p0), .val (.long q1), .second, .val (.int p2), .val (.int p3), .val (.int d861), .val (.int d864), .unset, .unset, .unset, .unset, .unset, .unset, .unset, .unset] [(.int d867)]) := by
        intro d867 hv_d867
        refine k_istore K X0 at_37 rfl (Ls' := #[.val (.int p0), .val (.long q1), .second, .val (.int p2), .val (.int p3), .val (.int d861), .val (.int d864), .val (.int d867), .unset, .unset, .unset, .unset, .unset, .unset, .unset]) rfl (q := 39) rfl ?_
        refine k_iloadN K X0 at_39 rfl (q := 40) rfl ?_
        refine k_bipush K X0 at_40 (v := (8 : Int32)) rfl (q := 42) rfl ?_
        refine k_iand K X0 at_42 (q := 43) rfl ?_
        have J871 : ∀ (d870 : Int32), (if (p2 &&& (8 : Int32)) = (0 : Int32) then (0 : Int32) else (1 : Int32)) = d870 → Run p e below s kc kn Q T0 (mkF m 51 #[.val (.int p0), .val (.long q1), .second, .val (.int p2), .val (.int p3), .val (.int d861), .val (.int d864), .val (.int d867), .unset, .unset, .unset, .unset, .unset, .unset, .unset] [(.int d870)]) := by
          intro d870 hv_d870
          refine k_istore K X0 at_51 rfl (Ls' := #[.val (.int p0), .val (.long q1), .second, .val (.int p2), .val (.int p3), .val (.int d861), .val (.int d864), .val (.int d867), .val (.int d870), .unset, .unset, .unset, .unset, .unset, .unset]) rfl (q := 53) rfl ?_
          refine k_iloadN K X0 at_53 rfl (q := 54) rfl ?_
          refine k_bipush K X0 at_54 (v := (16 : Int32)) rfl (q := 56) rfl ?_
          refine k_iand K X0 at_56 (q := 57) rfl ?_
          have J874 : ∀ (d873 : Int32), (if (p2 &&& (16 : Int32)) = (0 : Int32) then (0 : Int32) else (1 : Int32)) = d873 → Run p e below s kc kn Q T0 (mkF m 65 #[.val (.int p0), .val (.long q1), .second, .val (.int p2), .val (.int p3), .val (.int d861), .val (.int d864), .val (.int d867), .val (.int d870), .unset, .unset, .unset, .unset, .unset, .unset] [(.int d873)]) := by
            intro d873 hv_d873
            refine k_istore K X0 at_65 rfl (Ls' := #[.val (.int p0), .val (.long q1), .second, .val (.int p2), .val (.int p3), .val (.int d861), .val (.int d864), .val (.int d867), .val (.int d870), .val (.int d873), .unset, .unset, .unset, .unset, .unset]) rfl (q := 67) rfl ?_
            refine k_bipush K X0 at_67 (v := (61 : Int32)) rfl (q := 69) rfl ?_
            refine k_newarray K X0 e0 at_69 (ty := .byte) rfl (wd hw 0 rfl) (n := 61) (cap := 61) (by decide) (by decide) (by decide) (by decide) (by decide) (q := 71) rfl ?_
            intro T875 h876 b877 X878 e879 g880 E881 A882 
            have ge883 : n0 ≤ b877 := Nat.le_trans Z0 (Nat.le_of_eq g880.symm)
            have bn884 : h0.size ≤ b877 := Nat.le_trans K0.1 (Nat.le_of_eq g880.symm)
            have K885 := Keep.ext K0 E881
            have Z886 := Nat.le_trans Z0 E881.1
            have f887 : Ary Z h876 b877 .byte 61 (fun i => Value.int ((fun _ => (0 : Int32)) i)) := A882
            refine k_astore K X878 at_71 rfl (Ls' := #[.val (.int p0), .val (.long q1), .second, .val (.int p2), .val (.int p3), .val (.int d861), .val (.int d864), .val (.int d867), .val (.int d870), .val (.int d873), .val (.ref b877), .unset, .unset, .unset, .unset]) rfl (q := 73) rfl ?_
            refine k_aload K X878 at_73 rfl rfl (q := 75) rfl ?_
            refine k_iconst K X878 at_75 (v := (0 : Int32)) rfl (q := 76) rfl ?_
            refine k_iload K X878 at_76 rfl (q := 78) rfl ?_
            refine k_i2b K X878 at_78 (q := 79) rfl ?_
            obtain ⟨v888, hv_v888⟩ : ∃ z : Nat → Int32, (upd (fun _ => (0 : Int32)) 0 (nar .byte (i2b p3))) = z := ⟨_, rfl⟩
            refine k_bastore K X878 e879 at_79 f887 (i := 0) (by decide) (by decide) (q := 80) rfl ?_
            intro T889 h890 X891 e892 W893 A894
            have f895 : Ary Z h890 b877 .byte 61 (fun i => Value.int (v888 i)) := Ary.eqv A894 (fun k _ => by rw [← hv_v888]; show (if k = 0 then _ else _) = _; unfold upd; split <;> rfl)
            have N896 := Fr.snoc X891 N0 ge883
            have K897 := Keep.wr K885 W893 (Or.inr bn884)
            have Z898 := Nat.le_trans Z886 (Nat.le_of_eq (Wr.size W893).symm)
            refine k_aload K X891 at_80 rfl rfl (q := 82) rfl ?_
            refine k_bipush K X891 at_82 (v := (30 : Int32)) rfl (q := 84) rfl ?_
            refine k_iload K X891 at_84 rfl (q := 86) rfl ?_
            refine k_bipush K X891 at_86 (v := (16 : Int32)) rfl (q := 88) rfl ?_
            refine k_iushr K X891 at_88 (q := 89) rfl ?_
            refine k_i2b K X891 at_89 (q := 90) rfl ?_
            obtain ⟨v899, hv_v899⟩ : ∃ z : Nat → Int32, (upd v888 30 (nar .byte (i2b (ushrI p3 (16 : Int32))))) = z := ⟨_, rfl⟩
            refine k_bastore K X891 e892 at_90 f895 (i := 30) (by decide) (by decide) (q := 91) rfl ?_
            intro T900 h901 X902 e903 W904 A905
            have f906 : Ary Z h901 b877 .byte 61 (fun i => Value.int (v899 i)) := Ary.eqv A905 (fun k _ => by rw [← hv_v899]; show (if k = 30 then _ else _) = _; unfold upd; split <;> rfl)
            have N907 := Fr.snoc X902 N896 ge883
            have K908 := Keep.wr K897 W904 (Or.inr bn884)
            have Z909 := Nat.le_trans Z898 (Nat.le_of_eq (Wr.size W904).symm)
            refine k_aload K X902 at_91 rfl rfl (q := 93) rfl ?_
            refine k_bipush K X902 at_93 (v := (60 : Int32)) rfl (q := 95) rfl ?_
            refine k_iload K X902 at_95 rfl (q := 97) rfl ?_
            refine k_bipush K X902 at_97 (v := (8 : Int32)) rfl (q := 99) rfl ?_
            refine k_iushr K X902 at_99 (q := 100) rfl ?_
            refine k_i2b K X902 at_100 (q := 101) rfl ?_
            obtain ⟨v910, hv_v910⟩ : ∃ z : Nat → Int32, (upd v899 60 (nar .byte (i2b (ushrI p3 (8 : Int32))))) = z := ⟨_, rfl⟩
            refine k_bastore K X902 e903 at_101 f906 (i := 60) (by decide) (by decide) (q := 102) rfl ?_
            intro T911 h912 X913 e914 W915 A916
            have f917 : Ary Z h912 b877 .byte 61 (fun i => Value.int (v910 i)) := Ary.eqv A916 (fun k _ => by rw [← hv_v910]; show (if k = 60 then _ else _) = _; unfold upd; split <;> rfl)
            have N918 := Fr.snoc X913 N907 ge883
            have K919 := Keep.wr K908 W915 (Or.inr bn884)
            have Z920 := Nat.le_trans Z909 (Nat.le_of_eq (Wr.size W915).symm)
            refine k_new K X913 e914 at_102 (wd hw 1 rfl) (wd hw 2 rfl) (wd hw 3 rfl) (by decide) (by decide) (q := 105) rfl ?_
            intro T921 h922 b923 X924 e925 g926 E927 A928 D929
            have ne930 : b877 ≠ b923 := Nat.ne_of_lt (Nat.lt_of_lt_of_eq (f917).lt g926.symm)
            have ge931 : n0 ≤ b923 := Nat.le_trans Z920 (Nat.le_of_eq g926.symm)
            have bn932 : h0.size ≤ b923 := Nat.le_trans K919.1 (Nat.le_of_eq g926.symm)
            have f933 := Ary.ext f917 E927
            have K934 := Keep.ext K919 E927
            have Z935 := Nat.le_trans Z920 E927.1
            have f936 : Fld Z h922 b923 "com/example/snow_goose/snowgoose/WireWriter" "bytes" "[B" .null := D929 (Or.inl (wd hw 11 rfl)) (ty := (.array .byte)) (by decide)
            have f937 : Fld Z h922 b923 "com/example/snow_goose/snowgoose/WireWriter" "end" "I" (.int (0 : Int32)) := D929 (Or.inl (wd hw 13 rfl)) (ty := .int) (by decide)
            refine k_dup K X924 at_105 rfl (q := 106) rfl ?_
            refine k_special K X924 e925 at_106 rfl (wd hw 4 rfl) (wd hw 5 rfl) (wd hw 3 rfl) (wd hw 6 rfl) (by decide) (rm1 l Z az hw [] b923 .null (0 : Int32) h922 n0 Z935 A928 f936 ge931 f937) (W := 1) (by decide) (by decide) (by decide) (by decide) rfl pd_7 (argsL := []) (rest := [(.ref b923)]) rfl rfl rfl (Nat.le_of_eq rfl) (q := 109) rfl ?_
            rintro _ T938 L939 X940 ⟨b946, ge947, bn948, rfl, N941, K942, f944, f945, f949⟩
            have ne950 : b877 ≠ b946 := Nat.ne_of_lt (Nat.lt_of_lt_of_le (f933).lt bn948)
            have ne951 : b923 ≠ b946 := Nat.ne_of_lt (Nat.lt_of_lt_of_le (A928).lt bn948)
            have bn952 : h0.size ≤ b946 := Nat.le_trans K934.1 bn948
            have f953 := Ary.keep f933 K942 (ninS ne930 nin0)
            have f954 := Exa.keep A928 K942
            have N955 := Fr.app N918 N941
            have K956 := Keep.trans K934 K942 (allS (Or.inr bn932) all0)
            have Z957 := Nat.le_trans Z935 K942.1
            refine k_astore K X940 at_109 rfl (Ls' := #[.val (.int p0), .val (.long q1), .second, .val (.int p2), .val (.int p3), .val (.int d861), .val (.int d864), .val (.int d867), .val (.int d870), .val (.int d873), .val (.ref b877), .val (.ref b923), .unset, .unset, .unset]) rfl (q := 111) rfl ?_
            refine k_iload K X940 at_111 rfl (q := 113) rfl ?_
            have J980 : ∀ (T981 : State) (h984 : Heap) (Lc988 : List Loc) (d973 : Int32) (d974 : Nat → Int32), Stand p l e room_1 s m #[(.int p0), (.long q1), (.int p2), (.int p3)] below meth c T981 Lc988 3 127 → Fr n0 Lc988 → T981.heap = h984 → Keep h0 h984 [] → n0 ≤ h984.size → Ary Z h984 b877 .byte 61 (fun i => Value.int (v910 i)) → Exa Z h984 b923 "com/example/snow_goose/snowgoose/WireWriter" → Fld Z h984 b923 "com/example/snow_goose/snowgoose/WireWriter" "bytes" "[B" (.ref b946) → Fld Z h984 b923 "com/example/snow_goose/snowgoose/WireWriter" "end" "I" (.int d973) → Ary Z h984 b946 .byte 64 (fun i => Value.int (d974 i)) → (if d861 = (0 : Int32) then (4 : Int32) else (F_writeInt_a0_end p0 (fun _ => (0 : Int32)) (4 : Int32))) = d973 → (if d861 = (0 : Int32) then (fun _ => (0 : Int32)) else (F_writeInt_w_a0_bytes_g p0 (fun _ => (0 : Int32)) (4 : Int32))) = d974 → Run p e below s kc kn Q T981 (mkF m 123 #[.val (.int p0), .val (.long q1), .second, .val (.int p2), .val (.int p3), .val (.int d861), .val (.int d864), .val (.int d867), .val (.int d870), .val (.int d873), .val (.ref b877), .val (.ref b923), .unset, .unset, .unset] []) := by
              intro T981 h984 Lc988 d973 d974 X982 N985 e983 K986 Z987 f975 f976 f977 f978 f979 hv_d973 hv_d974
              refine k_iload K X982 at_123 rfl (q := 125) rfl ?_
              have J1011 : ∀ (T1012 : State) (h1015 : Heap) (Lc1019 : List Loc) (d1004 : Int32) (d1005 : Nat → Int32), Stand p l e room_1 s m #[(.int p0), (.long q1), (.int p2), (.int p3)] below meth c T1012 Lc1019 3 127 → Fr n0 Lc1019 → T1012.heap = h1015 → Keep h0 h1015 [] → n0 ≤ h1015.size → Ary Z h1015 b877 .byte 61 (fun i => Value.int (v910 i)) → Exa Z h1015 b923 "com/example/snow_goose/snowgoose/WireWriter" → Fld Z h1015 b923 "com/example/snow_goose/snowgoose/WireWriter" "bytes" "[B" (.ref b946) → Fld Z h1015 b923 "com/example/snow_goose/snowgoose/WireWriter" "end" "I" (.int d1004) → Ary Z h1015 b946 .byte 64 (fun i => Value.int (d1005 i)) → (if d864 = (0 : Int32) then d973 else (F_writeLong_a0_end q1 d974 d973)) = d1004 → (if d864 = (0 : Int32) then d974 else (F_writeLong_w_a0_bytes_g q1 d974 d973)) = d1005 → Run p e below s kc kn Q T1012 (mkF m 135 #[.val (.int p0), .val (.long q1), .second, .val (.int p2), .val (.int p3), .val (.int d861), .val (.int d864), .val (.int d867), .val (.int d870), .val (.int d873), .val (.ref b877), .val (.ref b923), .unset, .unset, .unset] []) := by
                intro T1012 h1015 Lc1019 d1004 d1005 X1013 N1016 e1014 K1017 Z1018 f1006 f1007 f1008 f1009 f1010 hv_d1004 hv_d1005
                refine k_iload K X1013 at_135 rfl (q := 137) rfl ?_
                have J1042 : ∀ (T1043 : State) (h1046 : Heap) (Lc1050 : List Loc) (d1035 : Int32) (d1036 : Nat → Int32), Stand p l e room_1 s m #[(.int p0), (.long q1), (.int p2), (.int p3)] below meth c T1043 Lc1050 3 127 → Fr n0 Lc1050 → T1043.heap = h1046 → Keep h0 h1046 [] → n0 ≤ h1046.size → Ary Z h1046 b877 .byte 61 (fun i => Value.int (v910 i)) → Exa Z h1046 b923 "com/example/snow_goose/snowgoose/WireWriter" → Fld Z h1046 b923 "com/example/snow_goose/snowgoose/WireWriter" "bytes" "[B" (.ref b946) → Fld Z h1046 b923 "com/example/snow_goose/snowgoose/WireWriter" "end" "I" (.int d1035) → Ary Z h1046 b946 .byte 64 (fun i => Value.int (d1036 i)) → (if d867 = (0 : Int32) then d1004 else (F_writeBoolean_a0_end d870 d1005 d1004)) = d1035 → (if d867 = (0 : Int32) then d1005 else (F_writeBoolean_w_a0_bytes_g d870 d1005 d1004)) = d1036 → Run p e below s kc kn Q T1043 (mkF m 148 #[.val (.int p0), .val (.long q1), .second, .val (.int p2), .val (.int p3), .val (.int d861), .val (.int d864), .val (.int d867), .val (.int d870), .val (.int d873), .val (.ref b877), .val (.ref b923), .unset, .unset, .unset] []) := by
                  intro T1043 h1046 Lc1050 d1035 d1036 X1044 N1047 e1045 K1048 Z1049 f1037 f1038 f1039 f1040 f1041 hv_d1035 hv_d1036
                  refine k_iload K X1044 at_148 rfl (q := 150) rfl ?_
                  refine k_if_eq K X1044 at_150 (by decide) (q := 161) rfl (q' := 153) rfl ?_ ?_
                  · intro hc1051
                    refine k_aload K X1044 at_161 rfl rfl (q := 163) rfl ?_
                    refine k_virtual K X1044 e1045 at_163 (wd hw 23 rfl) (wd hw 24 rfl) (wd hw 26 rfl) (wd hw 25 rfl) (wd hw 3 rfl) (wd hw 27 rfl) (by decide) f1038 (rm5 l Z az hw [] b923 b946 d1035 64 d1036 h1046 n0 Z1049 f1039 f1040 f1041 (own_ob_4 p0 q1 p2 p3 d861 d864 d867 d870 d873 d973 d974 d1004 d1005 d1035 hv_d861 hv_d864 hv_d867 hv_d870 hv_d873 hv_d973 hv_d974 hv_d1004 hv_d1005 hv_d1035 hc1051)) (W := 0) (by decide) (by decide) (by decide) (by decide) rfl pd_10 (argsL := []) (rest := []) rfl rfl rfl (Nat.le_of_eq rfl) (q := 166) rfl ?_
                    rintro _ T1052 L1053 X1054 ⟨b1058, ge1059, bn1060, rfl, N1055, K1056, f1061⟩
                    have ne1062 : b877 ≠ b1058 := Nat.ne_of_lt (Nat.lt_of_lt_of_le (f1037).lt bn1060)
                    have ne1063 : b923 ≠ b1058 := Nat.ne_of_lt (Nat.lt_of_lt_of_le (f1038).lt bn1060)
                    have ne1064 : b946 ≠ b1058 := Nat.ne_of_lt (Nat.lt_of_lt_of_le (f1041).lt bn1060)
                    have bn1065 : h0.size ≤ b1058 := Nat.le_trans K1048.1 bn1060
                    have f1066 := Exa.keep f1038 K1056
                    have f1067 := Fld.keep f1039 K1056 nin0
                    have f1068 := Fld.keep f1040 K1056 nin0
                    have f1069 := Ary.keep f1041 K1056 nin0
                    have N1070 := Fr.app N1047 N1055
                    have K1071 := Keep.trans K1048 K1056 all0
                    have Z1072 := Nat.le_trans Z1049 K1056.1
                    refine k_astore K X1054 at_166 rfl (Ls' := #[.val (.int p0), .val (.long q1), .second, .val (.int p2), .val (.int p3), .val (.int d861), .val (.int d864), .val (.int d867), .val (.int d870), .val (.int d873), .val (.ref b877), .val (.ref b923), .val (.ref b1058), .unset, .unset]) rfl (q := 168) rfl ?_
                    refine k_iload K X1054 at_168 rfl (q := 170) rfl ?_
                    have J1075 : ∀ (d1074 : Int32), (if d861 = (0 : Int32) then (0 : Int32) else (4 : Int32)) = d1074 → Run p e below s kc kn Q T1052 (mkF m 178 #[.val (.int p0), .val (.long q1), .second, .val (.int p2), .val (.int p3), .val (.int d861), .val (.int d864), .val (.int d867), .val (.int d870), .val (.int d873), .val (.ref b877), .val (.ref b923), .val (.ref b1058), .unset, .unset] [(.int d1074)]) := by
                      intro d1074 hv_d1074
                      refine k_iload K X1054 at_178 rfl (q := 180) rfl ?_
                      have J1078 : ∀ (d1077 : Int32), (if d864 = (0 : Int32) then (0 : Int32) else (8 : Int32)) = d1077 → Run p e below s kc kn Q T1052 (mkF m 189 #[.val (.int p0), .val (.long q1), .second, .val (.int p2), .val (.int p3), .val (.int d861), .val (.int d864), .val (.int d867), .val (.int d870), .val (.int d873), .val (.ref b877), .val (.ref b923), .val (.ref b1058), .unset, .unset] [(.int d1077), (.int d1074)]) := by
                        intro d1077 hv_d1077
                        refine k_iadd K X1054 at_189 (q := 190) rfl ?_
                        refine k_iload K X1054 at_190 rfl (q := 192) rfl ?_
                        have J1081 : ∀ (d1080 : Int32), (if d867 = (0 : Int32) then (0 : Int32) else (1 : Int32)) = d1080 → Run p e below s kc kn Q T1052 (mkF m 200 #[.val (.int p0), .val (.long q1), .second, .val (.int p2), .val (.int p3), .val (.int d861), .val (.int d864), .val (.int d867), .val (.int d870), .val (.int d873), .val (.ref b877), .val (.ref b923), .val (.ref b1058), .unset, .unset] [(.int d1080), (.int (d1074 + d1077))]) := by
                          intro d1080 hv_d1080
                          refine k_iadd K X1054 at_200 (q := 201) rfl ?_
                          refine k_iload K X1054 at_201 rfl (q := 203) rfl ?_
                          refine k_if_eq_y K X1054 at_203 hc1051 (by decide) (q := 211) rfl ?_
                          refine k_iconst K X1054 at_211 (v := (0 : Int32)) rfl (q := 212) rfl ?_
                          refine k_iadd K X1054 at_212 (q := 213) rfl ?_
                          obtain ⟨v1082, hv_v1082⟩ : ∃ z : Int32, (((d1074 + d1077) + d1080) + (0 : Int32)) = z := ⟨_, rfl⟩
                          refine k_istore K X1054 at_213 hv_v1082 (Ls' := #[.val (.int p0), .val (.long q1), .second, .val (.int p2), .val (.int p3), .val (.int d861), .val (.int d864), .val (.int d867), .val (.int d870), .val (.int d873), .val (.ref b877), .val (.ref b923), .val (.ref b1058), .val (.int v1082), .unset]) rfl (q := 215) rfl ?_
                          refine k_aload K X1054 at_215 rfl rfl (q := 217) rfl ?_
                          refine k_ifnull_n K X1054 at_217 (q := 220) rfl ?_
                          refine k_aload K X1054 at_220 rfl rfl (q := 222) rfl ?_
                          refine k_arraylength K X1054 rfl at_222 f1061 (v := (Nat.toInt32 (Int32.toNatClampNeg (d1035 - (4 : Int32))))) rfl (q := 223) rfl ?_
                          refine k_iload K X1054 at_223 rfl (q := 225) rfl ?_
                          refine k_icmp_eq_y K X1054 at_225 (own_ob_5 p0 q1 p2 p3 d861 d864 d867 d870 d873 d973 d974 d1004 d1005 d1035 d1074 d1077 d1080 v1082 hv_d861 hv_d864 hv_d867 hv_d870 hv_d873 hv_d973 hv_d974 hv_d1004 hv_d1005 hv_d1035 hv_d1074 hv_d1077 hv_d1080 hv_v1082 hc1051) (by decide) (q := 230) rfl ?_
                          refine k_iconst K X1054 at_230 (v := (0 : Int32)) rfl (q := 231) rfl ?_
                          refine k_istore K X1054 at_231 rfl (Ls' := #[.val (.int p0), .val (.long q1), .second, .val (.int p2), .val (.int p3), .val (.int d861), .val (.int d864), .val (.int d867), .val (.int d870), .val (.int d873), .val (.ref b877), .val (.ref b923), .val (.ref b1058), .val (.int v1082), .val (.int (0 : Int32))]) rfl (q := 233) rfl ?_
                          refine k_iload K X1054 at_233 rfl (q := 235) rfl ?_
                          have J1088 : ∀ (T1089 : State) (Lc1092 : List Loc) (d1087 : Int32), Stand p l e room_1 s m #[(.int p0), (.long q1), (.int p2), (.int p3)] below meth c T1089 Lc1092 4 201 → Fr n0 Lc1092 → T1089.heap = T1052.heap → (if d861 = (0 : Int32) then (0 : Int32) else (4 : Int32)) = d1087 → Run p e below s kc kn Q T1089 (mkF m 257 #[.val (.int p0), .val (.long q1), .second, .val (.int p2), .val (.int p3), .val (.int d861), .val (.int d864), .val (.int d867), .val (.int d870), .val (.int d873), .val (.ref b877), .val (.ref b923), .val (.ref b1058), .val (.int v1082), .val (.int d1087)] []) := by
                            intro T1089 Lc1092 d1087 X1090 N1093 e1091 hv_d1087
                            refine k_iload K X1090 at_257 rfl (q := 259) rfl ?_
                            have J1102 : ∀ (T1103 : State) (Lc1106 : List Loc) (d1101 : Int32), Stand p l e room_1 s m #[(.int p0), (.long q1), (.int p2), (.int p3)] below meth c T1103 Lc1106 4 201 → Fr n0 Lc1106 → T1103.heap = T1052.heap → (if d864 = (0 : Int32) then d1087 else (d1087 + (8 : Int32))) = d1101 → Run p e below s kc kn Q T1103 (mkF m 300 #[.val (.int p0), .val (.long q1), .second, .val (.int p2), .val (.int p3), .val (.int d861), .val (.int d864), .val (.int d867), .val (.int d870), .val (.int d873), .val (.ref b877), .val (.ref b923), .val (.ref b1058), .val (.int v1082), .val (.int d1101)] []) := by
                              intro T1103 Lc1106 d1101 X1104 N1107 e1105 hv_d1101
                              refine k_iload K X1104 at_300 rfl (q := 302) rfl ?_
                              have J1112 : ∀ (d1111 : Int32), (if d867 = (0 : Int32) then d1101 else (d1101 + (1 : Int32))) = d1111 → Run p e below s kc kn Q T1103 (mkF m 332 #[.val (.int p0), .val (.long q1), .second, .val (.int p2), .val (.int p3), .val (.int d861), .val (.int d864), .val (.int d867), .val (.int d870), .val (.int d873), .val (.ref b877), .val (.ref b923), .val (.ref b1058), .val (.int v1082), .val (.int d1111)] []) := by
                                intro d1111 hv_d1111
                                refine k_iload K X1104 at_332 rfl (q := 334) rfl ?_
                                refine k_if_eq_y K X1104 at_334 hc1051 (by decide) (q := 405) rfl ?_
                                refine k_iconst K X1104 at_405 (v := (1 : Int32)) rfl (q := 406) rfl ?_
                                exact k_retz K X1104 e1105 at_406 (Nat.le_trans (by decide) hkc) (Nat.le_trans (by decide) hkn) (hQ _ _ _ ⟨(by show some (Value.int (1 : Int32)) = some (Value.int (F_law p0 q1 p2 p3)); first | (simp only [F_law, hv_d861, hv_d864, hv_d867, hv_d870, hv_d873, hv_v888, hv_v899, hv_v910, hv_d973, hv_d974, hv_d1004, hv_d1005, hv_d1035, hv_d1036, hv_d1074, hv_d1077, hv_d1080, hv_v1082, hv_d1087, hv_d1101, hv_d1111, if_pos hc1051]; done) | (subst hv_d861; subst hv_d864; subst hv_d867; subst hv_d870; subst hv_d873; subst hv_v888; subst hv_v899; subst hv_v910; subst hv_d973; subst hv_d974; subst hv_d1004; subst hv_d1005; subst hv_d1035; subst hv_d1036; subst hv_d1074; subst hv_d1077; subst hv_d1080; subst hv_v1082; subst hv_d1087; subst hv_d1101; subst hv_d1111; simp only [F_law, if_pos hc1051])), N1107⟩)
                              refine k_if_eq K X1104 at_302 (by decide) (q := 332) rfl (q' := 305) rfl ?_ ?_
                              · intro hc1113
                                exact J1112 _ (by first | (simp only [if_pos hc1113]; done) | rfl)
                              · intro hc1113
                                refine k_aload K X1104 at_305 rfl rfl (q := 307) rfl ?_
                                refine k_iload K X1104 at_307 rfl (q := 309) rfl ?_
                                refine k_baload K X1104 e1105 at_309 f1061 (i := (Int32.toNatClampNeg d1101)) (v := (.int ((F_copyOfRangeByte_new0_g d1035 64 d1036) (Int32.toNatClampNeg d1101)))) ⟨((own_ob_12 p0 q1 p2 p3 d861 d864 d867 d870 d873 d973 d974 d1004 d1005 d1035 d1087 d1101 hv_d861 hv_d864 hv_d867 hv_d870 hv_d873 hv_d973 hv_d974 hv_d1004 hv_d1005 hv_d1035 hv_d1087 hv_d1101 hc1051 hc1113)).1, rfl⟩ ((own_ob_12 p0 q1 p2 p3 d861 d864 d867 d870 d873 d973 d974 d1004 d1005 d1035 d1087 d1101 hv_d861 hv_d864 hv_d867 hv_d870 hv_d873 hv_d973 hv_d974 hv_d1004 hv_d1005 hv_d1035 hv_d1087 hv_d1101 hc1051 hc1113)).2 rfl (q := 310) rfl ?_
                                refine k_iload K X1104 at_310 rfl (q := 312) rfl ?_
                                have J1116 : ∀ (d1115 : Int32), (if d870 = (0 : Int32) then (0 : Int32) else (1 : Int32)) = d1115 → Run p e below s kc kn Q T1103 (mkF m 320 #[.val (.int p0), .val (.long q1), .second, .val (.int p2), .val (.int p3), .val (.int d861), .val (.int d864), .val (.int d867), .val (.int d870), .val (.int d873), .val (.ref b877), .val (.ref b923), .val (.ref b1058), .val (.int v1082), .val (.int d1101)] [(.int d1115), (.int ((F_copyOfRangeByte_new0_g d1035 64 d1036) (Int32.toNatClampNeg d1101)))]) := by
                                  intro d1115 hv_d1115
                                  refine k_i2b K X1104 at_320 (q := 321) rfl ?_
                                  refine k_icmp_eq_y K X1104 at_321 (own_ob_14 p0 q1 p2 p3 d861 d864 d867 d870 d873 d973 d974 d1004 d1005 d1035 d1036 d1087 d1101 d1115 hv_d861 hv_d864 hv_d867 hv_d870 hv_d873 hv_d973 hv_d974 hv_d1004 hv_d1005 hv_d1035 hv_d1036 hv_d1087 hv_d1101 hv_d1115 hc1051 hc1113) (by decide) (q := 326) rfl ?_
                                  refine k_iload K X1104 at_326 rfl (q := 328) rfl ?_
                                  refine k_iconst K X1104 at_328 (v := (1 : Int32)) rfl (q := 329) rfl ?_
                                  refine k_iadd K X1104 at_329 (q := 330) rfl ?_
                                  refine k_istore K X1104 at_330 rfl (Ls' := #[.val (.int p0), .val (.long q1), .second, .val (.int p2), .val (.int p3), .val (.int d861), .val (.int d864), .val (.int d867), .val (.int d870), .val (.int d873), .val (.ref b877), .val (.ref b923), .val (.ref b1058), .val (.int v1082), .val (.int (d1101 + (1 : Int32)))]) rfl (q := 332) rfl ?_
                                  exact J1112 _ (by subst hv_d1115; first | (simp only [if_neg hc1113]; done) | rfl)
                                refine k_if_eq K X1104 at_312 (by decide) (q := 319) rfl (q' := 315) rfl ?_ ?_
                                · intro hc1117
                                  refine k_iconst K X1104 at_319 (v := (0 : Int32)) rfl (q := 320) rfl ?_
                                  exact J1116 _ (by first | (simp only [if_pos hc1117]; done) | rfl)
                                · intro hc1117
                                  refine k_iconst K X1104 at_315 (v := (1 : Int32)) rfl (q := 316) rfl ?_
                                  refine k_goto K X1104 at_316 (by decide) (q := 320) rfl ?_
                                  exact J1116 _ (by first | (simp only [if_neg hc1117]; done) | rfl)
                            refine k_if_eq K X1090 at_259 (by decide) (q := 300) rfl (q' := 262) rfl ?_ ?_
                            · intro hc1118
                              exact J1102 T1089 _ _ X1090 N1093 e1091 (by first | (simp only [if_pos hc1118]; done) | rfl)
                            · intro hc1118
                              refine k_aload K X1090 at_262 rfl rfl (q := 264) rfl ?_
                              refine k_iload K X1090 at_264 rfl (q := 266) rfl ?_
                              refine k_lloadN K X1090 at_266 rfl (q := 267) rfl ?_
                              refine k_bipush K X1090 at_267 (v := (32 : Int32)) rfl (q := 269) rfl ?_
                              refine k_lushr K X1090 at_269 (q := 270) rfl ?_
                              refine k_l2i K X1090 at_270 (q := 271) rfl ?_
                              refine k_staticP K X1090 e1091 at_271 (wd hw 46 rfl) (wd hw 47 rfl) (wd hw 48 rfl) (wd hw 49 rfl) (by decide) (rm10 l Z az hw [] b1058 d1087 (Int64.toInt32 (ushrL q1 (32 : Int32))) (Int32.toNatClampNeg (d1035 - (4 : Int32))) (F_copyOfRangeByte_new0_g d1035 64 d1036) T1052.heap f1061 (own_ob_8 p0 q1 p2 p3 d861 d864 d867 d870 d873 d973 d974 d1004 d1005 d1035 d1087 hv_d861 hv_d864 hv_d867 hv_d870 hv_d873 hv_d973 hv_d974 hv_d1004 hv_d1005 hv_d1035 hv_d1087 hc1051 hc1118)) (W := 0) (by decide) (by decide) (by decide) (by decide) rfl pd_11 (argsL := [(.ref b1058), (.int d1087), (.int (Int64.toInt32 (ushrL q1 (32 : Int32))))]) (rest := []) rfl rfl rfl (Nat.le_of_eq rfl) (q := 274) rfl ?_
                              intro T1119 X1120 e1121
                              refine k_if_eq_n K X1120 at_274 (own_ob_9 p0 q1 p2 p3 d861 d864 d867 d870 d873 d973 d974 d1004 d1005 d1035 d1036 d1087 hv_d861 hv_d864 hv_d867 hv_d870 hv_d873 hv_d973 hv_d974 hv_d1004 hv_d1005 hv_d1035 hv_d1036 hv_d1087 hc1051 hc1118) (q := 277) rfl ?_
                              refine k_aload K X1120 at_277 rfl rfl (q := 279) rfl ?_
                              refine k_iload K X1120 at_279 rfl (q := 281) rfl ?_
                              refine k_iconst K X1120 at_281 (v := (4 : Int32)) rfl (q := 282) rfl ?_
                              refine k_iadd K X1120 at_282 (q := 283) rfl ?_
                              refine k_lloadN K X1120 at_283 rfl (q := 284) rfl ?_
                              refine k_l2i K X1120 at_284 (q := 285) rfl ?_
                              refine k_staticP K X1120 e1121 at_285 (wd hw 46 rfl) (wd hw 47 rfl) (wd hw 48 rfl) (wd hw 49 rfl) (by decide) (rm10 l Z az hw [] b1058 (d1087 + (4 : Int32)) (Int64.toInt32 q1) (Int32.toNatClampNeg (d1035 - (4 : Int32))) (F_copyOfRangeByte_new0_g d1035 64 d1036) T1052.heap f1061 (own_ob_10 p0 q1 p2 p3 d861 d864 d867 d870 d873 d973 d974 d1004 d1005 d1035 d1087 hv_d861 hv_d864 hv_d867 hv_d870 hv_d873 hv_d973 hv_d974 hv_d1004 hv_d1005 hv_d1035 hv_d1087 hc1051 hc1118)) (W := 0) (by decide) (by decide) (by decide) (by decide) rfl pd_11 (argsL := [(.ref b1058), (.int (d1087 + (4 : Int32))), (.int (Int64.toInt32 q1))]) (rest := []) rfl rfl rfl (Nat.le_of_eq rfl) (q := 288) rfl ?_
                              intro T1122 X1123 e1124
                              refine k_if_ne_y K X1123 at_288 (own_ob_11 p0 q1 p2 p3 d861 d864 d867 d870 d873 d973 d974 d1004 d1005 d1035 d1036 d1087 hv_d861 hv_d864 hv_d867 hv_d870 hv_d873 hv_d973 hv_d974 hv_d1004 hv_d1005 hv_d1035 hv_d1036 hv_d1087 hc1051 hc1118) (by decide) (q := 293) rfl ?_
                              refine k_iload K X1123 at_293 rfl (q := 295) rfl ?_
                              refine k_bipush K X1123 at_295 (v := (8 : Int32)) rfl (q := 297) rfl ?_
                              refine k_iadd K X1123 at_297 (q := 298) rfl ?_
                              refine k_istore K X1123 at_298 rfl (Ls' := #[.val (.int p0), .val (.long q1), .second, .val (.int p2), .val (.int p3), .val (.int d861), .val (.int d864), .val (.int d867), .val (.int d870), .val (.int d873), .val (.ref b877), .val (.ref b923), .val (.ref b1058), .val (.int v1082), .val (.int (d1087 + (8 : Int32)))]) rfl (q := 300) rfl ?_
                              exact J1102 T1122 _ _ X1123 N1093 e1124 (by first | (simp only [if_neg hc1118]; done) | rfl)
                          refine k_if_eq K X1054 at_235 (by decide) (q := 257) rfl (q' := 238) rfl ?_ ?_
                          · intro hc1125
                            exact J1088 T1052 _ _ X1054 N1070 rfl (by first | (simp only [if_pos hc1125]; done) | rfl)
                          · intro hc1125
                            refine k_aload K X1054 at_238 rfl rfl (q := 240) rfl ?_
                            refine k_iload K X1054 at_240 rfl (q := 242) rfl ?_
                            refine k_iloadN K X1054 at_242 rfl (q := 243) rfl ?_
                            refine k_staticP K X1054 rfl at_243 (wd hw 46 rfl) (wd hw 47 rfl) (wd hw 48 rfl) (wd hw 49 rfl) (by decide) (rm10 l Z az hw [] b1058 (0 : Int32) p0 (Int32.toNatClampNeg (d1035 - (4 : Int32))) (F_copyOfRangeByte_new0_g d1035 64 d1036) T1052.heap f1061 (own_ob_6 p0 q1 p2 p3 d861 d864 d867 d870 d873 d973 d974 d1004 d1005 d1035 hv_d861 hv_d864 hv_d867 hv_d870 hv_d873 hv_d973 hv_d974 hv_d1004 hv_d1005 hv_d1035 hc1051 hc1125)) (W := 0) (by decide) (by decide) (by decide) (by decide) rfl pd_11 (argsL := [(.ref b1058), (.int (0 : Int32)), (.int p0)]) (rest := []) rfl rfl rfl (Nat.le_of_eq rfl) (q := 246) rfl ?_
                            intro T1126 X1127 e1128
                            refine k_if_ne_y K X1127 at_246 (own_ob_7 p0 q1 p2 p3 d861 d864 d867 d870 d873 d973 d974 d1004 d1005 d1035 d1036 hv_d861 hv_d864 hv_d867 hv_d870 hv_d873 hv_d973 hv_d974 hv_d1004 hv_d1005 hv_d1035 hv_d1036 hc1051 hc1125) (by decide) (q := 251) rfl ?_
                            refine k_iload K X1127 at_251 rfl (q := 253) rfl ?_
                            refine k_iconst K X1127 at_253 (v := (4 : Int32)) rfl (q := 254) rfl ?_
                            refine k_iadd K X1127 at_254 (q := 255) rfl ?_
                            refine k_nameI (v := (4 : Int32)) (by decide) ?_
                            refine k_istore K X1127 at_255 rfl (Ls' := #[.val (.int p0), .val (.long q1), .second, .val (.int p2), .val (.int p3), .val (.int d861), .val (.int d864), .val (.int d867), .val (.int d870), .val (.int d873), .val (.ref b877), .val (.ref b923), .val (.ref b1058), .val (.int v1082), .val (.int (4 : Int32))]) rfl (q := 257) rfl ?_
                            exact J1088 T1126 _ _ X1127 N1070 e1128 (by first | (simp only [if_neg hc1125]; done) | rfl)
                        refine k_if_eq K X1054 at_192 (by decide) (q := 199) rfl (q' := 195) rfl ?_ ?_
                        · intro hc1129
                          refine k_iconst K X1054 at_199 (v := (0 : Int32)) rfl (q := 200) rfl ?_
                          exact J1081 _ (by first | (simp only [if_pos hc1129]; done) | rfl)
                        · intro hc1129
                          refine k_iconst K X1054 at_195 (v := (1 : Int32)) rfl (q := 196) rfl ?_
                          refine k_goto K X1054 at_196 (by decide) (q := 200) rfl ?_
                          exact J1081 _ (by first | (simp only [if_neg hc1129]; done) | rfl)
                      refine k_if_eq K X1054 at_180 (by decide) (q := 188) rfl (q' := 183) rfl ?_ ?_
                      · intro hc1130
                        refine k_iconst K X1054 at_188 (v := (0 : Int32)) rfl (q := 189) rfl ?_
                        exact J1078 _ (by first | (simp only [if_pos hc1130]; done) | rfl)
                      · intro hc1130
                        refine k_bipush K X1054 at_183 (v := (8 : Int32)) rfl (q := 185) rfl ?_
                        refine k_goto K X1054 at_185 (by decide) (q := 189) rfl ?_
                        exact J1078 _ (by first | (simp only [if_neg hc1130]; done) | rfl)
                    refine k_if_eq K X1054 at_170 (by decide) (q := 177) rfl (q' := 173) rfl ?_ ?_
                    · intro hc1131
                      refine k_iconst K X1054 at_177 (v := (0 : Int32)) rfl (q := 178) rfl ?_
                      exact J1075 _ (by first | (simp only [if_pos hc1131]; done) | rfl)
                    · intro hc1131
                      refine k_iconst K X1054 at_173 (v := (4 : Int32)) rfl (q := 174) rfl ?_
                      refine k_goto K X1054 at_174 (by decide) (q := 178) rfl ?_
                      exact J1075 _ (by first | (simp only [if_neg hc1131]; done) | rfl)
                  · intro hc1051
                    refine k_aload K X1044 at_153 rfl rfl (q := 155) rfl ?_
                    refine k_aload K X1044 at_155 rfl rfl (q := 157) rfl ?_
                    refine k_virtual K X1044 e1045 at_157 (wd hw 61 rfl) (wd hw 62 rfl) (wd hw 64 rfl) (wd hw 63 rfl) (wd hw 3 rfl) (wd hw 65 rfl) (by decide) f1038 (rm13 l Z az hw [] b923 b877 v910 b946 d1036 d1035 h1046 n0 Z1049 f1037 f1039 f1041 f1040 f1038 ge931 (Ne.symm ne951) ne930 (own_ob_15 p0 q1 p2 p3 d861 d864 d867 d870 d873 d973 d974 d1004 d1005 d1035 hv_d861 hv_d864 hv_d867 hv_d870 hv_d873 hv_d973 hv_d974 hv_d1004 hv_d1005 hv_d1035 hc1051)) (W := 0) (by decide) (by decide) (by decide) (by decide) rfl pd_12 (argsL := [(.ref b877)]) (rest := []) rfl rfl rfl (Nat.le_of_eq rfl) (q := 160) rfl ?_
                    rintro _ T1132 L1133 X1134 ⟨b1140, ge1141, bn1142, rfl, N1135, K1136, f1138, f1139, f1143⟩
                    have ne1144 : b877 ≠ b1140 := Nat.ne_of_lt (Nat.lt_of_lt_of_le (f1037).lt bn1142)
                    have ne1145 : b923 ≠ b1140 := Nat.ne_of_lt (Nat.lt_of_lt_of_le (f1038).lt bn1142)
                    have ne1146 : b946 ≠ b1140 := Nat.ne_of_lt (Nat.lt_of_lt_of_le (f1041).lt bn1142)
                    have bn1147 : h0.size ≤ b1140 := Nat.le_trans K1048.1 bn1142
                    have f1148 := Ary.keep f1037 K1136 (ninS ne930 nin0)
                    have f1149 := Exa.keep f1038 K1136
                    have f1150 := Ary.keep f1041 K1136 (ninS (Ne.symm ne951) nin0)
                    have N1151 := Fr.app N1047 N1135
                    have K1152 := Keep.trans K1048 K1136 (allS (Or.inr bn932) all0)
                    have Z1153 := Nat.le_trans Z1049 K1136.1
                    obtain ⟨v1154, hv_v1154⟩ : ∃ z : Int32, (F_writeRaw_a0_end v910 d1036 d1035) = z := ⟨_, rfl⟩
                    rw [hv_v1154] at f1139
                    refine k_pop K X1134 at_160 rfl (q := 161) rfl ?_
                    refine k_aload K X1134 at_161 rfl rfl (q := 163) rfl ?_
                    refine k_virtual K X1134 rfl at_163 (wd hw 23 rfl) (wd hw 24 rfl) (wd hw 26 rfl) (wd hw 25 rfl) (wd hw 3 rfl) (wd hw 27 rfl) (by decide) f1149 (rm5 l Z az hw [] b923 b1140 v1154 128 (F_writeRaw_new0_g v910 d1036 d1035) T1132.heap n0 Z1153 f1138 f1139 f1143 (own_ob_16 p0 q1 p2 p3 d861 d864 d867 d870 d873 v888 v899 v910 d973 d974 d1004 d1005 d1035 d1036 v1154 hv_d861 hv_d864 hv_d867 hv_d870 hv_d873 hv_v888 hv_v899 hv_v910 hv_d973 hv_d974 hv_d1004 hv_d1005 hv_d1035 hv_d1036 hv_v1154 hc1051)) (W := 0) (by decide) (by decide) (by decide) (by decide) rfl pd_10 (argsL := []) (rest := []) rfl rfl rfl (Nat.le_of_eq rfl) (q := 166) rfl ?_
                    rintro _ T1155 L1156 X1157 ⟨b1161, ge1162, bn1163, rfl, N1158, K1159, f1164⟩
                    have ne1165 : b877 ≠ b1161 := Nat.ne_of_lt (Nat.lt_of_lt_of_le (f1148).lt bn1163)
                    have ne1166 : b923 ≠ b1161 := Nat.ne_of_lt (Nat.lt_of_lt_of_le (f1149).lt bn1163)
                    have ne1167 : b946 ≠ b1161 := Nat.ne_of_lt (Nat.lt_of_lt_of_le (f1150).lt bn1163)
                    have ne1168 : b1140 ≠ b1161 := Nat.ne_of_lt (Nat.lt_of_lt_of_le (f1143).lt bn1163)
                    have bn1169 : h0.size ≤ b1161 := Nat.le_trans K1152.1 bn1163
                    have f1170 := Exa.keep f1149 K1159
                    have f1171 := Fld.keep f1138 K1159 nin0
                    have f1172 := Fld.keep f1139 K1159 nin0
                    have f1173 := Ary.keep f1143 K1159 nin0
                    have N1174 := Fr.app N1151 N1158
                    have K1175 := Keep.trans K1152 K1159 all0
                    have Z1176 := Nat.le_trans Z1153 K1159.1
                    refine k_astore K X1157 at_166 rfl (Ls' := #[.val (.int p0), .val (.long q1), .second, .val (.int p2), .val (.int p3), .val (.int d861), .val (.int d864), .val (.int d867), .val (.int d870), .val (.int d873), .val (.ref b877), .val (.ref b923), .val (.ref b1161), .unset, .unset]) rfl (q := 168) rfl ?_
                    refine k_iload K X1157 at_168 rfl (q := 170) rfl ?_
                    have J1179 : ∀ (d1178 : Int32), (if d861 = (0 : Int32) then (0 : Int32) else (4 : Int32)) = d1178 → Run p e below s kc kn Q T1155 (mkF m 178 #[.val (.int p0), .val (.long q1), .second, .val (.int p2), .val (.int p3), .val (.int d861), .val (.int d864), .val (.int d867), .val (.int d870), .val (.int d873), .val (.ref b877), .val (.ref b923), .val (.ref b1161), .unset, .unset] [(.int d1178)]) := by
                      intro d1178 hv_d1178
                      refine k_iload K X1157 at_178 rfl (q := 180) rfl ?_
                      have J1182 : ∀ (d1181 : Int32), (if d864 = (0 : Int32) then (0 : Int32) else (8 : Int32)) = d1181 → Run p e below s kc kn Q T1155 (mkF m 189 #[.val (.int p0), .val (.long q1), .second, .val (.int p2), .val (.int p3), .val (.int d861), .val (.int d864), .val (.int d867), .val (.int d870), .val (.int d873), .val (.ref b877), .val (.ref b923), .val (.ref b1161), .unset, .unset] [(.int d1181), (.int d1178)]) := by
                        intro d1181 hv_d1181
                        refine k_iadd K X1157 at_189 (q := 190) rfl ?_
                        refine k_iload K X1157 at_190 rfl (q := 192) rfl ?_
                        have J1185 : ∀ (d1184 : Int32), (if d867 = (0 : Int32) then (0 : Int32) else (1 : Int32)) = d1184 → Run p e below s kc kn Q T1155 (mkF m 200 #[.val (.int p0), .val (.long q1), .second, .val (.int p2), .val (.int p3), .val (.int d861), .val (.int d864), .val (.int d867), .val (.int d870), .val (.int d873), .val (.ref b877), .val (.ref b923), .val (.ref b1161), .unset, .unset] [(.int d1184), (.int (d1178 + d1181))]) := by
                          intro d1184 hv_d1184
                          refine k_iadd K X1157 at_200 (q := 201) rfl ?_
                          refine k_iload K X1157 at_201 rfl (q := 203) rfl ?_
                          refine k_if_eq_n K X1157 at_203 hc1051 (q := 206) rfl ?_
                          refine k_bipush K X1157 at_206 (v := (61 : Int32)) rfl (q := 208) rfl ?_
                          refine k_goto K X1157 at_208 (by decide) (q := 212) rfl ?_
                          refine k_iadd K X1157 at_212 (q := 213) rfl ?_
                          obtain ⟨v1186, hv_v1186⟩ : ∃ z : Int32, (((d1178 + d1181) + d1184) + (61 : Int32)) = z := ⟨_, rfl⟩
                          refine k_istore K X1157 at_213 hv_v1186 (Ls' := #[.val (.int p0), .val (.long q1), .second, .val (.int p2), .val (.int p3), .val (.int d861), .val (.int d864), .val (.int d867), .val (.int d870), .val (.int d873), .val (.ref b877), .val (.ref b923), .val (.ref b1161), .val (.int v1186), .unset]) rfl (q := 215) rfl ?_
                          refine k_aload K X1157 at_215 rfl rfl (q := 217) rfl ?_
                          refine k_ifnull_n K X1157 at_217 (q := 220) rfl ?_
                          refine k_aload K X1157 at_220 rfl rfl (q := 222) rfl ?_
                          refine k_arraylength K X1157 rfl at_222 f1164 (v := (Nat.toInt32 (Int32.toNatClampNeg (v1154 - (4 : Int32))))) rfl (q := 223) rfl ?_
                          refine k_iload K X1157 at_223 rfl (q := 225) rfl ?_
                          refine k_icmp_eq_y K X1157 at_225 (own_ob_17 p0 q1 p2 p3 d861 d864 d867 d870 d873 v888 v899 v910 d973 d974 d1004 d1005 d1035 d1036 v1154 d1178 d1181 d1184 v1186 hv_d861 hv_d864 hv_d867 hv_d870 hv_d873 hv_v888 hv_v899 hv_v910 hv_d973 hv_d974 hv_d1004 hv_d1005 hv_d1035 hv_d1036 hv_v1154 hv_d1178 hv_d1181 hv_d1184 hv_v1186 hc1051) (by decide) (q := 230) rfl ?_
                          refine k_iconst K X1157 at_230 (v := (0 : Int32)) rfl (q := 231) rfl ?_
                          refine k_istore K X1157 at_231 rfl (Ls' := #[.val (.int p0), .val (.long q1), .second, .val (.int p2), .val (.int p3), .val (.int d861), .val (.int d864), .val (.int d867), .val (.int d870), .val (.int d873), .val (.ref b877), .val (.ref b923), .val (.ref b1161), .val (.int v1186), .val (.int (0 : Int32))]) rfl (q := 233) rfl ?_
                          refine k_iload K X1157 at_233 rfl (q := 235) rfl ?_
                          have J1192 : ∀ (T1193 : State) (Lc1196 : List Loc) (d1191 : Int32), Stand p l e room_1 s m #[(.int p0), (.long q1), (.int p2), (.int p3)] below meth c T1193 Lc1196 5 329 → Fr n0 Lc1196 → T1193.heap = T1155.heap → (if d861 = (0 : Int32) then (0 : Int32) else (4 : Int32)) = d1191 → Run p e below s kc kn Q T1193 (mkF m 257 #[.val (.int p0), .val (.long q1), .second, .val (.int p2), .val (.int p3), .val (.int d861), .val (.int d864), .val (.int d867), .val (.int d870), .val (.int d873), .val (.ref b877), .val (.ref b923), .val (.ref b1161), .val (.int v1186), .val (.int d1191)] []) := by
                            intro T1193 Lc1196 d1191 X1194 N1197 e1195 hv_d1191
                            refine k_iload K X1194 at_257 rfl (q := 259) rfl ?_
                            have J1206 : ∀ (T1207 : State) (Lc1210 : List Loc) (d1205 : Int32), Stand p l e room_1 s m #[(.int p0), (.long q1), (.int p2), (.int p3)] below meth c T1207 Lc1210 5 329 → Fr n0 Lc1210 → T1207.heap = T1155.heap → (if d864 = (0 : Int32) then d1191 else (d1191 + (8 : Int32))) = d1205 → Run p e below s kc kn Q T1207 (mkF m 300 #[.val (.int p0), .val (.long q1), .second, .val (.int p2), .val (.int p3), .val (.int d861), .val (.int d864), .val (.int d867), .val (.int d870), .val (.int d873), .val (.ref b877), .val (.ref b923), .val (.ref b1161), .val (.int v1186), .val (.int d1205)] []) := by
                              intro T1207 Lc1210 d1205 X1208 N1211 e1209 hv_d1205
                              refine k_iload K X1208 at_300 rfl (q := 302) rfl ?_
                              have J1216 : ∀ (d1215 : Int32), (if d867 = (0 : Int32) then d1205 else (d1205 + (1 : Int32))) = d1215 → Run p e below s kc kn Q T1207 (mkF m 332 #[.val (.int p0), .val (.long q1), .second, .val (.int p2), .val (.int p3), .val (.int d861), .val (.int d864), .val (.int d867), .val (.int d870), .val (.int d873), .val (.ref b877), .val (.ref b923), .val (.ref b1161), .val (.int v1186), .val (.int d1215)] []) := by
                                intro d1215 hv_d1215
                                refine k_iload K X1208 at_332 rfl (q := 334) rfl ?_
                                refine k_if_eq_n K X1208 at_334 hc1051 (q := 337) rfl ?_
                                refine k_aload K X1208 at_337 rfl rfl (q := 339) rfl ?_
                                refine k_iload K X1208 at_339 rfl (q := 341) rfl ?_
                                refine k_baload K X1208 e1209 at_341 f1164 (i := (Int32.toNatClampNeg d1215)) (v := (.int ((F_copyOfRangeByte_new0_g v1154 128 (F_writeRaw_new0_g v910 d1036 d1035)) (Int32.toNatClampNeg d1215)))) ⟨((own_ob_26 p0 q1 p2 p3 d861 d864 d867 d870 d873 v888 v899 v910 d973 d974 d1004 d1005 d1035 d1036 v1154 d1191 d1205 d1215 hv_d861 hv_d864 hv_d867 hv_d870 hv_d873 hv_v888 hv_v899 hv_v910 hv_d973 hv_d974 hv_d1004 hv_d1005 hv_d1035 hv_d1036 hv_v1154 hv_d1191 hv_d1205 hv_d1215 hc1051)).1, rfl⟩ ((own_ob_26 p0 q1 p2 p3 d861 d864 d867 d870 d873 v888 v899 v910 d973 d974 d1004 d1005 d1035 d1036 v1154 d1191 d1205 d1215 hv_d861 hv_d864 hv_d867 hv_d870 hv_d873 hv_v888 hv_v899 hv_v910 hv_d973 hv_d974 hv_d1004 hv_d1005 hv_d1035 hv_d1036 hv_v1154 hv_d1191 hv_d1205 hv_d1215 hc1051)).2 rfl (q := 342) rfl ?_
                                obtain ⟨v1217, hv_v1217⟩ : ∃ z : Int32, ((F_copyOfRangeByte_new0_g v1154 128 (F_writeRaw_new0_g v910 d1036 d1035)) (Int32.toNatClampNeg d1215)) = z := ⟨_, rfl⟩
                                refine k_nameI hv_v1217 ?_
                                refine k_iload K X1208 at_342 rfl (q := 344) rfl ?_
                                refine k_i2b K X1208 at_344 (q := 345) rfl ?_
                                refine k_icmp_ne_n K X1208 at_345 (own_ob_27 p0 q1 p2 p3 d861 d864 d867 d870 d873 v888 v899 v910 d973 d974 d1004 d1005 d1035 d1036 v1154 d1191 d1205 d1215 v1217 hv_d861 hv_d864 hv_d867 hv_d870 hv_d873 hv_v888 hv_v899 hv_v910 hv_d973 hv_d974 hv_d1004 hv_d1005 hv_d1035 hv_d1036 hv_v1154 hv_d1191 hv_d1205 hv_d1215 hv_v1217 hc1051) (q := 348) rfl ?_
                                refine k_aload K X1208 at_348 rfl rfl (q := 350) rfl ?_
                                refine k_iload K X1208 at_350 rfl (q := 352) rfl ?_
                                refine k_iconst K X1208 at_352 (v := (1 : Int32)) rfl (q := 353) rfl ?_
                                refine k_iadd K X1208 at_353 (q := 354) rfl ?_
                                refine k_baload K X1208 e1209 at_354 f1164 (i := (Int32.toNatClampNeg (d1215 + (1 : Int32)))) (v := (.int ((F_copyOfRangeByte_new0_g v1154 128 (F_writeRaw_new0_g v910 d1036 d1035)) (Int32.toNatClampNeg (d1215 + (1 : Int32)))))) ⟨((own_ob_28 p0 q1 p2 p3 d861 d864 d867 d870 d873 v888 v899 v910 d973 d974 d1004 d1005 d1035 d1036 v1154 d1191 d1205 d1215 hv_d861 hv_d864 hv_d867 hv_d870 hv_d873 hv_v888 hv_v899 hv_v910 hv_d973 hv_d974 hv_d1004 hv_d1005 hv_d1035 hv_d1036 hv_v1154 hv_d1191 hv_d1205 hv_d1215 hc1051)).1, rfl⟩ ((own_ob_28 p0 q1 p2 p3 d861 d864 d867 d870 d873 v888 v899 v910 d973 d974 d1004 d1005 d1035 d1036 v1154 d1191 d1205 d1215 hv_d861 hv_d864 hv_d867 hv_d870 hv_d873 hv_v888 hv_v899 hv_v910 hv_d973 hv_d974 hv_d1004 hv_d1005 hv_d1035 hv_d1036 hv_v1154 hv_d1191 hv_d1205 hv_d1215 hc1051)).2 rfl (q := 355) rfl ?_
                                obtain ⟨v1218, hv_v1218⟩ : ∃ z : Int32, ((F_copyOfRangeByte_new0_g v1154 128 (F_writeRaw_new0_g v910 d1036 d1035)) (Int32.toNatClampNeg (d1215 + (1 : Int32)))) = z := ⟨_, rfl⟩
                                refine k_nameI hv_v1218 ?_
                                refine k_if_ne_n K X1208 at_355 (own_ob_29 p0 q1 p2 p3 d861 d864 d867 d870 d873 v888 v899 v910 d973 d974 d1004 d1005 d1035 d1036 v1154 d1191 d1205 d1215 v1218 hv_d861 hv_d864 hv_d867 hv_d870 hv_d873 hv_v888 hv_v899 hv_v910 hv_d973 hv_d974 hv_d1004 hv_d1005 hv_d1035 hv_d1036 hv_v1154 hv_d1191 hv_d1205 hv_d1215 hv_v1218 hc1051) (q := 358) rfl ?_
                                refine k_aload K X1208 at_358 rfl rfl (q := 360) rfl ?_
                                refine k_iload K X1208 at_360 rfl (q := 362) rfl ?_
                                refine k_bipush K X1208 at_362 (v := (30 : Int32)) rfl (q := 364) rfl ?_
                                refine k_iadd K X1208 at_364 (q := 365) rfl ?_
                                refine k_baload K X1208 e1209 at_365 f1164 (i := (Int32.toNatClampNeg (d1215 + (30 : Int32)))) (v := (.int ((F_copyOfRangeByte_new0_g v1154 128 (F_writeRaw_new0_g v910 d1036 d1035)) (Int32.toNatClampNeg (d1215 + (30 : Int32)))))) ⟨((own_ob_30 p0 q1 p2 p3 d861 d864 d867 d870 d873 v888 v899 v910 d973 d974 d1004 d1005 d1035 d1036 v1154 d1191 d1205 d1215 hv_d861 hv_d864 hv_d867 hv_d870 hv_d873 hv_v888 hv_v899 hv_v910 hv_d973 hv_d974 hv_d1004 hv_d1005 hv_d1035 hv_d1036 hv_v1154 hv_d1191 hv_d1205 hv_d1215 hc1051)).1, rfl⟩ ((own_ob_30 p0 q1 p2 p3 d861 d864 d867 d870 d873 v888 v899 v910 d973 d974 d1004 d1005 d1035 d1036 v1154 d1191 d1205 d1215 hv_d861 hv_d864 hv_d867 hv_d870 hv_d873 hv_v888 hv_v899 hv_v910 hv_d973 hv_d974 hv_d1004 hv_d1005 hv_d1035 hv_d1036 hv_v1154 hv_d1191 hv_d1205 hv_d1215 hc1051)).2 rfl (q := 366) rfl ?_
                                obtain ⟨v1219, hv_v1219⟩ : ∃ z : Int32, ((F_copyOfRangeByte_new0_g v1154 128 (F_writeRaw_new0_g v910 d1036 d1035)) (Int32.toNatClampNeg (d1215 + (30 : Int32)))) = z := ⟨_, rfl⟩
                                refine k_nameI hv_v1219 ?_
                                refine k_iload K X1208 at_366 rfl (q := 368) rfl ?_
                                refine k_bipush K X1208 at_368 (v := (16 : Int32)) rfl (q := 370) rfl ?_
                                refine k_iushr K X1208 at_370 (q := 371) rfl ?_
                                refine k_i2b K X1208 at_371 (q := 372) rfl ?_
                                refine k_icmp_ne_n K X1208 at_372 (own_ob_31 p0 q1 p2 p3 d861 d864 d867 d870 d873 v888 v899 v910 d973 d974 d1004 d1005 d1035 d1036 v1154 d1191 d1205 d1215 v1219 hv_d861 hv_d864 hv_d867 hv_d870 hv_d873 hv_v888 hv_v899 hv_v910 hv_d973 hv_d974 hv_d1004 hv_d1005 hv_d1035 hv_d1036 hv_v1154 hv_d1191 hv_d1205 hv_d1215 hv_v1219 hc1051) (q := 375) rfl ?_
                                refine k_aload K X1208 at_375 rfl rfl (q := 377) rfl ?_
                                refine k_iload K X1208 at_377 rfl (q := 379) rfl ?_
                                refine k_bipush K X1208 at_379 (v := (59 : Int32)) rfl (q := 381) rfl ?_
                                refine k_iadd K X1208 at_381 (q := 382) rfl ?_
                                refine k_baload K X1208 e1209 at_382 f1164 (i := (Int32.toNatClampNeg (d1215 + (59 : Int32)))) (v := (.int ((F_copyOfRangeByte_new0_g v1154 128 (F_writeRaw_new0_g v910 d1036 d1035)) (Int32.toNatClampNeg (d1215 + (59 : Int32)))))) ⟨((own_ob_32 p0 q1 p2 p3 d861 d864 d867 d870 d873 v888 v899 v910 d973 d974 d1004 d1005 d1035 d1036 v1154 d1191 d1205 d1215 hv_d861 hv_d864 hv_d867 hv_d870 hv_d873 hv_v888 hv_v899 hv_v910 hv_d973 hv_d974 hv_d1004 hv_d1005 hv_d1035 hv_d1036 hv_v1154 hv_d1191 hv_d1205 hv_d1215 hc1051)).1, rfl⟩ ((own_ob_32 p0 q1 p2 p3 d861 d864 d867 d870 d873 v888 v899 v910 d973 d974 d1004 d1005 d1035 d1036 v1154 d1191 d1205 d1215 hv_d861 hv_d864 hv_d867 hv_d870 hv_d873 hv_v888 hv_v899 hv_v910 hv_d973 hv_d974 hv_d1004 hv_d1005 hv_d1035 hv_d1036 hv_v1154 hv_d1191 hv_d1205 hv_d1215 hc1051)).2 rfl (q := 383) rfl ?_
                                obtain ⟨v1220, hv_v1220⟩ : ∃ z : Int32, ((F_copyOfRangeByte_new0_g v1154 128 (F_writeRaw_new0_g v910 d1036 d1035)) (Int32.toNatClampNeg (d1215 + (59 : Int32)))) = z := ⟨_, rfl⟩
                                refine k_nameI hv_v1220 ?_
                                refine k_if_ne_n K X1208 at_383 (own_ob_33 p0 q1 p2 p3 d861 d864 d867 d870 d873 v888 v899 v910 d973 d974 d1004 d1005 d1035 d1036 v1154 d1191 d1205 d1215 v1220 hv_d861 hv_d864 hv_d867 hv_d870 hv_d873 hv_v888 hv_v899 hv_v910 hv_d973 hv_d974 hv_d1004 hv_d1005 hv_d1035 hv_d1036 hv_v1154 hv_d1191 hv_d1205 hv_d1215 hv_v1220 hc1051) (q := 386) rfl ?_
                                refine k_aload K X1208 at_386 rfl rfl (q := 388) rfl ?_
                                refine k_iload K X1208 at_388 rfl (q := 390) rfl ?_
                                refine k_bipush K X1208 at_390 (v := (60 : Int32)) rfl (q := 392) rfl ?_
                                refine k_iadd K X1208 at_392 (q := 393) rfl ?_
                                refine k_baload K X1208 e1209 at_393 f1164 (i := (Int32.toNatClampNeg (d1215 + (60 : Int32)))) (v := (.int ((F_copyOfRangeByte_new0_g v1154 128 (F_writeRaw_new0_g v910 d1036 d1035)) (Int32.toNatClampNeg (d1215 + (60 : Int32)))))) ⟨((own_ob_34 p0 q1 p2 p3 d861 d864 d867 d870 d873 v888 v899 v910 d973 d974 d1004 d1005 d1035 d1036 v1154 d1191 d1205 d1215 hv_d861 hv_d864 hv_d867 hv_d870 hv_d873 hv_v888 hv_v899 hv_v910 hv_d973 hv_d974 hv_d1004 hv_d1005 hv_d1035 hv_d1036 hv_v1154 hv_d1191 hv_d1205 hv_d1215 hc1051)).1, rfl⟩ ((own_ob_34 p0 q1 p2 p3 d861 d864 d867 d870 d873 v888 v899 v910 d973 d974 d1004 d1005 d1035 d1036 v1154 d1191 d1205 d1215 hv_d861 hv_d864 hv_d867 hv_d870 hv_d873 hv_v888 hv_v899 hv_v910 hv_d973 hv_d974 hv_d1004 hv_d1005 hv_d1035 hv_d1036 hv_v1154 hv_d1191 hv_d1205 hv_d1215 hc1051)).2 rfl (q := 394) rfl ?_
                                obtain ⟨v1221, hv_v1221⟩ : ∃ z : Int32, ((F_copyOfRangeByte_new0_g v1154 128 (F_writeRaw_new0_g v910 d1036 d1035)) (Int32.toNatClampNeg (d1215 + (60 : Int32)))) = z := ⟨_, rfl⟩
                                refine k_nameI hv_v1221 ?_
                                refine k_iload K X1208 at_394 rfl (q := 396) rfl ?_
                                refine k_bipush K X1208 at_396 (v := (8 : Int32)) rfl (q := 398) rfl ?_
                                refine k_iushr K X1208 at_398 (q := 399) rfl ?_
                                refine k_i2b K X1208 at_399 (q := 400) rfl ?_
                                refine k_icmp_eq_y K X1208 at_400 (own_ob_35 p0 q1 p2 p3 d861 d864 d867 d870 d873 v888 v899 v910 d973 d974 d1004 d1005 d1035 d1036 v1154 d1191 d1205 d1215 v1221 hv_d861 hv_d864 hv_d867 hv_d870 hv_d873 hv_v888 hv_v899 hv_v910 hv_d973 hv_d974 hv_d1004 hv_d1005 hv_d1035 hv_d1036 hv_v1154 hv_d1191 hv_d1205 hv_d1215 hv_v1221 hc1051) (by decide) (q := 405) rfl ?_
                                refine k_iconst K X1208 at_405 (v := (1 : Int32)) rfl (q := 406) rfl ?_
                                exact k_retz K X1208 e1209 at_406 (Nat.le_trans (by decide) hkc) (Nat.le_trans (by decide) hkn) (hQ _ _ _ ⟨(by show some (Value.int (1 : Int32)) = some (Value.int (F_law p0 q1 p2 p3)); first | (simp only [F_law, hv_d861, hv_d864, hv_d867, hv_d870, hv_d873, hv_v888, hv_v899, hv_v910, hv_d973, hv_d974, hv_d1004, hv_d1005, hv_d1035, hv_d1036, hv_v1154, hv_d1178, hv_d1181, hv_d1184, hv_v1186, hv_d1191, hv_d1205, hv_d1215, hv_v1217, hv_v1218, hv_v1219, hv_v1220, hv_v1221, if_neg hc1051]; done) | (subst hv_d861; subst hv_d864; subst hv_d867; subst hv_d870; subst hv_d873; subst hv_v888; subst hv_v899; subst hv_v910; subst hv_d973; subst hv_d974; subst hv_d1004; subst hv_d1005; subst hv_d1035; subst hv_d1036; subst hv_v1154; subst hv_d1178; subst hv_d1181; subst hv_d1184; subst hv_v1186; subst hv_d1191; subst hv_d1205; subst hv_d1215; subst hv_v1217; subst hv_v1218; subst hv_v1219; subst hv_v1220; subst hv_v1221; simp only [F_law, if_neg hc1051])), N1211⟩)
                              refine k_if_eq K X1208 at_302 (by decide) (q := 332) rfl (q' := 305) rfl ?_ ?_
                              · intro hc1222
                                exact J1216 _ (by first | (simp only [if_pos hc1222]; done) | rfl)
                              · intro hc1222
                                refine k_aload K X1208 at_305 rfl rfl (q := 307) rfl ?_
                                refine k_iload K X1208 at_307 rfl (q := 309) rfl ?_
                                refine k_baload K X1208 e1209 at_309 f1164 (i := (Int32.toNatClampNeg d1205)) (v := (.int ((F_copyOfRangeByte_new0_g v1154 128 (F_writeRaw_new0_g v910 d1036 d1035)) (Int32.toNatClampNeg d1205)))) ⟨((own_ob_24 p0 q1 p2 p3 d861 d864 d867 d870 d873 v888 v899 v910 d973 d974 d1004 d1005 d1035 d1036 v1154 d1191 d1205 hv_d861 hv_d864 hv_d867 hv_d870 hv_d873 hv_v888 hv_v899 hv_v910 hv_d973 hv_d974 hv_d1004 hv_d1005 hv_d1035 hv_d1036 hv_v1154 hv_d1191 hv_d1205 hc1051 hc1222)).1, rfl⟩ ((own_ob_24 p0 q1 p2 p3 d861 d864 d867 d870 d873 v888 v899 v910 d973 d974 d1004 d1005 d1035 d1036 v1154 d1191 d1205 hv_d861 hv_d864 hv_d867 hv_d870 hv_d873 hv_v888 hv_v899 hv_v910 hv_d973 hv_d974 hv_d1004 hv_d1005 hv_d1035 hv_d1036 hv_v1154 hv_d1191 hv_d1205 hc1051 hc1222)).2 rfl (q := 310) rfl ?_
                                refine k_iload K X1208 at_310 rfl (q := 312) rfl ?_
                                have J1225 : ∀ (d1224 : Int32), (if d870 = (0 : Int32) then (0 : Int32) else (1 : Int32)) = d1224 → Run p e below s kc kn Q T1207 (mkF m 320 #[.val (.int p0), .val (.long q1), .second, .val (.int p2), .val (.int p3), .val (.int d861), .val (.int d864), .val (.int d867), .val (.int d870), .val (.int d873), .val (.ref b877), .val (.ref b923), .val (.ref b1161), .val (.int v1186), .val (.int d1205)] [(.int d1224), (.int ((F_copyOfRangeByte_new0_g v1154 128 (F_writeRaw_new0_g v910 d1036 d1035)) (Int32.toNatClampNeg d1205)))]) := by
                                  intro d1224 hv_d1224
                                  refine k_i2b K X1208 at_320 (q := 321) rfl ?_
                                  refine k_icmp_eq_y K X1208 at_321 (own_ob_36 p0 q1 p2 p3 d861 d864 d867 d870 d873 v888 v899 v910 d973 d974 d1004 d1005 d1035 d1036 v1154 d1191 d1205 d1224 hv_d861 hv_d864 hv_d867 hv_d870 hv_d873 hv_v888 hv_v899 hv_v910 hv_d973 hv_d974 hv_d1004 hv_d1005 hv_d1035 hv_d1036 hv_v1154 hv_d1191 hv_d1205 hv_d1224 hc1051 hc1222) (by decide) (q := 326) rfl ?_
                                  refine k_iload K X1208 at_326 rfl (q := 328) rfl ?_
                                  refine k_iconst K X1208 at_328 (v := (1 : Int32)) rfl (q := 329) rfl ?_
                                  refine k_iadd K X1208 at_329 (q := 330) rfl ?_
                                  refine k_istore K X1208 at_330 rfl (Ls' := #[.val (.int p0), .val (.long q1), .second, .val (.int p2), .val (.int p3), .val (.int d861), .val (.int d864), .val (.int d867), .val (.int d870), .val (.int d873), .val (.ref b877), .val (.ref b923), .val (.ref b1161), .val (.int v1186), .val (.int (d1205 + (1 : Int32)))]) rfl (q := 332) rfl ?_
                                  exact J1216 _ (by subst hv_d1224; first | (simp only [if_neg hc1222]; done) | rfl)
                                refine k_if_eq K X1208 at_312 (by decide) (q := 319) rfl (q' := 315) rfl ?_ ?_
                                · intro hc1226
                                  refine k_iconst K X1208 at_319 (v := (0 : Int32)) rfl (q := 320) rfl ?_
                                  exact J1225 _ (by first | (simp only [if_pos hc1226]; done) | rfl)
                                · intro hc1226
                                  refine k_iconst K X1208 at_315 (v := (1 : Int32)) rfl (q := 316) rfl ?_
                                  refine k_goto K X1208 at_316 (by decide) (q := 320) rfl ?_
                                  exact J1225 _ (by first | (simp only [if_neg hc1226]; done) | rfl)
                            refine k_if_eq K X1194 at_259 (by decide) (q := 300) rfl (q' := 262) rfl ?_ ?_
                            · intro hc1227
                              exact J1206 T1193 _ _ X1194 N1197 e1195 (by first | (simp only [if_pos hc1227]; done) | rfl)
                            · intro hc1227
                              refine k_aload K X1194 at_262 rfl rfl (q := 264) rfl ?_
                              refine k_iload K X1194 at_264 rfl (q := 266) rfl ?_
                              refine k_lloadN K X1194 at_266 rfl (q := 267) rfl ?_
                              refine k_bipush K X1194 at_267 (v := (32 : Int32)) rfl (q := 269) rfl ?_
                              refine k_lushr K X1194 at_269 (q := 270) rfl ?_
                              refine k_l2i K X1194 at_270 (q := 271) rfl ?_
                              refine k_staticP K X1194 e1195 at_271 (wd hw 46 rfl) (wd hw 47 rfl) (wd hw 48 rfl) (wd hw 49 rfl) (by decide) (rm10 l Z az hw [] b1161 d1191 (Int64.toInt32 (ushrL q1 (32 : Int32))) (Int32.toNatClampNeg (v1154 - (4 : Int32))) (F_copyOfRangeByte_new0_g v1154 128 (F_writeRaw_new0_g v910 d1036 d1035)) T1155.heap f1164 (own_ob_20 p0 q1 p2 p3 d861 d864 d867 d870 d873 v888 v899 v910 d973 d974 d1004 d1005 d1035 d1036 v1154 d1191 hv_d861 hv_d864 hv_d867 hv_d870 hv_d873 hv_v888 hv_v899 hv_v910 hv_d973 hv_d974 hv_d1004 hv_d1005 hv_d1035 hv_d1036 hv_v1154 hv_d1191 hc1051 hc1227)) (W := 0) (by decide) (by decide) (by decide) (by decide) rfl pd_11 (argsL := [(.ref b1161), (.int d1191), (.int (Int64.toInt32 (ushrL q1 (32 : Int32))))]) (rest := []) rfl rfl rfl (Nat.le_of_eq rfl) (q := 274) rfl ?_
                              intro T1228 X1229 e1230
                              refine k_if_eq_n K X1229 at_274 (own_ob_21 p0 q1 p2 p3 d861 d864 d867 d870 d873 v888 v899 v910 d973 d974 d1004 d1005 d1035 d1036 v1154 d1191 hv_d861 hv_d864 hv_d867 hv_d870 hv_d873 hv_v888 hv_v899 hv_v910 hv_d973 hv_d974 hv_d1004 hv_d1005 hv_d1035 hv_d1036 hv_v1154 hv_d1191 hc1051 hc1227) (q := 277) rfl ?_
                              refine k_aload K X1229 at_277 rfl rfl (q := 279) rfl ?_
                              refine k_iload K X1229 at_279 rfl (q := 281) rfl ?_
                              refine k_iconst K X1229 at_281 (v := (4 : Int32)) rfl (q := 282) rfl ?_
                              refine k_iadd K X1229 at_282 (q := 283) rfl ?_
                              refine k_lloadN K X1229 at_283 rfl (q := 284) rfl ?_
                              refine k_l2i K X1229 at_284 (q := 285) rfl ?_
                              refine k_staticP K X1229 e1230 at_285 (wd hw 46 rfl) (wd hw 47 rfl) (wd hw 48 rfl) (wd hw 49 rfl) (by decide) (rm10 l Z az hw [] b1161 (d1191 + (4 : Int32)) (Int64.toInt32 q1) (Int32.toNatClampNeg (v1154 - (4 : Int32))) (F_copyOfRangeByte_new0_g v1154 128 (F_writeRaw_new0_g v910 d1036 d1035)) T1155.heap f1164 (own_ob_22 p0 q1 p2 p3 d861 d864 d867 d870 d873 v888 v899 v910 d973 d974 d1004 d1005 d1035 d1036 v1154 d1191 hv_d861 hv_d864 hv_d867 hv_d870 hv_d873 hv_v888 hv_v899 hv_v910 hv_d973 hv_d974 hv_d1004 hv_d1005 hv_d1035 hv_d1036 hv_v1154 hv_d1191 hc1051 hc1227)) (W := 0) (by decide) (by decide) (by decide) (by decide) rfl pd_11 (argsL := [(.ref b1161), (.int (d1191 + (4 : Int32))), (.int (Int64.toInt32 q1))]) (rest := []) rfl rfl rfl (Nat.le_of_eq rfl) (q := 288) rfl ?_
                              intro T1231 X1232 e1233
                              refine k_if_ne_y K X1232 at_288 (own_ob_23 p0 q1 p2 p3 d861 d864 d867 d870 d873 v888 v899 v910 d973 d974 d1004 d1005 d1035 d1036 v1154 d1191 hv_d861 hv_d864 hv_d867 hv_d870 hv_d873 hv_v888 hv_v899 hv_v910 hv_d973 hv_d974 hv_d1004 hv_d1005 hv_d1035 hv_d1036 hv_v1154 hv_d1191 hc1051 hc1227) (by decide) (q := 293) rfl ?_
                              refine k_iload K X1232 at_293 rfl (q := 295) rfl ?_
                              refine k_bipush K X1232 at_295 (v := (8 : Int32)) rfl (q := 297) rfl ?_
                              refine k_iadd K X1232 at_297 (q := 298) rfl ?_
                              refine k_istore K X1232 at_298 rfl (Ls' := #[.val (.int p0), .val (.long q1), .second, .val (.int p2), .val (.int p3), .val (.int d861), .val (.int d864), .val (.int d867), .val (.int d870), .val (.int d873), .val (.ref b877), .val (.ref b923), .val (.ref b1161), .val (.int v1186), .val (.int (d1191 + (8 : Int32)))]) rfl (q := 300) rfl ?_
                              exact J1206 T1231 _ _ X1232 N1197 e1233 (by first | (simp only [if_neg hc1227]; done) | rfl)
                          refine k_if_eq K X1157 at_235 (by decide) (q := 257) rfl (q' := 238) rfl ?_ ?_
                          · intro hc1234
                            exact J1192 T1155 _ _ X1157 N1174 rfl (by first | (simp only [if_pos hc1234]; done) | rfl)
                          · intro hc1234
                            refine k_aload K X1157 at_238 rfl rfl (q := 240) rfl ?_
                            refine k_iload K X1157 at_240 rfl (q := 242) rfl ?_
                            refine k_iloadN K X1157 at_242 rfl (q := 243) rfl ?_
                            refine k_staticP K X1157 rfl at_243 (wd hw 46 rfl) (wd hw 47 rfl) (wd hw 48 rfl) (wd hw 49 rfl) (by decide) (rm10 l Z az hw [] b1161 (0 : Int32) p0 (Int32.toNatClampNeg (v1154 - (4 : Int32))) (F_copyOfRangeByte_new0_g v1154 128 (F_writeRaw_new0_g v910 d1036 d1035)) T1155.heap f1164 (own_ob_18 p0 q1 p2 p3 d861 d864 d867 d870 d873 v888 v899 v910 d973 d974 d1004 d1005 d1035 d1036 v1154 hv_d861 hv_d864 hv_d867 hv_d870 hv_d873 hv_v888 hv_v899 hv_v910 hv_d973 hv_d974 hv_d1004 hv_d1005 hv_d1035 hv_d1036 hv_v1154 hc1051 hc1234)) (W := 0) (by decide) (by decide) (by decide) (by decide) rfl pd_11 (argsL := [(.ref b1161), (.int (0 : Int32)), (.int p0)]) (rest := []) rfl rfl rfl (Nat.le_of_eq rfl) (q := 246) rfl ?_
                            intro T1235 X1236 e1237
                            refine k_if_ne_y K X1236 at_246 (own_ob_19 p0 q1 p2 p3 d861 d864 d867 d870 d873 v888 v899 v910 d973 d974 d1004 d1005 d1035 d1036 v1154 hv_d861 hv_d864 hv_d867 hv_d870 hv_d873 hv_v888 hv_v899 hv_v910 hv_d973 hv_d974 hv_d1004 hv_d1005 hv_d1035 hv_d1036 hv_v1154 hc1051 hc1234) (by decide) (q := 251) rfl ?_
                            refine k_iload K X1236 at_251 rfl (q := 253) rfl ?_
                            refine k_iconst K X1236 at_253 (v := (4 : Int32)) rfl (q := 254) rfl ?_
                            refine k_iadd K X1236 at_254 (q := 255) rfl ?_
                            refine k_nameI (v := (4 : Int32)) (by decide) ?_
                            refine k_istore K X1236 at_255 rfl (Ls' := #[.val (.int p0), .val (.long q1), .second, .val (.int p2), .val (.int p3), .val (.int d861), .val (.int d864), .val (.int d867), .val (.int d870), .val (.int d873), .val (.ref b877), .val (.ref b923), .val (.ref b1161), .val (.int v1186), .val (.int (4 : Int32))]) rfl (q := 257) rfl ?_
                            exact J1192 T1235 _ _ X1236 N1174 e1237 (by first | (simp only [if_neg hc1234]; done) | rfl)
                        refine k_if_eq K X1157 at_192 (by decide) (q := 199) rfl (q' := 195) rfl ?_ ?_
                        · intro hc1238
                          refine k_iconst K X1157 at_199 (v := (0 : Int32)) rfl (q := 200) rfl ?_
                          exact J1185 _ (by first | (simp only [if_pos hc1238]; done) | rfl)
                        · intro hc1238
                          refine k_iconst K X1157 at_195 (v := (1 : Int32)) rfl (q := 196) rfl ?_
                          refine k_goto K X1157 at_196 (by decide) (q := 200) rfl ?_
                          exact J1185 _ (by first | (simp only [if_neg hc1238]; done) | rfl)
                      refine k_if_eq K X1157 at_180 (by decide) (q := 188) rfl (q' := 183) rfl ?_ ?_
                      · intro hc1239
                        refine k_iconst K X1157 at_188 (v := (0 : Int32)) rfl (q := 189) rfl ?_
                        exact J1182 _ (by first | (simp only [if_pos hc1239]; done) | rfl)
                      · intro hc1239
                        refine k_bipush K X1157 at_183 (v := (8 : Int32)) rfl (q := 185) rfl ?_
                        refine k_goto K X1157 at_185 (by decide) (q := 189) rfl ?_
                        exact J1182 _ (by first | (simp only [if_neg hc1239]; done) | rfl)
                    refine k_if_eq K X1157 at_170 (by decide) (q := 177) rfl (q' := 173) rfl ?_ ?_
                    · intro hc1240
                      refine k_iconst K X1157 at_177 (v := (0 : Int32)) rfl (q := 178) rfl ?_
                      exact J1179 _ (by first | (simp only [if_pos hc1240]; done) | rfl)
                    · intro hc1240
                      refine k_iconst K X1157 at_173 (v := (4 : Int32)) rfl (q := 174) rfl ?_
                      refine k_goto K X1157 at_174 (by decide) (q := 178) rfl ?_
                      exact J1179 _ (by first | (simp only [if_neg hc1240]; done) | rfl)
                refine k_if_eq K X1013 at_137 (by decide) (q := 148) rfl (q' := 140) rfl ?_ ?_
                · intro hc1241
                  exact J1042 T1012 _ _ _ _ X1013 N1016 e1014 K1017 Z1018 f1006 f1007 f1008 f1009 f1010 (by first | (simp only [if_pos hc1241]; done) | rfl) (by first | (simp only [if_pos hc1241]; done) | rfl)
                · intro hc1241
                  refine k_aload K X1013 at_140 rfl rfl (q := 142) rfl ?_
                  refine k_iload K X1013 at_142 rfl (q := 144) rfl ?_
                  refine k_virtual K X1013 e1014 at_144 (wd hw 56 rfl) (wd hw 57 rfl) (wd hw 59 rfl) (wd hw 58 rfl) (wd hw 3 rfl) (wd hw 60 rfl) (by decide) f1007 (rm12 l Z az hw [] b923 d870 b946 d1005 d1004 h1015 n0 Z1018 f1008 f1010 f1009 f1007 ge931 (Ne.symm ne951) ge947 (own_ob_3 p0 q1 p2 p3 d861 d864 d867 d973 d974 d1004 hv_d861 hv_d864 hv_d867 hv_d973 hv_d974 hv_d1004 hc1241)) (W := 0) (by decide) (by decide) (by decide) (by decide) rfl pd_9 (argsL := [(.int d870)]) (rest := []) rfl rfl rfl (Nat.le_of_eq rfl) (q := 147) rfl ?_
                  rintro _ T1242 L1243 X1244 ⟨rfl, N1245, K1246, f1248, f1249, f1250⟩
                  have f1251 := Ary.keep f1006 K1246 (ninS ne930 (ninS ne950 nin0))
                  have f1252 := Exa.keep f1007 K1246
                  have N1253 := Fr.app N1016 N1245
                  have K1254 := Keep.trans K1017 K1246 (allS (Or.inr bn932) (allS (Or.inr bn952) all0))
                  have Z1255 := Nat.le_trans Z1018 K1246.1
                  refine k_pop K X1244 at_147 rfl (q := 148) rfl ?_
                  exact J1042 T1242 _ _ _ _ X1244 N1253 rfl K1254 Z1255 f1251 f1252 f1248 f1249 f1250 (by first | (simp only [if_neg hc1241]; done) | rfl) (by first | (simp only [if_neg hc1241]; done) | rfl)
              refine k_if_eq K X982 at_125 (by decide) (q := 135) rfl (q' := 128) rfl ?_ ?_
              · intro hc1256
                exact J1011 T981 _ _ _ _ X982 N985 e983 K986 Z987 f975 f976 f977 f978 f979 (by first | (simp only [if_pos hc1256]; done) | rfl) (by first | (simp only [if_pos hc1256]; done) | rfl)
              · intro hc1256
                refine k_aload K X982 at_128 rfl rfl (q := 130) rfl ?_
                refine k_lloadN K X982 at_130 rfl (q := 131) rfl ?_
                refine k_virtual K X982 e983 at_131 (wd hw 50 rfl) (wd hw 51 rfl) (wd hw 53 rfl) (wd hw 52 rfl) (wd hw 3 rfl) (wd hw 54 rfl) (by decide) f976 (rm11 l Z az hw [] b923 q1 b946 d974 d973 h984 n0 Z987 f977 f979 f978 f976 ge931 (Ne.symm ne951) ge947 (own_ob_1 p0 q1 p2 p3 d861 d864 d973 hv_d861 hv_d864 hv_d973 hc1256) (own_ob_2 p0 q1 p2 p3 d861 d864 d973 d974 hv_d861 hv_d864 hv_d973 hv_d974 hc1256)) (W := 0) (by decide) (by decide) (by decide) (by decide) rfl pd_8 (argsL := [(.long q1)]) (rest := []) rfl rfl rfl (Nat.le_of_eq rfl) (q := 134) rfl ?_
                rintro _ T1257 L1258 X1259 ⟨rfl, N1260, K1261, f1263, f1264, f1265⟩
                have f1266 := Ary.keep f975 K1261 (ninS ne950 (ninS ne930 nin0))
                have f1267 := Exa.keep f976 K1261
                have N1268 := Fr.app N985 N1260
                have K1269 := Keep.trans K986 K1261 (allS (Or.inr bn952) (allS (Or.inr bn932) all0))
                have Z1270 := Nat.le_trans Z987 K1261.1
                refine k_pop K X1259 at_134 rfl (q := 135) rfl ?_
                exact J1011 T1257 _ _ _ _ X1259 N1268 rfl K1269 Z1270 f1266 f1267 f1264 f1265 f1263 (by first | (simp only [if_neg hc1256]; done) | rfl) (by first | (simp only [if_neg hc1256]; done) | rfl)
            refine k_if_eq K X940 at_113 (by decide) (q := 123) rfl (q' := 116) rfl ?_ ?_
            · intro hc1271
              exact J980 T938 _ _ _ _ X940 N955 rfl K956 Z957 f953 f954 f944 f945 f949 (by first | (simp only [if_pos hc1271]; done) | rfl) (by first | (simp only [if_pos hc1271]; done) | rfl)
            · intro hc1271
              refine k_aload K X940 at_116 rfl rfl (q := 118) rfl ?_
              refine k_iloadN K X940 at_118 rfl (q := 119) rfl ?_
              refine k_virtual K X940 rfl at_119 (wd hw 14 rfl) (wd hw 15 rfl) (wd hw 17 rfl) (wd hw 16 rfl) (wd hw 3 rfl) (wd hw 18 rfl) (by decide) f954 (rm3 l Z az hw [] b923 p0 b946 (fun _ => (0 : Int32)) (4 : Int32) T938.heap n0 Z957 f944 f949 f945 f954 ge931 (Ne.symm ne951) ge947 (own_ob_0 p0 q1 p2 p3 d861 hv_d861 hc1271)) (W := 0) (by decide) (by decide) (by decide) (by decide) rfl pd_6 (argsL := [(.int p0)]) (rest := []) rfl rfl rfl (Nat.le_of_eq rfl) (q := 122) rfl ?_
              rintro _ T1272 L1273 X1274 ⟨rfl, N1275, K1276, f1278, f1279, f1280⟩
              have f1281 := Ary.keep f953 K1276 (ninS ne930 (ninS ne950 nin0))
              have f1282 := Exa.keep f954 K1276
              have N1283 := Fr.app N955 N1275
              have K1284 := Keep.trans K956 K1276 (allS (Or.inr bn932) (allS (Or.inr bn952) all0))
              have Z1285 := Nat.le_trans Z957 K1276.1
              refine k_pop K X1274 at_122 rfl (q := 123) rfl ?_
              exact J980 T1272 _ _ _ _ X1274 N1283 rfl K1284 Z1285 f1281 f1282 f1278 f1279 f1280 (by first | (simp only [if_neg hc1271]; done) | rfl) (by first | (simp only [if_neg hc1271]; done) | rfl)
          refine k_if_eq K X0 at_57 (by decide) (q := 64) rfl (q' := 60) rfl ?_ ?_
          · intro hc1286
            refine k_iconst K X0 at_64 (v := (0 : Int32)) rfl (q := 65) rfl ?_
            exact J874 _ (by first | (simp only [if_pos hc1286]; done) | rfl)
          · intro hc1286
            refine k_iconst K X0 at_60 (v := (1 : Int32)) rfl (q := 61) rfl ?_
            refine k_goto K X0 at_61 (by decide) (q := 65) rfl ?_
            exact J874 _ (by first | (simp only [if_neg hc1286]; done) | rfl)
        refine k_if_eq K X0 at_43 (by decide) (q := 50) rfl (q' := 46) rfl ?_ ?_
        · intro hc1287
          refine k_iconst K X0 at_50 (v := (0 : Int32)) rfl (q := 51) rfl ?_
          exact J871 _ (by first | (simp only [if_pos hc1287]; done) | rfl)
        · intro hc1287
          refine k_iconst K X0 at_46 (v := (1 : Int32)) rfl (q := 47) rfl ?_
          refine k_goto K X0 at_47 (by decide) (q := 51) rfl ?_
          exact J871 _ (by first | (simp only [if_neg hc1287]; done) | rfl)
      refine k_if_eq K X0 at_29 (by decide) (q := 36) rfl (q' := 32) rfl ?_ ?_
      · intro hc1288
        refine k_iconst K X0 at_36 (v := (0 : Int32)) rfl (q := 37) rfl ?_
        exact J868 _ (by first | (simp only [if_pos hc1288]; done) | rfl)
      · intro hc1288
        refine k_iconst K X0 at_32 (v := (1 : Int32)) rfl (q := 33) rfl ?_
        refine k_goto K X0 at_33 (by decide) (q := 37) rfl ?_
        exact J868 _ (by first | (simp only [if_neg hc1288]; done) | rfl)
    refine k_if_eq K X0 at_16 (by decide) (q := 23) rfl (q' := 19) rfl ?_ ?_
    · intro hc1289
      refine k_iconst K X0 at_23 (v := (0 : Int32)) rfl (q := 24) rfl ?_
      exact J865 _ (by first | (simp only [if_pos hc1289]; done) | rfl)
    · intro hc1289
      refine k_iconst K X0 at_19 (v := (1 : Int32)) rfl (q := 20) rfl ?_
      refine k_goto K X0 at_20 (by decide) (q := 24) rfl ?_
      exact J865 _ (by first | (simp only [if_neg hc1289]; done) | rfl)
  refine k_if_eq K X0 at_3 (by decide) (q := 10) rfl (q' := 6) rfl ?_ ?_
  · intro hc1290
    refine k_iconst K X0 at_10 (v := (0 : Int32)) rfl (q := 11) rfl ?_
    exact J862 _ (by first | (simp only [if_pos hc1290]; done) | rfl)
  · intro hc1290
    refine k_iconst K X0 at_6 (v := (1 : Int32)) rfl (q := 7) rfl ?_
    refine k_goto K X0 at_7 (by decide) (q := 11) rfl ?_
    exact J862 _ (by first | (simp only [if_neg hc1290]; done) | rfl)
theorem law_eq (p0 : Int32) (q1 : Int64) (p2 p3 : Int32) : F_law p0 q1 p2 p3 = 1 := by
  simp only [F_law, ite_self]
set_option maxRecDepth 65536 in
set_option maxHeartbeats 40000000 in
theorem comes_1 {Post : Tables → Env → Array Value → State → Outcome → State → Prop} (hpost : ∀ tb e args s v u, (limb_1_1.after args s (.returned v) u = true ∧ limb_1_2.after args s (.returned v) u = true ∧ True) → FrameEnd s (.returned v) u (Jvm.fieldLocs frame_1_writes args s ++ Jvm.arrayLocs frame_1_arrays args s ++ Jvm.staticLocs frame_1_statics s) 24 768 → Post tb e args s (.returned v) u) :
    ArmFor flags0 classFile x code maxLocals ret World_1 tables_1 room_1 Calls_1 rest_1 Pre_1 Post := by
  intro l hfl _ _ p e ha hc hk s m args below hf hA hF happ hP
  obtain ⟨hcalls, hrest, hpre⟩ := hP
  obtain ⟨-, -, -, hnamed, -, -, -, hat⟩ := (Spec.applies_iff hf).mp happ
  obtain ⟨hg, hn⟩ := and_e (Cond.before_iff.mp (show (Jvm.Cond.and given_1 narrow_1).before args s = true from hpre))
  obtain ⟨gc, g0⟩ := and_e hg
  obtain ⟨ga0, g1⟩ := and_e g0
  obtain ⟨ga1, g2⟩ := and_e g1
  obtain ⟨ga2, g3⟩ := and_e g2
  obtain ⟨w0, w1, w2, w3, rfl⟩ : ∃ w0 w1 w2 w3 : Value, args = #[w0, w1, w2, w3] := by
    have hs : args.size = 4 := by simpa [Cond.value, given_1] using gc
    obtain ⟨L⟩ := args
    match L, hs with
    | [w0, w1, w2, w3], _ => exact ⟨w0, w1, w2, w3, rfl⟩
  have hw := fun d (hd : d ∈ tables_1) => atoms_spec (ws := Jvm.Cond.code x code maxLocals ret :: tables_1) hat d (List.mem_cons_of_mem _ hd)
  obtain ⟨i0, ei0⟩ := is_v ga0
  obtain rfl : w0 = (.int i0) := Option.some.inj ei0
  obtain ⟨i1, ei1⟩ := isL_v ga1
  obtain rfl : w1 = (.long i1) := Option.some.inj ei1
  obtain ⟨i2, ei2⟩ := is_v ga2
  obtain rfl : w2 = (.int i2) := Option.some.inj ei2
  obtain ⟨i3, ei3⟩ := is_v g3
  obtain rfl : w3 = (.int i3) := Option.some.inj ei3
  obtain ⟨n, o, h1, h2, h3, _, L, rfl, ⟨rfl, N⟩, hq⟩ := rm0 l s _ hw tables_1 i0 i1 i2 i3 s.heap s.heap.size (Nat.le_refl _) p e ha hc hk s m _ below hf ((Spec.applies_iff_loose hf).mp happ).1 ⟨rfl, State.Warmed39.refl s, rfl⟩ trivial
  rw [law_eq] at *
  refine ⟨n, _, h1, h2, h3, hpost _ _ _ _ _ _ ⟨Cond.after_iff.mpr rfl, Cond.after_iff.mpr (eq_i res_at (Term.int_eval (1)) rfl), trivial⟩ ⟨hq.1, hq.2.1, (hq.2.2.sift fun y hy => Or.inr (N y hy)).mono (by decide) (by decide)⟩⟩
theorem main_1_1 : Claimed_1_1 := comes_1 fun _ _ _ _ _ _ h hF => ⟨h.1, hF⟩
theorem main_1_2 : Claimed_1_2 := comes_1 fun _ _ _ _ _ _ h hF => ⟨h.2.1, hF⟩
end Jvm.Pilot.@@N@@
namespace Jvm.Pilot.@@N@@
open Jvm Jvm.ClassFile Sem Op Lib Jvm.Free Jvm.Stand Jvm.Pilot.@@N@@.Jvm.D
/-! MADE BY PROGRAM (witnessworld.py) out of the Statement's table words and the real class files: 12 classes; the members and pool entries that the words name. The judged class is class 1, her method 2. -/
namespace start1
open Jvm.ClassFile
def u (s : String) : CpInfo := .utf8 (stringToUtf16 s)
/-- a pool by its gaps: so many unusable entries, then the entry; so many at the end -/
def gap : Nat → List CpInfo → List CpInfo
  | 0, r => r
  | n + 1, r => .unusable :: gap n r
def poolList (es : List (Nat × CpInfo)) (last : Nat) : List CpInfo := es.foldr (fun e r => gap e.1 (e.2 :: r)) (gap last [])
def pool (es : List (Nat × CpInfo)) (last : Nat) : Array CpInfo := ⟨poolList es last⟩
def fileOf (pool : Array CpInfo) (this : Nat) (attrs : Array Attribute := #[]) (ms : Array MethodInfo := #[]) (fl : Nat := 33) (sup : Nat := 0) (ifs : Array Nat := #[]) (fds : Array FieldInfo := #[]) : ClassFile where
  minorVersion := 0
  majorVersion := 65
  constantPool := pool
  accessFlags := fl
  thisClass := this
  superClass := sup
  interfaces := ifs
  fields := fds
  methods := ms
  attributes := attrs
def plain (name : String) (sup : Option ClassId) : Class where
  name := name
  kind := .ordinary
  loader := none
  accessFlags := 33
  super := sup
  interfaces := #[]
  cf := none
  fields := #[]
  methods := #[]
  instanceTypes := #[]
  staticTypes := #[]
  resolved := #[]
  callSites := []
  init := .initialized
  statics := none
  mirror := none

def pool0 : Array CpInfo := pool [(5, u "<init>"), (0, u "()V"), (1, .class_ 10), (1, u "java/lang/Object")] 113

def k0c0 : Code := { maxStack := 0, maxLocals := 1, code := object_method_1_code, exceptionTable := #[], attributes := #[] }
def k0m0 : Method := { name := "<init>", desc := "()V", sig := { parameters := [], returnType := none }, accessFlags := 1, code := some k0c0 }
/-- java/lang/Object -/
def k0 : Class := { plain "java/lang/Object" none with
  accessFlags := 33
  interfaces := #[]
  cf := some (fileOf pool0 8 #[] #[{ accessFlags := 1, nameIndex := 5, descriptorIndex := 6, attributes := #[] }] 33 0 #[] #[])
  fields := #[]
  methods := #[k0m0]
  instanceTypes := #[]
  staticTypes := #[]
  resolved := Array.replicate 124 none
  statics := none }

def pool1 : Array CpInfo := pool [(2, .class_ 4), (0, .nameAndType 5 6), (0, u "java/lang/Object"), (0, u "<init>"), (0, u "()V"), (0, .class_ 8), (0, u "com/example/snow_goose/snowgoose/WireWriter"), (0, .methodref 7 3), (0, .methodref 7 11), (0, .nameAndType 12 13), (0, u "writeInt"), (0, u "(I)Lcom/example/snow_goose/snowgoose/WireWriter;"), (0, .methodref 7 15), (0, .nameAndType 16 17), (0, u "writeLong"), (0, u "(J)Lcom/example/snow_goose/snowgoose/WireWriter;"), (0, .methodref 7 19), (0, .nameAndType 20 21), (0, u "writeBoolean"), (0, u "(Z)Lcom/example/snow_goose/snowgoose/WireWriter;"), (0, .methodref 7 23), (0, .nameAndType 24 25), (0, u "writeRaw"), (0, u "([B)Lcom/example/snow_goose/snowgoose/WireWriter;"), (0, .methodref 7 27), (0, .nameAndType 28 29), (0, u "toBytes"), (0, u "()[B"), (0, .methodref 31 32), (0, .class_ 33), (0, .nameAndType 34 35), (0, u "com/example/snow_goose/snowgoose/WireWriterToBytesPinLaw"), (0, u "isInt"), (0, u "([BII)Z"), (3, u "law"), (0, u "(IJII)Z")] 4

def k1m0 : Method := { name := "<init>", desc := "()V", sig := { parameters := [], returnType := none }, accessFlags := 1, code := none }
def k1c1 : Code := { maxStack := 3, maxLocals := 3, code := method_2_code, exceptionTable := #[], attributes := #[] }
def k1m1 : Method := { name := "isInt", desc := "([BII)Z", sig := { parameters := [(.array .byte), .int, .int], returnType := some .boolean }, accessFlags := 10, code := some k1c1 }
def k1c2 : Code := { maxStack := 5, maxLocals := 15, code := code, exceptionTable := #[], attributes := #[] }
def k1m2 : Method := { name := "law", desc := "(IJII)Z", sig := { parameters := [.int, .long, .int, .int], returnType := some .boolean }, accessFlags := 9, code := some k1c2 }
/-- com/example/snow_goose/snowgoose/WireWriterToBytesPinLaw -/
def k1 : Class := { plain "com/example/snow_goose/snowgoose/WireWriterToBytesPinLaw" (some 0) with
  accessFlags := 49
  interfaces := #[]
  cf := some (fileOf pool1 31 #[] #[{ accessFlags := 1, nameIndex := 5, descriptorIndex := 6, attributes := #[] }, { accessFlags := 10, nameIndex := 34, descriptorIndex := 35, attributes := #[] }, { accessFlags := 9, nameIndex := 39, descriptorIndex := 40, attributes := #[] }] 49 2 #[] #[])
  fields := #[]
  methods := #[k1m0, k1m1, k1m2]
  instanceTypes := #[]
  staticTypes := #[]
  resolved := Array.replicate 45 none
  statics := none }

def pool2 : Array CpInfo := pool [(1, .methodref 2 3), (0, .class_ 4), (0, .nameAndType 5 6), (0, u "java/lang/Object"), (0, u "<init>"), (0, u "()V"), (0, .fieldref 8 9), (0, .class_ 10), (0, .nameAndType 11 12), (0, u "com/example/snow_goose/snowgoose/WireWriter"), (0, u "bytes"), (0, u "[B"), (2, .fieldref 8 16), (0, .nameAndType 17 18), (0, u "end"), (0, u "I"), (0, .methodref 8 20), (0, .nameAndType 21 22), (0, u "ensure"), (0, u "(I)V"), (0, .methodref 8 24), (0, .nameAndType 25 26), (0, u "writeInt"), (0, u "(I)Lcom/example/snow_goose/snowgoose/WireWriter;"), (2, u "writeRaw"), (0, u "([B)Lcom/example/snow_goose/snowgoose/WireWriter;"), (39, .methodref 71 72), (0, .class_ 73), (0, .nameAndType 74 75), (0, u "java/lang/System"), (0, u "arraycopy"), (0, u "(Ljava/lang/Object;ILjava/lang/Object;II)V"), (10, .methodref 87 88), (0, .class_ 89), (0, .nameAndType 90 91), (0, u "java/util/Arrays"), (0, u "copyOfRange"), (0, u "([BII)[B"), (0, .long 2), (1, .methodref 95 96), (0, .class_ 97), (0, .nameAndType 98 99), (0, u "java/lang/Math"), (0, u "max"), (0, u "(JJ)J"), (0, .long 2147483639), (1, .methodref 95 103), (0, .nameAndType 104 99), (0, u "min"), (0, .methodref 87 106), (0, .nameAndType 107 108), (0, u "copyOf"), (0, u "([BI)[B"), (3, u "writeLong"), (0, u "(J)Lcom/example/snow_goose/snowgoose/WireWriter;"), (0, u "writeBoolean"), (0, u "(Z)Lcom/example/snow_goose/snowgoose/WireWriter;"), (7, u "toBytes"), (0, u "()[B")] 2

def k2c0 : Code := { maxStack := 2, maxLocals := 1, code := prog_88_method_1_code, exceptionTable := #[], attributes := #[] }
def k2m0 : Method := { name := "<init>", desc := "()V", sig := { parameters := [], returnType := none }, accessFlags := 0, code := some k2c0 }
def k2c1 : Code := { maxStack := 5, maxLocals := 3, code := prog_88_method_2_code, exceptionTable := #[], attributes := #[] }
def k2m1 : Method := { name := "writeInt", desc := "(I)Lcom/example/snow_goose/snowgoose/WireWriter;", sig := { parameters := [.int], returnType := some (.object "com/example/snow_goose/snowgoose/WireWriter") }, accessFlags := 0, code := some k2c1 }
def k2c2 : Code := { maxStack := 4, maxLocals := 3, code := prog_88_method_3_code, exceptionTable := #[], attributes := #[] }
def k2m2 : Method := { name := "writeLong", desc := "(J)Lcom/example/snow_goose/snowgoose/WireWriter;", sig := { parameters := [.long], returnType := some (.object "com/example/snow_goose/snowgoose/WireWriter") }, accessFlags := 0, code := some k2c2 }
def k2c3 : Code := { maxStack := 5, maxLocals := 2, code := prog_88_method_4_code, exceptionTable := #[], attributes := #[] }
def k2m3 : Method := { name := "writeBoolean", desc := "(Z)Lcom/example/snow_goose/snowgoose/WireWriter;", sig := { parameters := [.boolean], returnType := some (.object "com/example/snow_goose/snowgoose/WireWriter") }, accessFlags := 0, code := some k2c3 }
def k2c4 : Code := { maxStack := 5, maxLocals := 2, code := prog_88_method_8_code, exceptionTable := #[], attributes := #[] }
def k2m4 : Method := { name := "writeRaw", desc := "([B)Lcom/example/snow_goose/snowgoose/WireWriter;", sig := { parameters := [(.array .byte)], returnType := some (.object "com/example/snow_goose/snowgoose/WireWriter") }, accessFlags := 0, code := some k2c4 }
def k2c5 : Code := { maxStack := 3, maxLocals := 1, code := prog_88_method_10_code, exceptionTable := #[], attributes := #[] }
def k2m5 : Method := { name := "toBytes", desc := "()[B", sig := { parameters := [], returnType := some (.array .byte) }, accessFlags := 0, code := some k2c5 }
def k2c6 : Code := { maxStack := 6, maxLocals := 4, code := prog_88_method_11_code, exceptionTable := #[], attributes := #[] }
def k2m6 : Method := { name := "ensure", desc := "(I)V", sig := { parameters := [.int], returnType := none }, accessFlags := 2, code := some k2c6 }
/-- com/example/snow_goose/snowgoose/WireWriter -/
def k2 : Class := { plain "com/example/snow_goose/snowgoose/WireWriter" (some 0) with
  accessFlags := 32
  interfaces := #[]
  cf := some (fileOf pool2 8 #[] #[{ accessFlags := 0, nameIndex := 5, descriptorIndex := 6, attributes := #[] }, { accessFlags := 0, nameIndex := 25, descriptorIndex := 26, attributes := #[] }, { accessFlags := 0, nameIndex := 112, descriptorIndex := 113, attributes := #[] }, { accessFlags := 0, nameIndex := 114, descriptorIndex := 115, attributes := #[] }, { accessFlags := 0, nameIndex := 29, descriptorIndex := 30, attributes := #[] }, { accessFlags := 0, nameIndex := 123, descriptorIndex := 124, attributes := #[] }, { accessFlags := 2, nameIndex := 21, descriptorIndex := 22, attributes := #[] }] 32 2 #[] #[{ accessFlags := 2, nameIndex := 11, descriptorIndex := 12, attributes := #[] }, { accessFlags := 2, nameIndex := 17, descriptorIndex := 18, attributes := #[] }])
  fields := #[{ name := "bytes", type := (.array .byte), accessFlags := 2, slot := 0, constantValue := 0 }, { name := "end", type := .int, accessFlags := 2, slot := 1, constantValue := 0 }]
  methods := #[k2m0, k2m1, k2m2, k2m3, k2m4, k2m5, k2m6]
  instanceTypes := #[(.array .byte), .int]
  staticTypes := #[]
  resolved := Array.replicate 127 none
  statics := none }

def pool3 : Array CpInfo := pool [(2, .class_ 4), (1, u "java/lang/Object"), (0, u "<init>"), (0, u "()V"), (7, .class_ 16), (1, u "java/util/Arrays"), (57, .class_ 76), (1, u "java/util/Arrays$NaturalOrder"), (36, .class_ 115), (1, u "java/util/Arrays$LegacyMergeSort"), (1, u "Z"), (21, u "copyOfRange"), (10, .methodref 151 152), (0, .class_ 153), (0, .nameAndType 154 155), (0, u "java/lang/System"), (0, u "arraycopy"), (0, u "(Ljava/lang/Object;ILjava/lang/Object;II)V"), (146, u "copyOf"), (1, .methodref 305 306), (0, .class_ 307), (0, .nameAndType 308 309), (0, u "java/lang/Math"), (0, u "min"), (0, u "(II)I"), (29, .methodref 14 340), (0, .nameAndType 341 342), (0, u "copyOfRangeByte"), (0, u "([BII)[B"), (0, .methodref 14 344), (0, .nameAndType 345 346), (0, u "checkLength"), (0, u "(II)V"), (28, .class_ 376), (0, u "java/util/Arrays$ArrayList"), (68, u "$assertionsDisabled"), (269, u "MIN_ARRAY_SORT_GRAN"), (0, u "I"), (2, u "INSERTIONSORT_THRESHOLD"), (149, u "([BI)[B"), (105, .class_ 976), (0, u "java/util/Arrays$ArrayItr")] 52

def k3m0 : Method := { name := "<init>", desc := "()V", sig := { parameters := [], returnType := none }, accessFlags := 2, code := none }
def k3c1 : Code := { maxStack := 6, maxLocals := 3, code := jdk_65_method_121_code, exceptionTable := #[], attributes := #[] }
def k3m1 : Method := { name := "copyOf", desc := "([BI)[B", sig := { parameters := [(.array .byte), .int], returnType := some (.array .byte) }, accessFlags := 9, code := some k3c1 }
def k3c2 : Code := { maxStack := 4, maxLocals := 2, code := jdk_65_method_131_code, exceptionTable := #[], attributes := #[] }
def k3m2 : Method := { name := "checkLength", desc := "(II)V", sig := { parameters := [.int, .int], returnType := none }, accessFlags := 10, code := some k3c2 }
def k3c3 : Code := { maxStack := 3, maxLocals := 3, code := jdk_65_method_132_code, exceptionTable := #[], attributes := #[] }
def k3m3 : Method := { name := "copyOfRange", desc := "([BII)[B", sig := { parameters := [(.array .byte), .int, .int], returnType := some (.array .byte) }, accessFlags := 9, code := some k3c3 }
def k3c4 : Code := { maxStack := 6, maxLocals := 5, code := jdk_65_method_133_code, exceptionTable := #[], attributes := #[] }
def k3m4 : Method := { name := "copyOfRangeByte", desc := "([BII)[B", sig := { parameters := [(.array .byte), .int, .int], returnType := some (.array .byte) }, accessFlags := 10, code := some k3c4 }
/-- java/util/Arrays -/
def k3 : Class := { plain "java/util/Arrays" (some 0) with
  accessFlags := 49
  interfaces := #[]
  cf := some (fileOf pool3 14 #[.nestMembers #[975, 375, 113, 74]] #[{ accessFlags := 2, nameIndex := 5, descriptorIndex := 6, attributes := #[] }, { accessFlags := 9, nameIndex := 302, descriptorIndex := 869, attributes := #[] }, { accessFlags := 10, nameIndex := 345, descriptorIndex := 346, attributes := #[] }, { accessFlags := 9, nameIndex := 139, descriptorIndex := 342, attributes := #[] }, { accessFlags := 10, nameIndex := 341, descriptorIndex := 342, attributes := #[] }] 49 2 #[] #[{ accessFlags := 26, nameIndex := 715, descriptorIndex := 716, attributes := #[] }, { accessFlags := 26, nameIndex := 719, descriptorIndex := 716, attributes := #[] }, { accessFlags := 4120, nameIndex := 445, descriptorIndex := 117, attributes := #[] }])
  fields := #[{ name := "MIN_ARRAY_SORT_GRAN", type := .int, accessFlags := 26, slot := 0, constantValue := 0 }, { name := "INSERTIONSORT_THRESHOLD", type := .int, accessFlags := 26, slot := 1, constantValue := 0 }, { name := "$assertionsDisabled", type := .boolean, accessFlags := 4120, slot := 2, constantValue := 0 }]
  methods := #[k3m0, k3m1, k3m2, k3m3, k3m4]
  instanceTypes := #[]
  staticTypes := #[.int, .int, .boolean]
  resolved := Array.replicate 1029 none
  statics := none }

def pool4 : Array CpInfo := pool [(1, .class_ 2), (0, u "java/lang/Math"), (1, .class_ 6), (1, u "java/lang/Object"), (0, u "<init>"), (0, u "()V"), (89, .class_ 100), (1, u "java/lang/Math$RandomNumberGeneratorHolder"), (20, u "(JJ)J"), (50, u "negativeZeroFloatBits"), (0, u "J"), (2, u "negativeZeroDoubleBits"), (21, u "max"), (2, u "min"), (43, u "$assertionsDisabled"), (0, u "Z"), (88, u "(II)I"), (2, u "twoToTheDoubleScaleDown"), (0, u "D"), (4, u "twoToTheDoubleScaleUp"), (9, u "E"), (3, u "PI"), (2, u "TAU"), (2, u "DEGREES_TO_RADIANS"), (0, u "RADIANS_TO_DEGREES")] 94

def k4m0 : Method := { name := "<init>", desc := "()V", sig := { parameters := [], returnType := none }, accessFlags := 2, code := none }
def k4c1 : Code := { maxStack := 4, maxLocals := 4, code := jdk_29_method_66_code, exceptionTable := #[], attributes := #[] }
def k4m1 : Method := { name := "max", desc := "(JJ)J", sig := { parameters := [.long, .long], returnType := some .long }, accessFlags := 9, code := some k4c1 }
def k4c2 : Code := { maxStack := 2, maxLocals := 2, code := jdk_29_method_69_code, exceptionTable := #[], attributes := #[] }
def k4m2 : Method := { name := "min", desc := "(II)I", sig := { parameters := [.int, .int], returnType := some .int }, accessFlags := 9, code := some k4c2 }
def k4c3 : Code := { maxStack := 4, maxLocals := 4, code := jdk_29_method_70_code, exceptionTable := #[], attributes := #[] }
def k4m3 : Method := { name := "min", desc := "(JJ)J", sig := { parameters := [.long, .long], returnType := some .long }, accessFlags := 9, code := some k4c3 }
/-- java/lang/Math -/
def k4 : Class := { plain "java/lang/Math" (some 0) with
  accessFlags := 49
  interfaces := #[]
  cf := some (fileOf pool4 1 #[.nestMembers #[98]] #[{ accessFlags := 2, nameIndex := 7, descriptorIndex := 8, attributes := #[] }, { accessFlags := 9, nameIndex := 198, descriptorIndex := 121, attributes := #[] }, { accessFlags := 9, nameIndex := 201, descriptorIndex := 335, attributes := #[] }, { accessFlags := 9, nameIndex := 201, descriptorIndex := 121, attributes := #[] }] 49 4 #[] #[{ accessFlags := 25, nameIndex := 354, descriptorIndex := 339, attributes := #[] }, { accessFlags := 25, nameIndex := 358, descriptorIndex := 339, attributes := #[] }, { accessFlags := 25, nameIndex := 361, descriptorIndex := 339, attributes := #[] }, { accessFlags := 26, nameIndex := 364, descriptorIndex := 339, attributes := #[] }, { accessFlags := 26, nameIndex := 365, descriptorIndex := 339, attributes := #[] }, { accessFlags := 26, nameIndex := 172, descriptorIndex := 173, attributes := #[] }, { accessFlags := 26, nameIndex := 176, descriptorIndex := 173, attributes := #[] }, { accessFlags := 8, nameIndex := 344, descriptorIndex := 339, attributes := #[] }, { accessFlags := 8, nameIndex := 338, descriptorIndex := 339, attributes := #[] }, { accessFlags := 4120, nameIndex := 245, descriptorIndex := 246, attributes := #[] }])
  fields := #[{ name := "E", type := .double, accessFlags := 25, slot := 0, constantValue := 0 }, { name := "PI", type := .double, accessFlags := 25, slot := 1, constantValue := 0 }, { name := "TAU", type := .double, accessFlags := 25, slot := 2, constantValue := 0 }, { name := "DEGREES_TO_RADIANS", type := .double, accessFlags := 26, slot := 3, constantValue := 0 }, { name := "RADIANS_TO_DEGREES", type := .double, accessFlags := 26, slot := 4, constantValue := 0 }, { name := "negativeZeroFloatBits", type := .long, accessFlags := 26, slot := 5, constantValue := 0 }, { name := "negativeZeroDoubleBits", type := .long, accessFlags := 26, slot := 6, constantValue := 0 }, { name := "twoToTheDoubleScaleUp", type := .double, accessFlags := 8, slot := 7, constantValue := 0 }, { name := "twoToTheDoubleScaleDown", type := .double, accessFlags := 8, slot := 8, constantValue := 0 }, { name := "$assertionsDisabled", type := .boolean, accessFlags := 4120, slot := 9, constantValue := 0 }]
  methods := #[k4m0, k4m1, k4m2, k4m3]
  instanceTypes := #[]
  staticTypes := #[.double, .double, .double, .double, .double, .long, .long, .double, .double, .boolean]
  resolved := Array.replicate 460 none
  statics := none }

def pool5 : Array CpInfo := pool [(2, .class_ 4), (1, u "java/lang/Object"), (0, u "<init>"), (0, u "()V"), (1, .class_ 10), (1, u "java/lang/System"), (0, u "allowSecurityManager"), (0, u "I"), (16, u "cons"), (0, u "Ljava/io/Console;"), (77, .class_ 110), (1, u "java/lang/System$CallersHolder"), (43, u "initialErrStream"), (0, u "Ljava/io/PrintStream;"), (19, u "security"), (0, u "Ljava/lang/SecurityManager;"), (31, .class_ 209), (0, u "java/lang/System$1"), (7, u "props"), (0, u "Ljava/util/Properties;"), (2, u "lineSeparator"), (0, u "Ljava/lang/String;"), (96, .class_ 321), (1, u "java/lang/System$LoggerFinder"), (5, .class_ 328), (0, u "java/lang/System$Logger"), (67, u "err"), (2, u "out"), (91, u "notSupportedJnuEncoding"), (15, u "in"), (17, u "initialIn"), (0, u "Ljava/io/InputStream;"), (35, u "bootLayer"), (0, u "Ljava/lang/ModuleLayer;"), (99, .class_ 664), (0, u "java/lang/System$2"), (9, u "NEVER"), (2, u "MAYBE"), (49, u "arraycopy"), (0, u "(Ljava/lang/Object;ILjava/lang/Object;II)V"), (72, .class_ 802), (0, u "java/lang/System$Logger$Level")] 31

def k5m0 : Method := { name := "<init>", desc := "()V", sig := { parameters := [], returnType := none }, accessFlags := 2, code := none }
def k5m1 : Method := { name := "arraycopy", desc := "(Ljava/lang/Object;ILjava/lang/Object;II)V", sig := { parameters := [(.object "java/lang/Object"), .int, (.object "java/lang/Object"), .int, .int], returnType := none }, accessFlags := 265, code := none }
/-- java/lang/System -/
def k5 : Class := { plain "java/lang/System" (some 0) with
  accessFlags := 49
  interfaces := #[]
  cf := some (fileOf pool5 8 #[.nestMembers #[319, 327, 801, 108, 663, 208]] #[{ accessFlags := 2, nameIndex := 5, descriptorIndex := 6, attributes := #[] }, { accessFlags := 265, nameIndex := 727, descriptorIndex := 728, attributes := #[] }] 49 2 #[] #[{ accessFlags := 25, nameIndex := 507, descriptorIndex := 526, attributes := #[] }, { accessFlags := 25, nameIndex := 399, descriptorIndex := 155, attributes := #[] }, { accessFlags := 25, nameIndex := 396, descriptorIndex := 155, attributes := #[] }, { accessFlags := 10, nameIndex := 525, descriptorIndex := 526, attributes := #[] }, { accessFlags := 26, nameIndex := 674, descriptorIndex := 12, attributes := #[] }, { accessFlags := 26, nameIndex := 677, descriptorIndex := 12, attributes := #[] }, { accessFlags := 10, nameIndex := 11, descriptorIndex := 12, attributes := #[] }, { accessFlags := 74, nameIndex := 175, descriptorIndex := 176, attributes := #[] }, { accessFlags := 10, nameIndex := 491, descriptorIndex := 222, attributes := #[] }, { accessFlags := 74, nameIndex := 29, descriptorIndex := 30, attributes := #[] }, { accessFlags := 74, nameIndex := 154, descriptorIndex := 155, attributes := #[] }, { accessFlags := 10, nameIndex := 217, descriptorIndex := 218, attributes := #[] }, { accessFlags := 10, nameIndex := 221, descriptorIndex := 222, attributes := #[] }, { accessFlags := 8, nameIndex := 562, descriptorIndex := 563, attributes := #[] }])
  fields := #[{ name := "in", type := (.object "java/io/InputStream"), accessFlags := 25, slot := 0, constantValue := 0 }, { name := "out", type := (.object "java/io/PrintStream"), accessFlags := 25, slot := 1, constantValue := 0 }, { name := "err", type := (.object "java/io/PrintStream"), accessFlags := 25, slot := 2, constantValue := 0 }, { name := "initialIn", type := (.object "java/io/InputStream"), accessFlags := 10, slot := 3, constantValue := 0 }, { name := "NEVER", type := .int, accessFlags := 26, slot := 4, constantValue := 0 }, { name := "MAYBE", type := .int, accessFlags := 26, slot := 5, constantValue := 0 }, { name := "allowSecurityManager", type := .int, accessFlags := 10, slot := 6, constantValue := 0 }, { name := "security", type := (.object "java/lang/SecurityManager"), accessFlags := 74, slot := 7, constantValue := 0 }, { name := "notSupportedJnuEncoding", type := (.object "java/lang/String"), accessFlags := 10, slot := 8, constantValue := 0 }, { name := "cons", type := (.object "java/io/Console"), accessFlags := 74, slot := 9, constantValue := 0 }, { name := "initialErrStream", type := (.object "java/io/PrintStream"), accessFlags := 74, slot := 10, constantValue := 0 }, { name := "props", type := (.object "java/util/Properties"), accessFlags := 10, slot := 11, constantValue := 0 }, { name := "lineSeparator", type := (.object "java/lang/String"), accessFlags := 10, slot := 12, constantValue := 0 }, { name := "bootLayer", type := (.object "java/lang/ModuleLayer"), accessFlags := 8, slot := 13, constantValue := 0 }]
  methods := #[k5m0, k5m1]
  instanceTypes := #[]
  staticTypes := #[(.object "java/io/InputStream"), (.object "java/io/PrintStream"), (.object "java/io/PrintStream"), (.object "java/io/InputStream"), .int, .int, .int, (.object "java/lang/SecurityManager"), (.object "java/lang/String"), (.object "java/io/Console"), (.object "java/io/PrintStream"), (.object "java/util/Properties"), (.object "java/lang/String"), (.object "java/lang/ModuleLayer")]
  resolved := Array.replicate 834 none
  statics := none }

def pool6 : Array CpInfo := pool [(1, u "java/lang/Cloneable"), (0, .class_ 1), (0, u "java/lang/Object"), (0, .class_ 3)] 3

/-- java/lang/Cloneable -/
def k6 : Class := { plain "java/lang/Cloneable" (some 0) with
  accessFlags := 1537
  interfaces := #[]
  cf := some (fileOf pool6 2 #[] #[] 1537 4 #[] #[])
  fields := #[]
  methods := #[]
  instanceTypes := #[]
  staticTypes := #[]
  resolved := Array.replicate 8 none
  statics := none }

def pool7 : Array CpInfo := pool [(1, u "java/io/Serializable"), (0, .class_ 1), (0, u "java/lang/Object"), (0, .class_ 3)] 3

/-- java/io/Serializable -/
def k7 : Class := { plain "java/io/Serializable" (some 0) with
  accessFlags := 1537
  interfaces := #[]
  cf := some (fileOf pool7 2 #[] #[] 1537 4 #[] #[])
  fields := #[]
  methods := #[]
  instanceTypes := #[]
  staticTypes := #[]
  resolved := Array.replicate 8 none
  statics := none }

/-- the primitive byte -/
def k8 : Class := { plain "byte" none with kind := .primitive 'B', accessFlags := 0x411 }
/-- [B -/
def k9 : Class := { plain "[B" (some 0) with kind := .array 8 .byte, interfaces := #[6, 7], accessFlags := 1041 }

/-- the primitive int -/
def k10 : Class := { plain "int" none with kind := .primitive 'I', accessFlags := 0x411 }
/-- [I -/
def k11 : Class := { plain "[I" (some 0) with kind := .array 10 .int, interfaces := #[6, 7], accessFlags := 1041 }

def heap : Heap := #[]
def classes : Array Class := #[k0, k1, k2, k3, k4, k5, k6, k7, k8, k9, k10, k11]
def interned : List (Array UInt16 × Addr) := []
def slotsUsed : Nat := 0
def theMethod : MethodId := ⟨1, 2⟩
def args0 : Array Value := #[.int 5, .long 7, .int 31, .int 11]
def aboutOver (below : List Frame) : State where
  vm := { classes := classes, interned := interned.toArray }
  heap := heap
  slotsUsed := slotsUsed
  threads := #[{ frames := .invoking theMethod args0 :: below }]
def below0 : List Frame := [.native { method := ⟨0, 0⟩, args := #[] }]
def about1 : State := aboutOver below0
def p0 : Program := .bare "" "" ""
def e0 : Env := launch0.env 0 0 0
theorem w_frames : about1.frames = Frame.invoking theMethod args0 :: below0 := rfl
set_option maxRecDepth 65536 in
theorem w_args : argsFit about1.vm theMethod args0 = true := by decide +kernel
set_option maxRecDepth 65536 in
theorem w_heap : heapFits about1 = true := by decide +kernel
set_option maxRecDepth 65536 in
theorem w_runnable : about1.curStatus? = some .runnable := by decide +kernel
set_option maxRecDepth 65536 in
theorem w_alone : about1.alone = true := by decide +kernel
set_option maxRecDepth 65536 in
theorem w_named : about1.methodNamed? x = some theMethod := by decide +kernel
set_option maxRecDepth 65536 in
theorem w_hears : about1.hears theMethod below0 = true := by decide +kernel
set_option maxRecDepth 65536 in
theorem w_ripe : about1.ripe theMethod args0 below0 = true := by decide +kernel
theorem w_running : about1.status = .running := rfl
set_option maxRecDepth 65536 in
theorem w_room : about1.hasRoom e0.platform room_1 = true :=
  launch0.hasRoom_least _ room_1 (by decide +kernel) (by decide +kernel) (by decide +kernel) (by decide +kernel) (by decide +kernel) (by decide +kernel)
theorem allAtoms_all (ts : List Jvm.Cond) (a : Array Jvm.Value) (st : Jvm.State) : (allAtoms ts).before a st = ts.all (fun c => c.before a st) := by
  induction ts with
  | nil => rfl
  | cons c t ih =>
    show (Jvm.Cond.and c (allAtoms t)).before a st = _
    rw [Jvm.Cond.before_and, ih, List.all_cons]
def words1 : List Jvm.Cond := Jvm.Cond.code x code maxLocals ret :: tables_1
/-- a 'code' word, met by the world's own term for the bytes: nothing is compared byte by byte -/
theorem code_word {y : MethodName} {bytes : ByteArray} {mx : Nat} {rt : Option FieldType} {a : Array Value} {s : State} {m : MethodId} {meth : Method} {c : Code} (h1 : s.methodNamed? y = some m) (h2 : s.vm.method? m = some meth) (h3 : meth.code = some c) (h4 : c.code = bytes)
    (h5 : (c.maxLocals == mx && c.exceptionTable.isEmpty && decide (c.maxStack ≤ mostOperands) && decide (meth.sig.returnType = rt) && !meth.locks && decide (parseMethodDescriptor y.desc = some meth.sig)) = true) : (Jvm.Cond.code y bytes mx rt).before a s = true := by
  simp only [Bool.and_eq_true, beq_iff_eq, Bool.not_eq_true', decide_eq_true_eq] at h5
  obtain ⟨⟨⟨⟨⟨g1, g2⟩, g3⟩, g4⟩, g5⟩, g6⟩ := h5
  simp [Cond.before, Cond.holds, Cond.value, h1, h2, h3, h4, g1, g2, g3, g4, g5, g6]
def isCode : Jvm.Cond → Bool
  | .code _ _ _ _ => true
  | _ => false
theorem all_split {L : List Jvm.Cond} {P : Jvm.Cond → Bool} (h1 : L.all (fun c => isCode c || P c) = true) (h2 : ∀ c ∈ L.filter isCode, P c = true) : L.all P = true := by
  refine List.all_eq_true.mpr fun c hc => ?_
  have h := List.all_eq_true.mp h1 c hc
  rcases Bool.eq_false_or_eq_true (isCode c) with hi | hi
  · exact h2 c (List.mem_filter.mpr ⟨hc, hi⟩)
  · simpa [hi] using h
set_option maxRecDepth 65536 in
theorem w_c0 : (Jvm.Cond.code x code maxLocals ret).before args0 about1 = true := code_word (m := ⟨1, 2⟩) (meth := k1m2) (c := k1c2) (by decide +kernel) rfl rfl rfl (by decide +kernel)
set_option maxRecDepth 65536 in
theorem w_c1 : (Jvm.Cond.code ({ cls := "com/example/snow_goose/snowgoose/WireWriter", name := "<init>", desc := "()V" } : Jvm.MethodName) prog_88_method_1_code (1 : Nat) (Option.none : Option Jvm.ClassFile.FieldType)).before args0 about1 = true := code_word (m := ⟨2, 0⟩) (meth := k2m0) (c := k2c0) (by decide +kernel) rfl rfl rfl (by decide +kernel)
set_option maxRecDepth 65536 in
theorem w_c2 : (Jvm.Cond.code ({ cls := "java/lang/Object", name := "<init>", desc := "()V" } : Jvm.MethodName) object_method_1_code (1 : Nat) (Option.none : Option Jvm.ClassFile.FieldType)).before args0 about1 = true := code_word (m := ⟨0, 0⟩) (meth := k0m0) (c := k0c0) (by decide +kernel) rfl rfl rfl (by decide +kernel)
set_option maxRecDepth 65536 in
theorem w_c3 : (Jvm.Cond.code ({ cls := "com/example/snow_goose/snowgoose/WireWriter", name := "writeInt", desc := "(I)Lcom/example/snow_goose/snowgoose/WireWriter;" } : Jvm.MethodName) prog_88_method_2_code (3 : Nat) (Option.some (Jvm.ClassFile.FieldType.object "com/example/snow_goose/snowgoose/WireWriter"))).before args0 about1 = true := code_word (m := ⟨2, 1⟩) (meth := k2m1) (c := k2c1) (by decide +kernel) rfl rfl rfl (by decide +kernel)
set_option maxRecDepth 65536 in
theorem w_c4 : (Jvm.Cond.code ({ cls := "com/example/snow_goose/snowgoose/WireWriter", name := "ensure", desc := "(I)V" } : Jvm.MethodName) prog_88_method_11_code (4 : Nat) (Option.none : Option Jvm.ClassFile.FieldType)).before args0 about1 = true := code_word (m := ⟨2, 6⟩) (meth := k2m6) (c := k2c6) (by decide +kernel) rfl rfl rfl (by decide +kernel)
set_option maxRecDepth 65536 in
theorem w_c5 : (Jvm.Cond.code ({ cls := "com/example/snow_goose/snowgoose/WireWriter", name := "toBytes", desc := "()[B" } : Jvm.MethodName) prog_88_method_10_code (1 : Nat) (Option.some (Jvm.ClassFile.FieldType.array Jvm.ClassFile.FieldType.byte))).before args0 about1 = true := code_word (m := ⟨2, 5⟩) (meth := k2m5) (c := k2c5) (by decide +kernel) rfl rfl rfl (by decide +kernel)
set_option maxRecDepth 65536 in
theorem w_c6 : (Jvm.Cond.code ({ cls := "java/util/Arrays", name := "copyOfRange", desc := "([BII)[B" } : Jvm.MethodName) jdk_65_method_132_code (3 : Nat) (Option.some (Jvm.ClassFile.FieldType.array Jvm.ClassFile.FieldType.byte))).before args0 about1 = true := code_word (m := ⟨3, 3⟩) (meth := k3m3) (c := k3c3) (by decide +kernel) rfl rfl rfl (by decide +kernel)
set_option maxRecDepth 65536 in
theorem w_c7 : (Jvm.Cond.code ({ cls := "java/util/Arrays", name := "copyOfRangeByte", desc := "([BII)[B" } : Jvm.MethodName) jdk_65_method_133_code (5 : Nat) (Option.some (Jvm.ClassFile.FieldType.array Jvm.ClassFile.FieldType.byte))).before args0 about1 = true := code_word (m := ⟨3, 4⟩) (meth := k3m4) (c := k3c4) (by decide +kernel) rfl rfl rfl (by decide +kernel)
set_option maxRecDepth 65536 in
theorem w_c8 : (Jvm.Cond.code ({ cls := "java/util/Arrays", name := "checkLength", desc := "(II)V" } : Jvm.MethodName) jdk_65_method_131_code (2 : Nat) (Option.none : Option Jvm.ClassFile.FieldType)).before args0 about1 = true := code_word (m := ⟨3, 2⟩) (meth := k3m2) (c := k3c2) (by decide +kernel) rfl rfl rfl (by decide +kernel)
set_option maxRecDepth 65536 in
theorem w_c9 : (Jvm.Cond.code ({ cls := "java/lang/Math", name := "min", desc := "(II)I" } : Jvm.MethodName) jdk_29_method_69_code (2 : Nat) (Option.some Jvm.ClassFile.FieldType.int)).before args0 about1 = true := code_word (m := ⟨4, 2⟩) (meth := k4m2) (c := k4c2) (by decide +kernel) rfl rfl rfl (by decide +kernel)
set_option maxRecDepth 65536 in
theorem w_c10 : (Jvm.Cond.code ({ cls := "com/example/snow_goose/snowgoose/WireWriterToBytesPinLaw", name := "isInt", desc := "([BII)Z" } : Jvm.MethodName) method_2_code (3 : Nat) (Option.some Jvm.ClassFile.FieldType.boolean)).before args0 about1 = true := code_word (m := ⟨1, 1⟩) (meth := k1m1) (c := k1c1) (by decide +kernel) rfl rfl rfl (by decide +kernel)
set_option maxRecDepth 65536 in
theorem w_c11 : (Jvm.Cond.code ({ cls := "com/example/snow_goose/snowgoose/WireWriter", name := "writeLong", desc := "(J)Lcom/example/snow_goose/snowgoose/WireWriter;" } : Jvm.MethodName) prog_88_method_3_code (3 : Nat) (Option.some (Jvm.ClassFile.FieldType.object "com/example/snow_goose/snowgoose/WireWriter"))).before args0 about1 = true := code_word (m := ⟨2, 2⟩) (meth := k2m2) (c := k2c2) (by decide +kernel) rfl rfl rfl (by decide +kernel)
set_option maxRecDepth 65536 in
theorem w_c12 : (Jvm.Cond.code ({ cls := "com/example/snow_goose/snowgoose/WireWriter", name := "writeBoolean", desc := "(Z)Lcom/example/snow_goose/snowgoose/WireWriter;" } : Jvm.MethodName) prog_88_method_4_code (2 : Nat) (Option.some (Jvm.ClassFile.FieldType.object "com/example/snow_goose/snowgoose/WireWriter"))).before args0 about1 = true := code_word (m := ⟨2, 3⟩) (meth := k2m3) (c := k2c3) (by decide +kernel) rfl rfl rfl (by decide +kernel)
set_option maxRecDepth 65536 in
theorem w_c13 : (Jvm.Cond.code ({ cls := "com/example/snow_goose/snowgoose/WireWriter", name := "writeRaw", desc := "([B)Lcom/example/snow_goose/snowgoose/WireWriter;" } : Jvm.MethodName) prog_88_method_8_code (2 : Nat) (Option.some (Jvm.ClassFile.FieldType.object "com/example/snow_goose/snowgoose/WireWriter"))).before args0 about1 = true := code_word (m := ⟨2, 4⟩) (meth := k2m4) (c := k2c4) (by decide +kernel) rfl rfl rfl (by decide +kernel)
set_option maxRecDepth 65536 in
theorem w_c14 : (Jvm.Cond.code ({ cls := "java/lang/Math", name := "max", desc := "(JJ)J" } : Jvm.MethodName) jdk_29_method_66_code (4 : Nat) (Option.some Jvm.ClassFile.FieldType.long)).before args0 about1 = true := code_word (m := ⟨4, 1⟩) (meth := k4m1) (c := k4c1) (by decide +kernel) rfl rfl rfl (by decide +kernel)
set_option maxRecDepth 65536 in
theorem w_c15 : (Jvm.Cond.code ({ cls := "java/lang/Math", name := "min", desc := "(JJ)J" } : Jvm.MethodName) jdk_29_method_70_code (4 : Nat) (Option.some Jvm.ClassFile.FieldType.long)).before args0 about1 = true := code_word (m := ⟨4, 3⟩) (meth := k4m3) (c := k4c3) (by decide +kernel) rfl rfl rfl (by decide +kernel)
set_option maxRecDepth 65536 in
theorem w_c16 : (Jvm.Cond.code ({ cls := "java/util/Arrays", name := "copyOf", desc := "([BI)[B" } : Jvm.MethodName) jdk_65_method_121_code (3 : Nat) (Option.some (Jvm.ClassFile.FieldType.array Jvm.ClassFile.FieldType.byte))).before args0 about1 = true := code_word (m := ⟨3, 1⟩) (meth := k3m1) (c := k3c1) (by decide +kernel) rfl rfl rfl (by decide +kernel)
def codes1 : List Jvm.Cond := [Jvm.Cond.code x code maxLocals ret, Jvm.Cond.code ({ cls := "com/example/snow_goose/snowgoose/WireWriter", name := "<init>", desc := "()V" } : Jvm.MethodName) prog_88_method_1_code (1 : Nat) (Option.none : Option Jvm.ClassFile.FieldType), Jvm.Cond.code ({ cls := "java/lang/Object", name := "<init>", desc := "()V" } : Jvm.MethodName) object_method_1_code (1 : Nat) (Option.none : Option Jvm.ClassFile.FieldType), Jvm.Cond.code ({ cls := "com/example/snow_goose/snowgoose/WireWriter", name := "writeInt", desc := "(I)Lcom/example/snow_goose/snowgoose/WireWriter;" } : Jvm.MethodName) prog_88_method_2_code (3 : Nat) (Option.some (Jvm.ClassFile.FieldType.object "com/example/snow_goose/snowgoose/WireWriter")), Jvm.Cond.code ({ cls := "com/example/snow_goose/snowgoose/WireWriter", name := "ensure", desc := "(I)V" } : Jvm.MethodName) prog_88_method_11_code (4 : Nat) (Option.none : Option Jvm.ClassFile.FieldType), Jvm.Cond.code ({ cls := "com/example/snow_goose/snowgoose/WireWriter", name := "toBytes", desc := "()[B" } : Jvm.MethodName) prog_88_method_10_code (1 : Nat) (Option.some (Jvm.ClassFile.FieldType.array Jvm.ClassFile.FieldType.byte)), Jvm.Cond.code ({ cls := "java/util/Arrays", name := "copyOfRange", desc := "([BII)[B" } : Jvm.MethodName) jdk_65_method_132_code (3 : Nat) (Option.some (Jvm.ClassFile.FieldType.array Jvm.ClassFile.FieldType.byte)), Jvm.Cond.code ({ cls := "java/util/Arrays", name := "copyOfRangeByte", desc := "([BII)[B" } : Jvm.MethodName) jdk_65_method_133_code (5 : Nat) (Option.some (Jvm.ClassFile.FieldType.array Jvm.ClassFile.FieldType.byte)), Jvm.Cond.code ({ cls := "java/util/Arrays", name := "checkLength", desc := "(II)V" } : Jvm.MethodName) jdk_65_method_131_code (2 : Nat) (Option.none : Option Jvm.ClassFile.FieldType), Jvm.Cond.code ({ cls := "java/lang/Math", name := "min", desc := "(II)I" } : Jvm.MethodName) jdk_29_method_69_code (2 : Nat) (Option.some Jvm.ClassFile.FieldType.int), Jvm.Cond.code ({ cls := "com/example/snow_goose/snowgoose/WireWriterToBytesPinLaw", name := "isInt", desc := "([BII)Z" } : Jvm.MethodName) method_2_code (3 : Nat) (Option.some Jvm.ClassFile.FieldType.boolean), Jvm.Cond.code ({ cls := "com/example/snow_goose/snowgoose/WireWriter", name := "writeLong", desc := "(J)Lcom/example/snow_goose/snowgoose/WireWriter;" } : Jvm.MethodName) prog_88_method_3_code (3 : Nat) (Option.some (Jvm.ClassFile.FieldType.object "com/example/snow_goose/snowgoose/WireWriter")), Jvm.Cond.code ({ cls := "com/example/snow_goose/snowgoose/WireWriter", name := "writeBoolean", desc := "(Z)Lcom/example/snow_goose/snowgoose/WireWriter;" } : Jvm.MethodName) prog_88_method_4_code (2 : Nat) (Option.some (Jvm.ClassFile.FieldType.object "com/example/snow_goose/snowgoose/WireWriter")), Jvm.Cond.code ({ cls := "com/example/snow_goose/snowgoose/WireWriter", name := "writeRaw", desc := "([B)Lcom/example/snow_goose/snowgoose/WireWriter;" } : Jvm.MethodName) prog_88_method_8_code (2 : Nat) (Option.some (Jvm.ClassFile.FieldType.object "com/example/snow_goose/snowgoose/WireWriter")), Jvm.Cond.code ({ cls := "java/lang/Math", name := "max", desc := "(JJ)J" } : Jvm.MethodName) jdk_29_method_66_code (4 : Nat) (Option.some Jvm.ClassFile.FieldType.long), Jvm.Cond.code ({ cls := "java/lang/Math", name := "min", desc := "(JJ)J" } : Jvm.MethodName) jdk_29_method_70_code (4 : Nat) (Option.some Jvm.ClassFile.FieldType.long), Jvm.Cond.code ({ cls := "java/util/Arrays", name := "copyOf", desc := "([BI)[B" } : Jvm.MethodName) jdk_65_method_121_code (3 : Nat) (Option.some (Jvm.ClassFile.FieldType.array Jvm.ClassFile.FieldType.byte))]
set_option maxRecDepth 65536 in
theorem codes_eq : words1.filter isCode = codes1 := rfl
theorem w_codes : ∀ c ∈ words1.filter isCode, c.before args0 about1 = true := by
  rw [codes_eq]
  intro c hc
  simp only [codes1, List.mem_cons, List.not_mem_nil, or_false] at hc
  rcases hc with rfl | rfl | rfl | rfl | rfl | rfl | rfl | rfl | rfl | rfl | rfl | rfl | rfl | rfl | rfl | rfl | rfl
  · exact w_c0
  · exact w_c1
  · exact w_c2
  · exact w_c3
  · exact w_c4
  · exact w_c5
  · exact w_c6
  · exact w_c7
  · exact w_c8
  · exact w_c9
  · exact w_c10
  · exact w_c11
  · exact w_c12
  · exact w_c13
  · exact w_c14
  · exact w_c15
  · exact w_c16
set_option maxRecDepth 65536 in
theorem w_t1 : (words1.take 24).all (fun c => isCode c || c.before args0 about1) = true := by decide +kernel
set_option maxRecDepth 65536 in
theorem w_t2 : ((words1.drop 24).take 24).all (fun c => isCode c || c.before args0 about1) = true := by decide +kernel
set_option maxRecDepth 65536 in
theorem w_t3 : (((words1.drop 24).drop 24).take 24).all (fun c => isCode c || c.before args0 about1) = true := by decide +kernel
set_option maxRecDepth 65536 in
theorem w_t4 : (((words1.drop 24).drop 24).drop 24).all (fun c => isCode c || c.before args0 about1) = true := by decide +kernel
theorem w_tables : (allAtoms (Jvm.Cond.code x code maxLocals ret :: tables_1)).before args0 about1 = true := by
  rw [allAtoms_all]
  show words1.all (fun c => c.before args0 about1) = true
  refine all_split ?_ w_codes
  rw [← List.take_append_drop 24 words1, List.all_append, w_t1, ← List.take_append_drop 24 (words1.drop 24), List.all_append, w_t2, ← List.take_append_drop 24 ((words1.drop 24).drop 24), List.all_append, w_t3, w_t4]
  rfl
set_option maxRecDepth 65536 in
theorem w_case : (Jvm.Cond.and given_1 narrow_1).before args0 about1 = true := by decide +kernel
theorem w_applies : (headSpec (Jvm.Cond.code x code maxLocals ret :: tables_1) room_1).applies x e0.platform about1 = true :=
  (Spec.applies_iff w_frames).mpr ⟨w_running, w_runnable, w_alone, w_named, w_hears, w_ripe, w_room, w_tables⟩
theorem atStart : AtStart classFile x code maxLocals ret World_1 tables_1 room_1 Calls_1 rest_1 Pre_1 launch0 p0 e0 about1 theMethod args0 below0 :=
  ⟨lists_1, trivial, launch0.admits_env _ _ _, launch0.least_env, fairChoices_fair.cas, fairChoices_fair.clock, w_frames, w_args, w_heap, w_applies, trivial, trivial, w_case⟩
end start1
theorem witness_1 : WitnessClaimed_1 := ⟨start1.p0, start1.e0, start1.about1, start1.theMethod, start1.args0, start1.below0, start1.atStart⟩
end Jvm.Pilot.@@N@@
