import JvmDerived
import JvmDerived.Pilot.@@N@@Statement
import JvmDerived.Pilot.@@N@@Code
set_option linter.unusedVariables false
set_option linter.unusedSimpArgs false
namespace Jvm.Pilot.@@N@@
open Jvm Jvm.ClassFile Sem Op Lib Jvm.Free Jvm.Stand Jvm.LawKit Jvm.RoadKit Bundle Jvm.Pilot.@@N@@.Jvm.D
section OwnKit
variable {p : Program} {l : Launch} {e : Env} {R : Room} {s : State} {m : MethodId} {args : Array Value} {below : List Frame} {meth : Method} {c : Code} {T T' : State} {locs : List Loc} {cells slots kc kn : Nat} {Q : Option Value → Heap → List Loc → Prop} {f f' : JFrame} {pc q q' : Nat} {Ls Ls' : Array Slot} {st : List Value} {Z : State} {a0 : Array Value} {h : Heap} {by' : ByteArray} {ml : Nat} {own nm : String} {ret : Option FieldType}
/-- from this state, with this frame on top, the body returns as Q says -/
def Run (p : Program) (e : Env) (below : List Frame) (s : State) (kc kn : Nat) (Q : Option Value → Heap → List Loc → Prop) (T : State) (f : JFrame) : Prop :=
  ∃ t o, Steps p.tables e below (T.setTop f) t ∧ t.status = .running ∧ Ended t below o ∧ ∃ v L, o = .returned v ∧ Q v t.heap L ∧ FrameEnd s o t L kc kn
theorem Run.by (st : ∀ t, Steps p.tables e below (T'.setTop f') t → Steps p.tables e below (T.setTop f) t) (k : Run p e below s kc kn Q T' f') : Run p e below s kc kn Q T f := by
  obtain ⟨t, o, h1, r⟩ := k
  exact ⟨t, o, st t h1, r⟩
theorem Run.on (k : Run p e below s kc kn Q T' f') (st : Steps p.tables e below (T.setTop f) (T'.setTop f')) : Run p e below s kc kn Q T f := k.by fun _ h1 => st.trans h1
/-- what a walk knows of its method throughout -/
def Fx (p : Program) (s : State) (m : MethodId) (meth : Method) (c : Code) (by' : ByteArray) (ml : Nat) (own nm : String) (ret : Option FieldType) (Z : State) : Prop :=
  p.tables.exec = Jvm.exec ∧ c.code = by' ∧ c.maxLocals = ml ∧ s.vm.findClass own = some m.cls ∧ Z.Warmed39 s.vm ∧ meth.sig.returnType = ret ∧ meth.locks = false ∧ meth.name = nm
def ushrI (x k : Int32) : Int32 := (x.toUInt32 >>> (k &&& 31).toUInt32).toInt32
def shrI (x k : Int32) : Int32 := x >>> (k &&& 31)
def shlI (x k : Int32) : Int32 := x <<< (k &&& 31)
def ushrL (x : Int64) (k : Int32) : Int64 := (x.toUInt64 >>> (k &&& 0x3f).toInt64.toUInt64).toInt64
def shlL (x : Int64) (k : Int32) : Int64 := x <<< (k &&& 0x3f).toInt64
theorem k_iloadN (K : Fx p s m meth c by' ml own nm ret Z) (X : Stand p l e R s m args below meth c T locs cells slots) {k' : Fin 4} {v : Int32} (hd : decode by' pc = .ok (.iload_n k', 1)) (hl : Ls[k'.val]? = some (.val (.int v))) (hq : pc + 1 = q) (k : Run p e below s kc kn Q T (mkF m q Ls (.int v :: st))) : Run p e below s kc kn Q T (mkF m pc Ls st) := by
  subst hq; exact k.by fun t => XS.iloadN X.here K.1 rfl (hb K.2.1 hd) hl
theorem k_iload (K : Fx p s m meth c by' ml own nm ret Z) (X : Stand p l e R s m args below meth c T locs cells slots) {k' : Nat} {v : Int32} (hd : decode by' pc = .ok (.iload k', 2)) (hl : Ls[k']? = some (.val (.int v))) (hq : pc + 2 = q) (k : Run p e below s kc kn Q T (mkF m q Ls (.int v :: st))) : Run p e below s kc kn Q T (mkF m pc Ls st) := by
  subst hq; exact k.by fun t => XS.iload X.here K.1 rfl (hb K.2.1 hd) hl
theorem k_lloadN (K : Fx p s m meth c by' ml own nm ret Z) (X : Stand p l e R s m args below meth c T locs cells slots) {k' : Fin 4} {v : Int64} (hd : decode by' pc = .ok (.lload_n k', 1)) (hl : Ls[k'.val]? = some (.val (.long v))) (hq : pc + 1 = q) (k : Run p e below s kc kn Q T (mkF m q Ls (.long v :: st))) : Run p e below s kc kn Q T (mkF m pc Ls st) := by
  subst hq; exact k.by fun t => XS.lloadN X.here K.1 rfl (hb K.2.1 hd) hl
theorem k_lload (K : Fx p s m meth c by' ml own nm ret Z) (X : Stand p l e R s m args below meth c T locs cells slots) {k' : Nat} {v : Int64} (hd : decode by' pc = .ok (.lload k', 2)) (hl : Ls[k']? = some (.val (.long v))) (hq : pc + 2 = q) (k : Run p e below s kc kn Q T (mkF m q Ls (.long v :: st))) : Run p e below s kc kn Q T (mkF m pc Ls st) := by
  subst hq; exact k.by fun t => XS.lload X.here K.1 rfl (hb K.2.1 hd) hl
theorem k_aloadN (K : Fx p s m meth c by' ml own nm ret Z) (X : Stand p l e R s m args below meth c T locs cells slots) {k' : Fin 4} {v : Value} (hd : decode by' pc = .ok (.aload_n k', 1)) (hl : Ls[k'.val]? = some (.val v)) (hv : v.isRef = true) (hq : pc + 1 = q) (k : Run p e below s kc kn Q T (mkF m q Ls (v :: st))) : Run p e below s kc kn Q T (mkF m pc Ls st) := by
  subst hq; exact k.by fun t => XS.aloadN X.here K.1 rfl (hb K.2.1 hd) hl hv
theorem k_aload (K : Fx p s m meth c by' ml own nm ret Z) (X : Stand p l e R s m args below meth c T locs cells slots) {k' : Nat} {v : Value} (hd : decode by' pc = .ok (.aload k', 2)) (hl : Ls[k']? = some (.val v)) (hv : v.isRef = true) (hq : pc + 2 = q) (k : Run p e below s kc kn Q T (mkF m q Ls (v :: st))) : Run p e below s kc kn Q T (mkF m pc Ls st) := by
  subst hq; exact k.by fun t => XS.aload X.here K.1 rfl (hb K.2.1 hd) hl hv
theorem k_istoreN (K : Fx p s m meth c by' ml own nm ret Z) (X : Stand p l e R s m args below meth c T locs cells slots) {k' : Fin 4} {v x : Int32} (hd : decode by' pc = .ok (.istore_n k', 1)) (hv : x = v) (hl : storeLocals Ls k'.val (.int v) = some Ls') (hq : pc + 1 = q) (k : Run p e below s kc kn Q T (mkF m q Ls' st)) : Run p e below s kc kn Q T (mkF m pc Ls (.int x :: st)) := by
  subst hq hv; exact k.by fun t => XS.istoreN X.here K.1 rfl (hb K.2.1 hd) rfl hl
theorem k_istore (K : Fx p s m meth c by' ml own nm ret Z) (X : Stand p l e R s m args below meth c T locs cells slots) {k' : Nat} {v x : Int32} (hd : decode by' pc = .ok (.istore k', 2)) (hv : x = v) (hl : storeLocals Ls k' (.int v) = some Ls') (hq : pc + 2 = q) (k : Run p e below s kc kn Q T (mkF m q Ls' st)) : Run p e below s kc kn Q T (mkF m pc Ls (.int x :: st)) := by
  subst hq hv; exact k.by fun t => XS.istore X.here K.1 rfl (hb K.2.1 hd) rfl hl
theorem k_lstoreN (K : Fx p s m meth c by' ml own nm ret Z) (X : Stand p l e R s m args below meth c T locs cells slots) {k' : Fin 4} {v x : Int64} (hd : decode by' pc = .ok (.lstore_n k', 1)) (hv : x = v) (hl : storeLocals Ls k'.val (.long v) = some Ls') (hq : pc + 1 = q) (k : Run p e below s kc kn Q T (mkF m q Ls' st)) : Run p e below s kc kn Q T (mkF m pc Ls (.long x :: st)) := by
  subst hq hv; exact k.by fun t => XS.lstoreN X.here K.1 rfl (hb K.2.1 hd) rfl hl
theorem k_lstore (K : Fx p s m meth c by' ml own nm ret Z) (X : Stand p l e R s m args below meth c T locs cells slots) {k' : Nat} {v x : Int64} (hd : decode by' pc = .ok (.lstore k', 2)) (hv : x = v) (hl : storeLocals Ls k' (.long v) = some Ls') (hq : pc + 2 = q) (k : Run p e below s kc kn Q T (mkF m q Ls' st)) : Run p e below s kc kn Q T (mkF m pc Ls (.long x :: st)) := by
  subst hq hv; exact k.by fun t => XS.lstore X.here K.1 rfl (hb K.2.1 hd) rfl hl
theorem k_astore (K : Fx p s m meth c by' ml own nm ret Z) (X : Stand p l e R s m args below meth c T locs cells slots) {k' : Nat} {v : Value} (hd : decode by' pc = .ok (.astore k', 2)) (hv : v.isRef = true) (hl : storeLocals Ls k' v = some Ls') (hq : pc + 2 = q) (k : Run p e below s kc kn Q T (mkF m q Ls' st)) : Run p e below s kc kn Q T (mkF m pc Ls (v :: st)) := by
  subst hq; exact k.by fun t => XS.astore X.here K.1 rfl (hb K.2.1 hd) rfl hv hl
theorem k_iinc (K : Fx p s m meth c by' ml own nm ret Z) (X : Stand p l e R s m args below meth c T locs cells slots) {k' : Nat} {cst : Int} {x v : Int32} (hd : decode by' pc = .ok (.iinc k' cst, 3)) (hg : Ls[k']? = some (.val (.int x))) (hv : x + Int32.ofInt cst = v) (hl : storeLocals Ls k' (.int v) = some Ls') (hq : pc + 3 = q) (k : Run p e below s kc kn Q T (mkF m q Ls' st)) : Run p e below s kc kn Q T (mkF m pc Ls st) := by
  subst hq hv; exact k.by fun t => XS.iinc X.here K.1 rfl (hb K.2.1 hd) hg hl
theorem k_iconst (K : Fx p s m meth c by' ml own nm ret Z) (X : Stand p l e R s m args below meth c T locs cells slots) {i : Int} {v : Int32} (hd : decode by' pc = .ok (.iconst i, 1)) (hv : Int32.ofInt i = v) (hq : pc + 1 = q) (k : Run p e below s kc kn Q T (mkF m q Ls (.int v :: st))) : Run p e below s kc kn Q T (mkF m pc Ls st) := by
  subst hq hv; exact k.by fun t => XS.iconst X.here K.1 rfl (hb K.2.1 hd)
theorem k_bipush (K : Fx p s m meth c by' ml own nm ret Z) (X : Stand p l e R s m args below meth c T locs cells slots) {i : Int} {v : Int32} (hd : decode by' pc = .ok (.bipush i, 2)) (hv : (Int8.ofInt i).toInt32 = v) (hq : pc + 2 = q) (k : Run p e below s kc kn Q T (mkF m q Ls (.int v :: st))) : Run p e below s kc kn Q T (mkF m pc Ls st) := by
  subst hq hv; exact k.by fun t => XS.bipush X.here K.1 rfl (hb K.2.1 hd)
theorem k_sipush (K : Fx p s m meth c by' ml own nm ret Z) (X : Stand p l e R s m args below meth c T locs cells slots) {i : Int} {v : Int32} (hd : decode by' pc = .ok (.sipush i, 3)) (hv : (Int16.ofInt i).toInt32 = v) (hq : pc + 3 = q) (k : Run p e below s kc kn Q T (mkF m q Ls (.int v :: st))) : Run p e below s kc kn Q T (mkF m pc Ls st) := by
  subst hq hv; exact k.by fun t => XS.sipush X.here K.1 rfl (hb K.2.1 hd)
theorem k_lconst0 (K : Fx p s m meth c by' ml own nm ret Z) (X : Stand p l e R s m args below meth c T locs cells slots) (hd : decode by' pc = .ok (.lconst 0, 1)) (hq : pc + 1 = q) (k : Run p e below s kc kn Q T (mkF m q Ls (.long 0 :: st))) : Run p e below s kc kn Q T (mkF m pc Ls st) := by
  subst hq; exact k.by fun t => XS.lconst X.here K.1 rfl (hb K.2.1 hd)
theorem k_lconst1 (K : Fx p s m meth c by' ml own nm ret Z) (X : Stand p l e R s m args below meth c T locs cells slots) (hd : decode by' pc = .ok (.lconst 1, 1)) (hq : pc + 1 = q) (k : Run p e below s kc kn Q T (mkF m q Ls (.long 1 :: st))) : Run p e below s kc kn Q T (mkF m pc Ls st) := by
  subst hq; exact k.by fun t => XS.lconst X.here K.1 rfl (hb K.2.1 hd)
theorem k_iadd (K : Fx p s m meth c by' ml own nm ret Z) (X : Stand p l e R s m args below meth c T locs cells slots) {x y : Int32} (hd : decode by' pc = .ok (.iadd, 1)) (hq : pc + 1 = q) (k : Run p e below s kc kn Q T (mkF m q Ls (.int (x + y) :: st))) : Run p e below s kc kn Q T (mkF m pc Ls (.int y :: .int x :: st)) := by
  subst hq; exact k.by fun t => XS.iadd X.here K.1 rfl (hb K.2.1 hd) rfl
theorem k_ladd (K : Fx p s m meth c by' ml own nm ret Z) (X : Stand p l e R s m args below meth c T locs cells slots) {x y : Int64} (hd : decode by' pc = .ok (.ladd, 1)) (hq : pc + 1 = q) (k : Run p e below s kc kn Q T (mkF m q Ls (.long (x + y) :: st))) : Run p e below s kc kn Q T (mkF m pc Ls (.long y :: .long x :: st)) := by
  subst hq; exact k.by fun t => XS.ladd X.here K.1 rfl (hb K.2.1 hd) rfl
theorem k_isub (K : Fx p s m meth c by' ml own nm ret Z) (X : Stand p l e R s m args below meth c T locs cells slots) {x y : Int32} (hd : decode by' pc = .ok (.isub, 1)) (hq : pc + 1 = q) (k : Run p e below s kc kn Q T (mkF m q Ls (.int (x - y) :: st))) : Run p e below s kc kn Q T (mkF m pc Ls (.int y :: .int x :: st)) := by
  subst hq; exact k.by fun t => XS.isub X.here K.1 rfl (hb K.2.1 hd) rfl
theorem k_lsub (K : Fx p s m meth c by' ml own nm ret Z) (X : Stand p l e R s m args below meth c T locs cells slots) {x y : Int64} (hd : decode by' pc = .ok (.lsub, 1)) (hq : pc + 1 = q) (k : Run p e below s kc kn Q T (mkF m q Ls (.long (x - y) :: st))) : Run p e below s kc kn Q T (mkF m pc Ls (.long y :: .long x :: st)) := by
  subst hq; exact k.by fun t => XS.lsub X.here K.1 rfl (hb K.2.1 hd) rfl
theorem k_lmul (K : Fx p s m meth c by' ml own nm ret Z) (X : Stand p l e R s m args below meth c T locs cells slots) {x y : Int64} (hd : decode by' pc = .ok (.lmul, 1)) (hq : pc + 1 = q) (k : Run p e below s kc kn Q T (mkF m q Ls (.long (x * y) :: st))) : Run p e below s kc kn Q T (mkF m pc Ls (.long y :: .long x :: st)) := by
  subst hq; exact k.by fun t => XS.lmul X.here K.1 rfl (hb K.2.1 hd) rfl
theorem k_iand (K : Fx p s m meth c by' ml own nm ret Z) (X : Stand p l e R s m args below meth c T locs cells slots) {x y : Int32} (hd : decode by' pc = .ok (.iand, 1)) (hq : pc + 1 = q) (k : Run p e below s kc kn Q T (mkF m q Ls (.int (x &&& y) :: st))) : Run p e below s kc kn Q T (mkF m pc Ls (.int y :: .int x :: st)) := by
  subst hq; exact k.by fun t => XS.iand X.here K.1 rfl (hb K.2.1 hd) rfl
theorem k_land (K : Fx p s m meth c by' ml own nm ret Z) (X : Stand p l e R s m args below meth c T locs cells slots) {x y : Int64} (hd : decode by' pc = .ok (.land, 1)) (hq : pc + 1 = q) (k : Run p e below s kc kn Q T (mkF m q Ls (.long (x &&& y) :: st))) : Run p e below s kc kn Q T (mkF m pc Ls (.long y :: .long x :: st)) := by
  subst hq; exact k.by fun t => XS.land X.here K.1 rfl (hb K.2.1 hd) rfl
theorem k_lor (K : Fx p s m meth c by' ml own nm ret Z) (X : Stand p l e R s m args below meth c T locs cells slots) {x y : Int64} (hd : decode by' pc = .ok (.lor, 1)) (hq : pc + 1 = q) (k : Run p e below s kc kn Q T (mkF m q Ls (.long (x ||| y) :: st))) : Run p e below s kc kn Q T (mkF m pc Ls (.long y :: .long x :: st)) := by
  subst hq; exact k.by fun t => XS.lor X.here K.1 rfl (hb K.2.1 hd) rfl
theorem k_ixor (K : Fx p s m meth c by' ml own nm ret Z) (X : Stand p l e R s m args below meth c T locs cells slots) {x y : Int32} (hd : decode by' pc = .ok (.ixor, 1)) (hq : pc + 1 = q) (k : Run p e below s kc kn Q T (mkF m q Ls (.int (x ^^^ y) :: st))) : Run p e below s kc kn Q T (mkF m pc Ls (.int y :: .int x :: st)) := by
  subst hq; exact k.by fun t => XS.ixor X.here K.1 rfl (hb K.2.1 hd) rfl
theorem k_ishl (K : Fx p s m meth c by' ml own nm ret Z) (X : Stand p l e R s m args below meth c T locs cells slots) {x y : Int32} (hd : decode by' pc = .ok (.ishl, 1)) (hq : pc + 1 = q) (k : Run p e below s kc kn Q T (mkF m q Ls (.int (shlI x y) :: st))) : Run p e below s kc kn Q T (mkF m pc Ls (.int y :: .int x :: st)) := by
  subst hq; exact k.by fun t => XS.ishl X.here K.1 rfl (hb K.2.1 hd) rfl
theorem k_lshl (K : Fx p s m meth c by' ml own nm ret Z) (X : Stand p l e R s m args below meth c T locs cells slots) {x : Int64} {y : Int32} (hd : decode by' pc = .ok (.lshl, 1)) (hq : pc + 1 = q) (k : Run p e below s kc kn Q T (mkF m q Ls (.long (shlL x y) :: st))) : Run p e below s kc kn Q T (mkF m pc Ls (.int y :: .long x :: st)) := by
  subst hq; exact k.by fun t => XS.lshl X.here K.1 rfl (hb K.2.1 hd) rfl
theorem k_ishr (K : Fx p s m meth c by' ml own nm ret Z) (X : Stand p l e R s m args below meth c T locs cells slots) {x y : Int32} (hd : decode by' pc = .ok (.ishr, 1)) (hq : pc + 1 = q) (k : Run p e below s kc kn Q T (mkF m q Ls (.int (shrI x y) :: st))) : Run p e below s kc kn Q T (mkF m pc Ls (.int y :: .int x :: st)) := by
  subst hq; exact k.by fun t => XS.ishr X.here K.1 rfl (hb K.2.1 hd) rfl
theorem k_iushr (K : Fx p s m meth c by' ml own nm ret Z) (X : Stand p l e R s m args below meth c T locs cells slots) {x y : Int32} (hd : decode by' pc = .ok (.iushr, 1)) (hq : pc + 1 = q) (k : Run p e below s kc kn Q T (mkF m q Ls (.int (ushrI x y) :: st))) : Run p e below s kc kn Q T (mkF m pc Ls (.int y :: .int x :: st)) := by
  subst hq; exact k.by fun t => XS.iushr X.here K.1 rfl (hb K.2.1 hd) rfl
theorem k_lushr (K : Fx p s m meth c by' ml own nm ret Z) (X : Stand p l e R s m args below meth c T locs cells slots) {x : Int64} {y : Int32} (hd : decode by' pc = .ok (.lushr, 1)) (hq : pc + 1 = q) (k : Run p e below s kc kn Q T (mkF m q Ls (.long (ushrL x y) :: st))) : Run p e below s kc kn Q T (mkF m pc Ls (.int y :: .long x :: st)) := by
  subst hq; exact k.by fun t => XS.lushr X.here K.1 rfl (hb K.2.1 hd) rfl
theorem k_i2l (K : Fx p s m meth c by' ml own nm ret Z) (X : Stand p l e R s m args below meth c T locs cells slots) {x : Int32} (hd : decode by' pc = .ok (.i2l, 1)) (hq : pc + 1 = q) (k : Run p e below s kc kn Q T (mkF m q Ls (.long x.toInt64 :: st))) : Run p e below s kc kn Q T (mkF m pc Ls (.int x :: st)) := by
  subst hq; exact k.by fun t => XS.i2l X.here K.1 rfl (hb K.2.1 hd) rfl
theorem k_l2i (K : Fx p s m meth c by' ml own nm ret Z) (X : Stand p l e R s m args below meth c T locs cells slots) {x : Int64} (hd : decode by' pc = .ok (.l2i, 1)) (hq : pc + 1 = q) (k : Run p e below s kc kn Q T (mkF m q Ls (.int x.toInt32 :: st))) : Run p e below s kc kn Q T (mkF m pc Ls (.long x :: st)) := by
  subst hq; exact k.by fun t => XS.l2i X.here K.1 rfl (hb K.2.1 hd) rfl
theorem k_idiv (K : Fx p s m meth c by' ml own nm ret Z) (X : Stand p l e R s m args below meth c T locs cells slots) {x y : Int32} (hd : decode by' pc = .ok (.idiv, 1)) (hy : y ≠ 0) (hq : pc + 1 = q) (k : Run p e below s kc kn Q T (mkF m q Ls (.int (x / y) :: st))) : Run p e below s kc kn Q T (mkF m pc Ls (.int y :: .int x :: st)) := by
  subst hq; exact k.by fun t => XS.idiv X.here K.1 rfl (hb K.2.1 hd) rfl hy
theorem k_ldiv (K : Fx p s m meth c by' ml own nm ret Z) (X : Stand p l e R s m args below meth c T locs cells slots) {x y : Int64} (hd : decode by' pc = .ok (.ldiv, 1)) (hy : y ≠ 0) (hq : pc + 1 = q) (k : Run p e below s kc kn Q T (mkF m q Ls (.long (x / y) :: st))) : Run p e below s kc kn Q T (mkF m pc Ls (.long y :: .long x :: st)) := by
  subst hq; exact k.by fun t => XS.ldiv X.here K.1 rfl (hb K.2.1 hd) rfl hy
theorem k_irem (K : Fx p s m meth c by' ml own nm ret Z) (X : Stand p l e R s m args below meth c T locs cells slots) {x y : Int32} (hd : decode by' pc = .ok (.irem, 1)) (hy : y ≠ 0) (hq : pc + 1 = q) (k : Run p e below s kc kn Q T (mkF m q Ls (.int (x % y) :: st))) : Run p e below s kc kn Q T (mkF m pc Ls (.int y :: .int x :: st)) := by
  subst hq; exact k.by fun t => iremM X K.1 rfl (hb K.2.1 hd) rfl hy
theorem k_lcmp (K : Fx p s m meth c by' ml own nm ret Z) (X : Stand p l e R s m args below meth c T locs cells slots) {x y : Int64} (hd : decode by' pc = .ok (.lcmp, 1)) (hq : pc + 1 = q) (k : Run p e below s kc kn Q T (mkF m q Ls (.int (lcmpW x y) :: st))) : Run p e below s kc kn Q T (mkF m pc Ls (.long y :: .long x :: st)) := by
  subst hq; exact k.by fun t => XS.lcmp X.here K.1 rfl (hb K.2.1 hd) rfl
theorem k_dup (K : Fx p s m meth c by' ml own nm ret Z) (X : Stand p l e R s m args below meth c T locs cells slots) {v : Value} (hd : decode by' pc = .ok (.dup, 1)) (hc : v.category = 1) (hq : pc + 1 = q) (k : Run p e below s kc kn Q T (mkF m q Ls (v :: v :: st))) : Run p e below s kc kn Q T (mkF m pc Ls (v :: st)) := by
  subst hq; exact k.by fun t => XS.dup X.here K.1 rfl (hb K.2.1 hd) rfl hc
theorem k_dup2 (K : Fx p s m meth c by' ml own nm ret Z) (X : Stand p l e R s m args below meth c T locs cells slots) {v u : Value} (hd : decode by' pc = .ok (.dup2, 1)) (hc : v.category = 1) (hc' : u.category = 1) (hq : pc + 1 = q) (k : Run p e below s kc kn Q T (mkF m q Ls (v :: u :: v :: u :: st))) : Run p e below s kc kn Q T (mkF m pc Ls (v :: u :: st)) := by
  subst hq; exact k.by fun t => XT.dup2 X.here K.1 rfl (hb K.2.1 hd) rfl hc hc'
theorem k_goto (K : Fx p s m meth c by' ml own nm ret Z) (X : Stand p l e R s m args below meth c T locs cells slots) {o : Int} (hd : decode by' pc = .ok (.goto o, 3)) (ho : 0 ≤ (pc : Int) + o) (hq : ((pc : Int) + o).toNat = q) (k : Run p e below s kc kn Q T (mkF m q Ls st)) : Run p e below s kc kn Q T (mkF m pc Ls st) := k.by fun t => XS.goto X.here K.1 rfl rfl (hb K.2.1 hd) ho hq
theorem k_nameJ {x v : Int64} (hv : x = v) (k : Run p e below s kc kn Q T (mkF m pc Ls (.long v :: st))) : Run p e below s kc kn Q T (mkF m pc Ls (.long x :: st)) := by
  subst hv; exact k
theorem k_if_eq_y (K : Fx p s m meth c by' ml own nm ret Z) (X : Stand p l e R s m args below meth c T locs cells slots) {x : Int32} {o : Int} (hd : decode by' pc = .ok (.ifCond .eq o, 3)) (hc : x = 0) (ho : 0 ≤ (pc : Int) + o) (hq : ((pc : Int) + o).toNat = q) (k : Run p e below s kc kn Q T (mkF m q Ls st)) : Run p e below s kc kn Q T (mkF m pc Ls (.int x :: st)) := k.by fun t => XS.ifYes X.here K.1 rfl rfl (hb K.2.1 hd) rfl ((if0 _ _).trans (teq hc).1) ho hq
theorem k_if_eq_n (K : Fx p s m meth c by' ml own nm ret Z) (X : Stand p l e R s m args below meth c T locs cells slots) {x : Int32} {o : Int} (hd : decode by' pc = .ok (.ifCond .eq o, 3)) (hc : ¬ x = 0) (hq : pc + 3 = q) (k : Run p e below s kc kn Q T (mkF m q Ls st)) : Run p e below s kc kn Q T (mkF m pc Ls (.int x :: st)) := by
  subst hq; exact k.by fun t => XS.ifNo X.here K.1 rfl (hb K.2.1 hd) rfl ((if0 _ _).trans (feq hc).1)
theorem k_if_eq (K : Fx p s m meth c by' ml own nm ret Z) (X : Stand p l e R s m args below meth c T locs cells slots) {x : Int32} {o : Int} (hd : decode by' pc = .ok (.ifCond .eq o, 3)) (ho : 0 ≤ (pc : Int) + o) (hq : ((pc : Int) + o).toNat = q) (hq' : pc + 3 = q') (ky : x = 0 → Run p e below s kc kn Q T (mkF m q Ls st)) (kno : ¬ x = 0 → Run p e below s kc kn Q T (mkF m q' Ls st)) : Run p e below s kc kn Q T (mkF m pc Ls (.int x :: st)) := by
  by_cases hc : x = 0
  · exact k_if_eq_y K X hd hc ho hq (ky hc)
  · exact k_if_eq_n K X hd hc hq' (kno hc)
theorem k_icmp_eq_y (K : Fx p s m meth c by' ml own nm ret Z) (X : Stand p l e R s m args below meth c T locs cells slots) {x y : Int32} {o : Int} (hd : decode by' pc = .ok (.if_icmp .eq o, 3)) (hc : x = y) (ho : 0 ≤ (pc : Int) + o) (hq : ((pc : Int) + o).toNat = q) (k : Run p e below s kc kn Q T (mkF m q Ls st)) : Run p e below s kc kn Q T (mkF m pc Ls (.int y :: .int x :: st)) := k.by fun t => XS.icmpYes X.here K.1 rfl rfl (hb K.2.1 hd) rfl (teq hc).1 ho hq
theorem k_icmp_eq_n (K : Fx p s m meth c by' ml own nm ret Z) (X : Stand p l e R s m args below meth c T locs cells slots) {x y : Int32} {o : Int} (hd : decode by' pc = .ok (.if_icmp .eq o, 3)) (hc : ¬ x = y) (hq : pc + 3 = q) (k : Run p e below s kc kn Q T (mkF m q Ls st)) : Run p e below s kc kn Q T (mkF m pc Ls (.int y :: .int x :: st)) := by
  subst hq; exact k.by fun t => XS.icmpNo X.here K.1 rfl (hb K.2.1 hd) rfl (feq hc).1
theorem k_icmp_eq (K : Fx p s m meth c by' ml own nm ret Z) (X : Stand p l e R s m args below meth c T locs cells slots) {x y : Int32} {o : Int} (hd : decode by' pc = .ok (.if_icmp .eq o, 3)) (ho : 0 ≤ (pc : Int) + o) (hq : ((pc : Int) + o).toNat = q) (hq' : pc + 3 = q') (ky : x = y → Run p e below s kc kn Q T (mkF m q Ls st)) (kno : ¬ x = y → Run p e below s kc kn Q T (mkF m q' Ls st)) : Run p e below s kc kn Q T (mkF m pc Ls (.int y :: .int x :: st)) := by
  by_cases hc : x = y
  · exact k_icmp_eq_y K X hd hc ho hq (ky hc)
  · exact k_icmp_eq_n K X hd hc hq' (kno hc)
theorem k_if_ne_y (K : Fx p s m meth c by' ml own nm ret Z) (X : Stand p l e R s m args below meth c T locs cells slots) {x : Int32} {o : Int} (hd : decode by' pc = .ok (.ifCond .ne o, 3)) (hc : ¬ x = 0) (ho : 0 ≤ (pc : Int) + o) (hq : ((pc : Int) + o).toNat = q) (k : Run p e below s kc kn Q T (mkF m q Ls st)) : Run p e below s kc kn Q T (mkF m pc Ls (.int x :: st)) := k.by fun t => XS.ifYes X.here K.1 rfl rfl (hb K.2.1 hd) rfl ((if0 _ _).trans (feq hc).2) ho hq
theorem k_if_ne_n (K : Fx p s m meth c by' ml own nm ret Z) (X : Stand p l e R s m args below meth c T locs cells slots) {x : Int32} {o : Int} (hd : decode by' pc = .ok (.ifCond .ne o, 3)) (hc : x = 0) (hq : pc + 3 = q) (k : Run p e below s kc kn Q T (mkF m q Ls st)) : Run p e below s kc kn Q T (mkF m pc Ls (.int x :: st)) := by
  subst hq; exact k.by fun t => XS.ifNo X.here K.1 rfl (hb K.2.1 hd) rfl ((if0 _ _).trans (teq hc).2)
theorem k_icmp_ne_y (K : Fx p s m meth c by' ml own nm ret Z) (X : Stand p l e R s m args below meth c T locs cells slots) {x y : Int32} {o : Int} (hd : decode by' pc = .ok (.if_icmp .ne o, 3)) (hc : ¬ x = y) (ho : 0 ≤ (pc : Int) + o) (hq : ((pc : Int) + o).toNat = q) (k : Run p e below s kc kn Q T (mkF m q Ls st)) : Run p e below s kc kn Q T (mkF m pc Ls (.int y :: .int x :: st)) := k.by fun t => XS.icmpYes X.here K.1 rfl rfl (hb K.2.1 hd) rfl (feq hc).2 ho hq
theorem k_icmp_ne_n (K : Fx p s m meth c by' ml own nm ret Z) (X : Stand p l e R s m args below meth c T locs cells slots) {x y : Int32} {o : Int} (hd : decode by' pc = .ok (.if_icmp .ne o, 3)) (hc : x = y) (hq : pc + 3 = q) (k : Run p e below s kc kn Q T (mkF m q Ls st)) : Run p e below s kc kn Q T (mkF m pc Ls (.int y :: .int x :: st)) := by
  subst hq; exact k.by fun t => XS.icmpNo X.here K.1 rfl (hb K.2.1 hd) rfl (teq hc).2
theorem k_icmp_ne (K : Fx p s m meth c by' ml own nm ret Z) (X : Stand p l e R s m args below meth c T locs cells slots) {x y : Int32} {o : Int} (hd : decode by' pc = .ok (.if_icmp .ne o, 3)) (ho : 0 ≤ (pc : Int) + o) (hq : ((pc : Int) + o).toNat = q) (hq' : pc + 3 = q') (ky : ¬ x = y → Run p e below s kc kn Q T (mkF m q Ls st)) (kno : x = y → Run p e below s kc kn Q T (mkF m q' Ls st)) : Run p e below s kc kn Q T (mkF m pc Ls (.int y :: .int x :: st)) := by
  by_cases hc : x = y
  · exact k_icmp_ne_n K X hd hc hq' (kno hc)
  · exact k_icmp_ne_y K X hd hc ho hq (ky hc)
theorem k_lcmp_ne_y (K : Fx p s m meth c by' ml own nm ret Z) (X : Stand p l e R s m args below meth c T locs cells slots) {x y : Int64} {o : Int} (hd : decode by' pc = .ok (.ifCond .ne o, 3)) (hc : ¬ x = y) (ho : 0 ≤ (pc : Int) + o) (hq : ((pc : Int) + o).toNat = q) (k : Run p e below s kc kn Q T (mkF m q Ls st)) : Run p e below s kc kn Q T (mkF m pc Ls (.int (lcmpW x y) :: st)) := k_if_ne_y K X hd (fun z => hc ((lw_eq x y).mp z)) ho hq k
theorem k_lcmp_ne_n (K : Fx p s m meth c by' ml own nm ret Z) (X : Stand p l e R s m args below meth c T locs cells slots) {x y : Int64} {o : Int} (hd : decode by' pc = .ok (.ifCond .ne o, 3)) (hc : x = y) (hq : pc + 3 = q) (k : Run p e below s kc kn Q T (mkF m q Ls st)) : Run p e below s kc kn Q T (mkF m pc Ls (.int (lcmpW x y) :: st)) := k_if_ne_n K X hd ((lw_eq x y).mpr hc) hq k
theorem k_lcmp_ne (K : Fx p s m meth c by' ml own nm ret Z) (X : Stand p l e R s m args below meth c T locs cells slots) {x y : Int64} {o : Int} (hd : decode by' pc = .ok (.ifCond .ne o, 3)) (ho : 0 ≤ (pc : Int) + o) (hq : ((pc : Int) + o).toNat = q) (hq' : pc + 3 = q') (ky : ¬ x = y → Run p e below s kc kn Q T (mkF m q Ls st)) (kno : x = y → Run p e below s kc kn Q T (mkF m q' Ls st)) : Run p e below s kc kn Q T (mkF m pc Ls (.int (lcmpW x y) :: st)) := by
  by_cases hc : x = y
  · exact k_lcmp_ne_n K X hd hc hq' (kno hc)
  · exact k_lcmp_ne_y K X hd hc ho hq (ky hc)
theorem k_icmp_lt_n (K : Fx p s m meth c by' ml own nm ret Z) (X : Stand p l e R s m args below meth c T locs cells slots) {x y : Int32} {o : Int} (hd : decode by' pc = .ok (.if_icmp .lt o, 3)) (hc : ¬ x < y) (hq : pc + 3 = q) (k : Run p e below s kc kn Q T (mkF m q Ls st)) : Run p e below s kc kn Q T (mkF m pc Ls (.int y :: .int x :: st)) := by
  subst hq; exact k.by fun t => XS.icmpNo X.here K.1 rfl (hb K.2.1 hd) rfl (flt hc).1
theorem k_icmp_ge_y (K : Fx p s m meth c by' ml own nm ret Z) (X : Stand p l e R s m args below meth c T locs cells slots) {x y : Int32} {o : Int} (hd : decode by' pc = .ok (.if_icmp .ge o, 3)) (hc : ¬ x < y) (ho : 0 ≤ (pc : Int) + o) (hq : ((pc : Int) + o).toNat = q) (k : Run p e below s kc kn Q T (mkF m q Ls st)) : Run p e below s kc kn Q T (mkF m pc Ls (.int y :: .int x :: st)) := k.by fun t => XS.icmpYes X.here K.1 rfl rfl (hb K.2.1 hd) rfl (flt hc).2.1 ho hq
theorem k_icmp_ge_n (K : Fx p s m meth c by' ml own nm ret Z) (X : Stand p l e R s m args below meth c T locs cells slots) {x y : Int32} {o : Int} (hd : decode by' pc = .ok (.if_icmp .ge o, 3)) (hc : x < y) (hq : pc + 3 = q) (k : Run p e below s kc kn Q T (mkF m q Ls st)) : Run p e below s kc kn Q T (mkF m pc Ls (.int y :: .int x :: st)) := by
  subst hq; exact k.by fun t => XS.icmpNo X.here K.1 rfl (hb K.2.1 hd) rfl (tlt hc).2.1
theorem k_if_gt_y (K : Fx p s m meth c by' ml own nm ret Z) (X : Stand p l e R s m args below meth c T locs cells slots) {x : Int32} {o : Int} (hd : decode by' pc = .ok (.ifCond .gt o, 3)) (hc : 0 < x) (ho : 0 ≤ (pc : Int) + o) (hq : ((pc : Int) + o).toNat = q) (k : Run p e below s kc kn Q T (mkF m q Ls st)) : Run p e below s kc kn Q T (mkF m pc Ls (.int x :: st)) := k.by fun t => XS.ifYes X.here K.1 rfl rfl (hb K.2.1 hd) rfl ((if0 _ _).trans (tlt hc).2.2.1) ho hq
theorem k_if_gt_n (K : Fx p s m meth c by' ml own nm ret Z) (X : Stand p l e R s m args below meth c T locs cells slots) {x : Int32} {o : Int} (hd : decode by' pc = .ok (.ifCond .gt o, 3)) (hc : ¬ 0 < x) (hq : pc + 3 = q) (k : Run p e below s kc kn Q T (mkF m q Ls st)) : Run p e below s kc kn Q T (mkF m pc Ls (.int x :: st)) := by
  subst hq; exact k.by fun t => XS.ifNo X.here K.1 rfl (hb K.2.1 hd) rfl ((if0 _ _).trans (flt hc).2.2.1)
theorem k_if_gt (K : Fx p s m meth c by' ml own nm ret Z) (X : Stand p l e R s m args below meth c T locs cells slots) {x : Int32} {o : Int} (hd : decode by' pc = .ok (.ifCond .gt o, 3)) (ho : 0 ≤ (pc : Int) + o) (hq : ((pc : Int) + o).toNat = q) (hq' : pc + 3 = q') (ky : 0 < x → Run p e below s kc kn Q T (mkF m q Ls st)) (kno : ¬ 0 < x → Run p e below s kc kn Q T (mkF m q' Ls st)) : Run p e below s kc kn Q T (mkF m pc Ls (.int x :: st)) := by
  by_cases hc : 0 < x
  · exact k_if_gt_y K X hd hc ho hq (ky hc)
  · exact k_if_gt_n K X hd hc hq' (kno hc)
theorem k_icmp_gt_n (K : Fx p s m meth c by' ml own nm ret Z) (X : Stand p l e R s m args below meth c T locs cells slots) {x y : Int32} {o : Int} (hd : decode by' pc = .ok (.if_icmp .gt o, 3)) (hc : ¬ y < x) (hq : pc + 3 = q) (k : Run p e below s kc kn Q T (mkF m q Ls st)) : Run p e below s kc kn Q T (mkF m pc Ls (.int y :: .int x :: st)) := by
  subst hq; exact k.by fun t => XS.icmpNo X.here K.1 rfl (hb K.2.1 hd) rfl (flt hc).2.2.1
theorem k_icmp_le_y (K : Fx p s m meth c by' ml own nm ret Z) (X : Stand p l e R s m args below meth c T locs cells slots) {x y : Int32} {o : Int} (hd : decode by' pc = .ok (.if_icmp .le o, 3)) (hc : ¬ y < x) (ho : 0 ≤ (pc : Int) + o) (hq : ((pc : Int) + o).toNat = q) (k : Run p e below s kc kn Q T (mkF m q Ls st)) : Run p e below s kc kn Q T (mkF m pc Ls (.int y :: .int x :: st)) := k.by fun t => XS.icmpYes X.here K.1 rfl rfl (hb K.2.1 hd) rfl (flt hc).2.2.2 ho hq
theorem k_icmp_le_n (K : Fx p s m meth c by' ml own nm ret Z) (X : Stand p l e R s m args below meth c T locs cells slots) {x y : Int32} {o : Int} (hd : decode by' pc = .ok (.if_icmp .le o, 3)) (hc : y < x) (hq : pc + 3 = q) (k : Run p e below s kc kn Q T (mkF m q Ls st)) : Run p e below s kc kn Q T (mkF m pc Ls (.int y :: .int x :: st)) := by
  subst hq; exact k.by fun t => XS.icmpNo X.here K.1 rfl (hb K.2.1 hd) rfl (tlt hc).2.2.2
theorem k_icmp_le (K : Fx p s m meth c by' ml own nm ret Z) (X : Stand p l e R s m args below meth c T locs cells slots) {x y : Int32} {o : Int} (hd : decode by' pc = .ok (.if_icmp .le o, 3)) (ho : 0 ≤ (pc : Int) + o) (hq : ((pc : Int) + o).toNat = q) (hq' : pc + 3 = q') (ky : ¬ y < x → Run p e below s kc kn Q T (mkF m q Ls st)) (kno : y < x → Run p e below s kc kn Q T (mkF m q' Ls st)) : Run p e below s kc kn Q T (mkF m pc Ls (.int y :: .int x :: st)) := by
  by_cases hc : y < x
  · exact k_icmp_le_n K X hd hc hq' (kno hc)
  · exact k_icmp_le_y K X hd hc ho hq (ky hc)
theorem k_ldc (K : Fx p s m meth c by' ml own nm ret Z) (X : Stand p l e R s m args below meth c T locs cells slots) {i : Nat} {v : Int32} (hd : decode by' pc = .ok (.ldc i, 2)) (w : (Cond.constant own i v).before a0 Z = true) (hq : pc + 2 = q) (k : Run p e below s kc kn Q T (mkF m q Ls (.int v :: st))) : Run p e below s kc kn Q T (mkF m pc Ls st) := by
  subst hq; exact k.by fun t => X.ldcInt K.1 K.2.2.2.1 (mvT K.2.2.2.2.1 w) (g := mkF m pc Ls st) rfl (hb K.2.1 hd) t
theorem k_ldc_w (K : Fx p s m meth c by' ml own nm ret Z) (X : Stand p l e R s m args below meth c T locs cells slots) {i : Nat} {v : Int32} (hd : decode by' pc = .ok (.ldc_w i, 3)) (w : (Cond.constant own i v).before a0 Z = true) (hq : pc + 3 = q) (k : Run p e below s kc kn Q T (mkF m q Ls (.int v :: st))) : Run p e below s kc kn Q T (mkF m pc Ls st) := by
  subst hq; exact k.by fun t => X.ldcwInt K.1 K.2.2.2.1 (mvT K.2.2.2.2.1 w) (g := mkF m pc Ls st) rfl (hb K.2.1 hd) t
theorem k_ldc2 (K : Fx p s m meth c by' ml own nm ret Z) (X : Stand p l e R s m args below meth c T locs cells slots) {i : Nat} {v : Int64} (hd : decode by' pc = .ok (.ldc2_w i, 3)) (w : (Cond.constantLong own i v).before a0 Z = true) (hq : pc + 3 = q) (k : Run p e below s kc kn Q T (mkF m q Ls (.long v :: st))) : Run p e below s kc kn Q T (mkF m pc Ls st) := by
  subst hq; exact k.by fun t => X.ldc2Long K.1 K.2.2.2.1 (mvT K.2.2.2.2.1 w) (g := mkF m pc Ls st) rfl (hb K.2.1 hd) t
theorem k_reti (K : Fx p s m meth c by' ml own nm (some .int) Z) (X : Stand p l e R s m args below meth c T locs cells slots) {x : Int32} (eT : T.heap = h) (hd : decode by' pc = .ok (.ireturn, 1)) (hc : cells ≤ kc) (hn : slots ≤ kn) (hQ : Q (some (.int x)) h locs) : Run p e below s kc kn Q T (mkF m pc Ls [.int x]) := by
  subst eT
  have hlk := K.2.2.2.2.2.2.1
  obtain ⟨fs, hr, hrun, hended, hW, hsame⟩ := X.leave (v := (some (.int x))) (fun z => by rw [K.2.2.2.2.2.1] at z; cases z)
  exact ⟨_, _, X.ireturnOut K.1 K.2.2.2.2.2.1 rfl (Or.inl rfl) (hb K.2.1 hd) hr, hrun, hended, _, _, rfl, hQ, ⟨_, rfl⟩, hW, hsame.mono hc hn⟩
theorem k_retz (K : Fx p s m meth c by' ml own nm (some .boolean) Z) (X : Stand p l e R s m args below meth c T locs cells slots) {x : Int32} (eT : T.heap = h) (hd : decode by' pc = .ok (.ireturn, 1)) (hc : cells ≤ kc) (hn : slots ≤ kn) (hQ : Q (some (.int (nar .boolean x))) h locs) : Run p e below s kc kn Q T (mkF m pc Ls [.int x]) := by
  subst eT
  have hlk := K.2.2.2.2.2.2.1
  obtain ⟨fs, hr, hrun, hended, hW, hsame⟩ := X.leave (v := (some (.int (nar .boolean x)))) (fun z => by rw [K.2.2.2.2.2.1] at z; cases z)
  exact ⟨_, _, retN X K.1 K.2.2.2.2.2.1 (by simp) (hb K.2.1 hd) hr, hrun, hended, _, _, rfl, hQ, ⟨_, rfl⟩, hW, hsame.mono hc hn⟩
theorem k_retl (K : Fx p s m meth c by' ml own nm (some .long) Z) (X : Stand p l e R s m args below meth c T locs cells slots) {x : Int64} (eT : T.heap = h) (hd : decode by' pc = .ok (.lreturn, 1)) (hc : cells ≤ kc) (hn : slots ≤ kn) (hQ : Q (some (.long x)) h locs) : Run p e below s kc kn Q T (mkF m pc Ls [.long x]) := by
  subst eT
  have hlk := K.2.2.2.2.2.2.1
  obtain ⟨fs, hr, hrun, hended, hW, hsame⟩ := X.leave (v := (some (.long x))) (fun z => by rw [K.2.2.2.2.2.1] at z; cases z)
  exact ⟨_, _, X.lreturnOut K.1 K.2.2.2.2.2.1 (hb K.2.1 hd) hr, hrun, hended, _, _, rfl, hQ, ⟨_, rfl⟩, hW, hsame.mono hc hn⟩
theorem k_retv (K : Fx p s m meth c by' ml own nm none Z) (X : Stand p l e R s m args below meth c T locs cells slots)  (eT : T.heap = h) (hd : decode by' pc = .ok (.return_, 1)) (hc : cells ≤ kc) (hn : slots ≤ kn) (hQ : Q none h locs) : Run p e below s kc kn Q T (mkF m pc Ls []) := by
  subst eT
  have hlk := K.2.2.2.2.2.2.1
  obtain ⟨fs, hr, hrun, hended, hW, hsame⟩ := X.leave (v := none) (fun _ => rfl)
  exact ⟨_, _, X.returnOut K.1 K.2.2.2.2.2.1 (hb K.2.1 hd) hr, hrun, hended, _, _, rfl, hQ, ⟨_, rfl⟩, hW, hsame.mono hc hn⟩
/-- a contract: with these arguments over this heap the body returns as Q says, within the room -/
abbrev Met (l : Launch) (y : MethodName) (bytes : ByteArray) (maxL : Nat) (ret : Option FieldType) (ws : List Jvm.Cond) (rm : Room) (Z : State) (as' : Array Value) (h0 : Heap) (Q : Option Value → Heap → List Loc → Prop) : Prop :=
  MetFree l y (head1 (Jvm.Cond.code y bytes maxL ret :: ws) rm) (fun a U => a = as' ∧ Z.Warmed39 U.vm ∧ U.heap = h0) (fun _ _ _ _ _ => True) (fun _ U o U' => ∃ v L, o = .returned v ∧ Q v U'.heap L ∧ FrameEnd U o U' L rm.cells rm.slots)
theorem enter {y : MethodName} {bytes : ByteArray} {maxL : Nat} {ws : List Jvm.Cond} {rm : Room} {as' : Array Value} {h0 : Heap} (hpl : plainFor y = true) (hef : ∀ m, entryFrame m as' maxL = mkF m 0 Ls [])
    (body : ∀ p e s m below meth c T kc kn Q', rm.cells ≤ kc → rm.slots ≤ kn → (∀ v h L, Q v h L → Q' v h L) → Fx p s m meth c bytes maxL y.cls y.name ret Z → Stand p l e rm s m as' below meth c T [] 0 0 → T.heap = h0 → Run p e below s kc kn Q' T (mkF m 0 Ls [])) : Met l y bytes maxL ret ws rm Z as' h0 Q := by
  refine MetFree.of_bodySF hpl hisR ?_
  intro p e s m args below meth c s₁ Bd hml0 hP hK
  obtain ⟨rfl, hZ, hh⟩ := hP
  obtain ⟨t, o, h1, h2, h3, v, L, h4, h5, h6⟩ := body p e s m below meth c s₁ _ _ Q (Nat.le_refl _) (Nat.le_refl _) (fun _ _ _ z => z) ⟨Bd.exec, Bd.bytes, hml0, findClass_of_methodNamed Bd.named, hZ, Bd.returns, BodyLoose.notSynchronized Bd, (name_of_methodNamed Bd.named Bd.method).1⟩ (Stand.of_body Bd) (by rw [← hh, Bd.state]; rfl)
  exact ⟨t, o, castTop (hef m) h1, h2, h3, v, L, h4, h5, h6⟩
theorem k_static (K : Fx p s m meth c by' ml own nm ret Z) (X : Stand p l e R s m args below meth c T locs cells slots) (eT : T.heap = h) {y : MethodName} {bytes : ByteArray} {maxL i W : Nat} {rt : Option FieldType} {rm : Room} {as' : Array Value} {Q' : Option Value → Heap → List Loc → Prop}
    (hd : decode by' pc = .ok (.invokestatic i, 3)) (w1 : (Cond.methodLink own i y).before a0 Z = true) (w2 : (Cond.static y).before a0 Z = true) (w3 : (Cond.initialized y.cls).before a0 Z = true) (w4 : (Cond.code y bytes maxL rt).before a0 Z = true) (hy : y.cls ≠ "java/lang/invoke/MethodHandle" ∧ y.cls ≠ "java/lang/invoke/VarHandle")
    (hM : Met l y bytes maxL rt [] rm Z as' h Q') (hf : rm.frames + 1 ≤ R.frames) (hl : W + (maxL + 11) + rm.locals ≤ R.locals) (hc : cells + rm.cells ≤ R.cells) (hn : slots + rm.slots ≤ R.slots) (hsz : Ls.size = ml)
    {sig : MethodDescriptor} (hdesc : parseMethodDescriptor y.desc = some sig) {argsL rest : List Value} (ha : as' = argsL.toArray) (hlen : argsL.length = sig.parameters.length) (hst : st = argsL.reverse ++ rest) (hW : (rest.map fun v => v.category).sum ≤ W) (hq : pc + 3 = q)
    (k : ∀ v T' L, Stand p l e R s m args below meth c T' (locs ++ L) (cells + rm.cells) (slots + rm.slots) → Q' v T'.heap L → Run p e below s kc kn Q T' (mkF m q Ls (v.toList ++ rest))) : Run p e below s kc kn Q T (mkF m pc Ls st) := by
  have hZ := K.2.2.2.2.1
  subst hq
  obtain ⟨v, _, ⟨T2, L2, k2, n2⟩, -, X2, ⟨Lc, hQ2, l2, y2, z2⟩, st2⟩ := Jvm.LawKit.callS X K.1 (y := y) K.2.2.2.1 (mvT hZ w1) (mvT hZ w2) (mvT hZ w3) (mvT hZ w4) hy (backOf (W := W) hM hZ w4 w3 hf hl) (g := mkF m pc Ls st) rfl (by rw [K.2.2.1]; exact hsz) (argsL := argsL) (rest := rest) (fun sg hs => by cases hdesc.symm.trans hs; exact hlen) hst (by show 2 * 0 + _ ≤ _; omega) (hb K.2.1 hd) (fun _ _ => ⟨ha.symm, eT, hc, hn⟩)
  dsimp only [Pt.U, Pt.locs, Pt.cells, Pt.slots] at X2 l2 y2 z2 st2 hQ2
  subst l2 y2 z2
  exact (k v T2 Lc X2 hQ2).by st2
/-- a static callee that leaves the heap as it was -/
theorem k_staticP (K : Fx p s m meth c by' ml own nm ret Z) (X : Stand p l e R s m args below meth c T locs cells slots) (eT : T.heap = h) {y : MethodName} {bytes : ByteArray} {maxL i W fr lo : Nat} {rt : Option FieldType} {as' : Array Value} {w : Value}
    (hd : decode by' pc = .ok (.invokestatic i, 3)) (w1 : (Cond.methodLink own i y).before a0 Z = true) (w2 : (Cond.static y).before a0 Z = true) (w3 : (Cond.initialized y.cls).before a0 Z = true) (w4 : (Cond.code y bytes maxL rt).before a0 Z = true) (hy : y.cls ≠ "java/lang/invoke/MethodHandle" ∧ y.cls ≠ "java/lang/invoke/VarHandle")
    (hM : Met l y bytes maxL rt [] { frames := fr, cells := 0, slots := 0, locals := lo } Z as' h (fun v h' L => v = some w ∧ h' = h ∧ L = [])) (hf : fr + 1 ≤ R.frames) (hl : W + (maxL + 11) + lo ≤ R.locals) (hc : cells ≤ R.cells) (hn : slots ≤ R.slots) (hsz : Ls.size = ml)
    {sig : MethodDescriptor} (hdesc : parseMethodDescriptor y.desc = some sig) {argsL rest : List Value} (ha : as' = argsL.toArray) (hlen : argsL.length = sig.parameters.length) (hst : st = argsL.reverse ++ rest) (hW : (rest.map fun v => v.category).sum ≤ W) (hq : pc + 3 = q)
    (k : ∀ T', Stand p l e R s m args below meth c T' locs cells slots → T'.heap = h → Run p e below s kc kn Q T' (mkF m q Ls (w :: rest))) : Run p e below s kc kn Q T (mkF m pc Ls st) := by
  refine k_static K X eT hd w1 w2 w3 w4 hy hM hf hl hc hn hsz hdesc ha hlen hst hW hq ?_
  rintro v T' L X' ⟨rfl, h2, rfl⟩
  rw [List.append_nil] at X'
  exact k T' X' h2
theorem k_special (K : Fx p s m meth c by' ml own nm ret Z) (X : Stand p l e R s m args below meth c T locs cells slots) (eT : T.heap = h) {y : MethodName} {bytes : ByteArray} {maxL i W : Nat} {rm : Room} {as' : Array Value} {Q' : Option Value → Heap → List Loc → Prop} {a : Addr}
    (hd : decode by' pc = .ok (.invokespecial i, 3)) (hy1 : y.name = "<init>") (w1 : (Cond.methodLink own i y).before a0 Z = true) (w2 : (Cond.instanceMethod y).before a0 Z = true) (w3 : (Cond.initialized y.cls).before a0 Z = true) (w4 : (Cond.code y bytes maxL none).before a0 Z = true) (hy : y.cls ≠ "java/lang/invoke/MethodHandle" ∧ y.cls ≠ "java/lang/invoke/VarHandle")
    (hM : Met l y bytes maxL none [] rm Z as' h Q') (hf : rm.frames + 1 ≤ R.frames) (hl : W + (maxL + 11) + rm.locals ≤ R.locals) (hc : cells + rm.cells ≤ R.cells) (hn : slots + rm.slots ≤ R.slots) (hsz : Ls.size = ml)
    {sig : MethodDescriptor} (hdesc : parseMethodDescriptor y.desc = some sig) {argsL rest : List Value} (ha : as' = (.ref a :: argsL).toArray) (hlen : argsL.length = sig.parameters.length) (hst : st = argsL.reverse ++ .ref a :: rest) (hW : (rest.map fun v => v.category).sum ≤ W) (hq : pc + 3 = q)
    (k : ∀ v T' L, Stand p l e R s m args below meth c T' (locs ++ L) (cells + rm.cells) (slots + rm.slots) → Q' v T'.heap L → Run p e below s kc kn Q T' (mkF m q Ls (v.toList ++ rest))) : Run p e below s kc kn Q T (mkF m pc Ls st) := by
  have hZ := K.2.2.2.2.1
  subst hq
  obtain ⟨v, _, ⟨T2, L2, k2, n2⟩, -, X2, ⟨Lc, hQ2, l2, y2, z2⟩, st2⟩ := X.specialBack K.1 (y := y) hy1 K.2.2.2.1 (mvT hZ w1) (mvT hZ w2) (mvT hZ w4) hy (backOf (W := W) hM hZ w4 w3 hf hl) (g := mkF m pc Ls st) rfl (by rw [K.2.2.1]; exact hsz) (Steps.refl _) (a := a) (argsL := argsL) (rest := rest) (fun sg hs => by cases hdesc.symm.trans hs; exact hlen) hst (by show 2 * 0 + _ ≤ _; omega) (hb K.2.1 hd) (fun _ _ => ⟨ha.symm, eT, hc, hn⟩)
  dsimp only [Pt.U, Pt.locs, Pt.cells, Pt.slots] at X2 l2 y2 z2 st2 hQ2
  subst l2 y2 z2
  exact (k v T2 Lc X2 hQ2).on st2
theorem k_virtual (K : Fx p s m meth c by' ml own nm ret Z) (X : Stand p l e R s m args below meth c T locs cells slots) (eT : T.heap = h) {y : MethodName} {bytes : ByteArray} {maxL i W : Nat} {rt : Option FieldType} {rm : Room} {as' : Array Value} {Q' : Option Value → Heap → List Loc → Prop} {a : Addr}
    (hd : decode by' pc = .ok (.invokevirtual i, 3)) (w1 : (Cond.methodLink own i y).before a0 Z = true) (w2 : (Cond.declares y).before a0 Z = true) (w5 : (Cond.selects y.cls y y).before a0 Z = true) (w6 : (Cond.instanceMethod y).before a0 Z = true) (w3 : (Cond.initialized y.cls).before a0 Z = true) (w4 : (Cond.code y bytes maxL rt).before a0 Z = true) (hy : y.cls ≠ "java/lang/invoke/MethodHandle" ∧ y.cls ≠ "java/lang/invoke/VarHandle")
    (hE : Exa Z h a y.cls) (hM : Met l y bytes maxL rt [] rm Z as' h Q') (hf : rm.frames + 1 ≤ R.frames) (hl : W + (maxL + 11) + rm.locals ≤ R.locals) (hc : cells + rm.cells ≤ R.cells) (hn : slots + rm.slots ≤ R.slots) (hsz : Ls.size = ml)
    {sig : MethodDescriptor} (hdesc : parseMethodDescriptor y.desc = some sig) {argsL rest : List Value} (ha : as' = (.ref a :: argsL).toArray) (hlen : argsL.length = sig.parameters.length) (hst : st = argsL.reverse ++ .ref a :: rest) (hW : (rest.map fun v => v.category).sum ≤ W) (hq : pc + 3 = q)
    (k : ∀ v T' L, Stand p l e R s m args below meth c T' (locs ++ L) (cells + rm.cells) (slots + rm.slots) → Q' v T'.heap L → Run p e below s kc kn Q T' (mkF m q Ls (v.toList ++ rest))) : Run p e below s kc kn Q T (mkF m pc Ls st) := by
  have hZ := K.2.2.2.2.1
  subst hq
  obtain ⟨cq, kq, qa, qb, qc⟩ := isOf hZ eT hE
  obtain ⟨v, _, ⟨T2, L2, k2, n2⟩, -, X2, ⟨Lc, hQ2, l2, y2, z2⟩, st2⟩ := X.virtualBack K.1 (y := y) (z := y) K.2.2.2.1 (mvT hZ w1) (mvT hZ w2) (notFace_of_selects (args := #[]) (mvT hZ w5)) (mvT hZ w5) (mvT hZ w6) hy (backOf (W := W) hM hZ w4 w3 hf hl) qa qc (g := mkF m pc Ls st) rfl (by rw [K.2.2.1]; exact hsz) (Steps.refl _) (argsL := argsL) (rest := rest) (fun sg hs => by cases hdesc.symm.trans hs; exact hlen) hst (by show 2 * 0 + _ ≤ _; omega) (hb K.2.1 hd) (fun _ _ => ⟨ha.symm, eT, hc, hn⟩)
  dsimp only [Pt.U, Pt.locs, Pt.cells, Pt.slots] at X2 l2 y2 z2 st2 hQ2
  subst l2 y2 z2
  exact (k v T2 Lc X2 hQ2).on st2
theorem k_initO (K : Fx p s m meth c by' ml own nm ret Z) (X : Stand p l e R s m args below meth c T locs cells slots) (eT : T.heap = h) {i W : Nat} {a : Addr} (hd : decode by' pc = .ok (.invokespecial i, 3)) (w1 : (Cond.methodLink own i Lib.objectInit).before a0 Z = true) (w2 : (Cond.instanceMethod Lib.objectInit).before a0 Z = true) (w3 : (Cond.code Lib.objectInit ⟨#[0xb1]⟩ 1 none).before a0 Z = true)
    (hsz : Ls.size = ml) (hf : 1 ≤ R.frames) (hW : (st.map fun v => v.category).sum ≤ W) (hl : W + 12 ≤ R.locals) (hq : pc + 3 = q)
    (k : ∀ T', Stand p l e R s m args below meth c T' locs cells slots → T'.heap = h → Run p e below s kc kn Q T' (mkF m q Ls st)) : Run p e below s kc kn Q T (mkF m pc Ls (.ref a :: st)) := by
  subst hq
  obtain ⟨T2, X2, e2, st2⟩ := initO X K.1 K.2.2.2.2.1 K.2.2.2.1 w1 w2 w3 eT (g := mkF m pc Ls (.ref a :: st)) rfl (by rw [K.2.2.1]; exact hsz) rfl (hb K.2.1 hd) hf (W := W) (by show 2 * 0 + _ ≤ _; omega) hl
  exact (k T2 X2 e2).by st2
theorem k_new (K : Fx p s m meth c by' ml own nm ret Z) (X : Stand p l e R s m args below meth c T locs cells slots) (eT : T.heap = h) {i n : Nat} {C : String} (hd : decode by' pc = .ok (.new i, 3)) (w1 : (Cond.classLink own i C).before a0 Z = true) (w2 : (Cond.instantiable C n).before a0 Z = true) (w3 : (Cond.initialized C).before a0 Z = true) (hc : cells + 1 ≤ R.cells) (hn : slots + n ≤ R.slots) (hq : pc + 3 = q)
    (k : ∀ T' h' a, Stand p l e R s m args below meth c T' locs (cells + 1) (slots + n) → T'.heap = h' → a = h.size → Ext h h' → Exa Z h' a C → (∀ {O fn d : String} {ty : FieldType}, Laid Z a0 C O fn d → parseFieldDescriptor d = some ty → Fld Z h' a O fn d (defaultValue ty)) → Run p e below s kc kn Q T' (mkF m q Ls (.ref a :: st))) : Run p e below s kc kn Q T (mkF m pc Ls st) := by
  subst hq
  obtain ⟨T2, h2, X2, e2, E2, A2, D2, -, st2⟩ := newO X K.1 K.2.2.2.2.1 K.2.2.2.1 w1 w2 w3 eT (g := mkF m pc Ls st) rfl (hb K.2.1 hd) hc hn
  exact (k T2 h2 h.size X2 e2 rfl E2 A2 D2).by st2
theorem k_getfield (K : Fx p s m meth c by' ml own nm ret Z) (X : Stand p l e R s m args below meth c T locs cells slots) (eT : T.heap = h) {i : Nat} {O fn d : String} {a : Addr} {v : Value} (hd : decode by' pc = .ok (.getfield i, 3)) (w : (Cond.fieldLink own i O fn d).before a0 Z = true) (F : Fld Z h a O fn d v) (hq : pc + 3 = q)
    (k : ∀ T', Stand p l e R s m args below meth c T' locs cells slots → T'.heap = h → Run p e below s kc kn Q T' (mkF m q Ls (v :: st))) : Run p e below s kc kn Q T (mkF m pc Ls (.ref a :: st)) := by
  subst hq
  obtain ⟨T2, X2, e2, st2⟩ := getF X K.1 K.2.2.2.2.1 K.2.2.2.1 (host := "") (Or.inl w) Via.refl eT F (g := mkF m pc Ls (.ref a :: st)) rfl rfl (hb K.2.1 hd)
  exact (k T2 X2 e2).by st2
theorem k_putfield (K : Fx p s m meth c by' ml own nm ret Z) (X : Stand p l e R s m args below meth c T locs cells slots) (eT : T.heap = h) {i n : Nat} {O C fn d : String} {ty : FieldType} {a : Addr} {v old : Value} (hd : decode by' pc = .ok (.putfield i, 3)) (w : (Cond.fieldLink own i O fn d).before a0 Z = true) (F : Fld Z h a O fn d old) (E : Exa Z h a C) (L : (Cond.lays C O fn d).before a0 Z = true ∨ ((Cond.laysFinal C O fn d).before a0 Z = true ∧ own = O ∧ nm = "<init>")) (wi : (Cond.instantiable C n).before a0 Z = true)
    (hty : parseFieldDescriptor d = some ty) (hnar : narrow ty v = v) (hfit : fits ty v = true) (hq : pc + 3 = q)
    (k : ∀ T' h', Stand p l e R s m args below meth c T' (locs ++ [⟨a, Jvm.RoadKit.slotOf Z O fn d⟩]) cells slots → T'.heap = h' → Wr h h' a (Jvm.RoadKit.slotOf Z O fn d) v → Run p e below s kc kn Q T' (mkF m q Ls st)) : Run p e below s kc kn Q T (mkF m pc Ls (v :: .ref a :: st)) := by
  subst hq
  obtain ⟨T2, h2, X2, e2, W2, st2⟩ := putF X K.1 K.2.2.2.2.1 K.2.2.2.1 (host := "") (Or.inl w) Via.refl eT F E (L.imp id fun z => ⟨z.1, z.2.1, K.2.2.2.2.2.2.2.trans z.2.2⟩) wi hty hnar hfit (g := mkF m pc Ls (v :: .ref a :: st)) rfl rfl (hb K.2.1 hd)
  exact (k T2 h2 X2 e2 W2).by st2
/-- an instance method that leaves the heap as it was -/
theorem k_virtualP (K : Fx p s m meth c by' ml own nm ret Z) (X : Stand p l e R s m args below meth c T locs cells slots) (eT : T.heap = h) {y : MethodName} {bytes : ByteArray} {maxL i W fr lo : Nat} {rt : Option FieldType} {as' : Array Value} {w : Value} {a : Addr}
    (hd : decode by' pc = .ok (.invokevirtual i, 3)) (w1 : (Cond.methodLink own i y).before a0 Z = true) (w2 : (Cond.declares y).before a0 Z = true) (w5 : (Cond.selects y.cls y y).before a0 Z = true) (w6 : (Cond.instanceMethod y).before a0 Z = true) (w3 : (Cond.initialized y.cls).before a0 Z = true) (w4 : (Cond.code y bytes maxL rt).before a0 Z = true) (hy : y.cls ≠ "java/lang/invoke/MethodHandle" ∧ y.cls ≠ "java/lang/invoke/VarHandle")
    (hE : Exa Z h a y.cls) (hM : Met l y bytes maxL rt [] { frames := fr, cells := 0, slots := 0, locals := lo } Z as' h (fun v h' L => v = some w ∧ h' = h ∧ L = [])) (hf : fr + 1 ≤ R.frames) (hl : W + (maxL + 11) + lo ≤ R.locals) (hc : cells ≤ R.cells) (hn : slots ≤ R.slots) (hsz : Ls.size = ml)
    {sig : MethodDescriptor} (hdesc : parseMethodDescriptor y.desc = some sig) {argsL rest : List Value} (ha : as' = (.ref a :: argsL).toArray) (hlen : argsL.length = sig.parameters.length) (hst : st = argsL.reverse ++ .ref a :: rest) (hW : (rest.map fun v => v.category).sum ≤ W) (hq : pc + 3 = q)
    (k : ∀ T', Stand p l e R s m args below meth c T' locs cells slots → T'.heap = h → Run p e below s kc kn Q T' (mkF m q Ls (w :: rest))) : Run p e below s kc kn Q T (mkF m pc Ls st) := by
  refine k_virtual K X eT hd w1 w2 w5 w6 w3 w4 hy hE hM hf hl hc hn hsz hdesc ha hlen hst hW hq ?_
  rintro v T' L X' ⟨rfl, h2, rfl⟩
  rw [List.append_nil] at X'
  exact k T' X' h2
theorem setD {α β : Type} (f : α → β) (L : List α) (k : Nat) (x d : α) (hk : k < L.length) (i : Nat) : (if i = k then f x else f (L.getD i d)) = f ((L.set k x).getD i d) := by
  simp only [List.getD_eq_getElem?_getD]
  by_cases q : i = k
  · subst q; simp [hk]
  · rw [if_neg q, List.getElem?_set_ne (Ne.symm q)]
def upd {α : Type} (g : Nat → α) (i : Nat) (v : α) : Nat → α := fun k => if k = i then v else g k
/-- an array of n places; place i holds g i -/
def Ary (Z : State) (h : Heap) (a : Addr) (ty : FieldType) (n : Nat) (g : Nat → Value) : Prop := ∃ c : Cell, Arr Z h a c ty ∧ c.slots.size = n ∧ n < 2147483648 ∧ (∀ i, i < n → c.slots[i]? = some (g i)) ∧ ∀ i, i < n → fits ty (g i) = true
theorem Ary.lt {a : Addr} {ty : FieldType} {n : Nat} {g : Nat → Value} (F : Ary Z h a ty n g) : a < h.size := by obtain ⟨c, A, -⟩ := F; exact A.lt
theorem Ary.ext {h' : Heap} {a : Addr} {ty : FieldType} {n : Nat} {g : Nat → Value} (F : Ary Z h a ty n g) (E : Ext h h') : Ary Z h' a ty n g := by obtain ⟨c, A, r⟩ := F; exact ⟨c, A.ext E, r⟩
theorem Ary.other {h' : Heap} {a b : Addr} {ty : FieldType} {n sl : Nat} {v : Value} {g : Nat → Value} (F : Ary Z h b ty n g) (W : Wr h h' a sl v) (q : b ≠ a) : Ary Z h' b ty n g := by obtain ⟨c, A, r⟩ := F; exact ⟨c, A.other W q, r⟩
theorem Ary.keep {h' : Heap} {a : Addr} {ty : FieldType} {n : Nat} {g : Nat → Value} {ws : List Addr} (F : Ary Z h a ty n g) (K : Keep h h' ws) (q : a ∉ ws) : Ary Z h' a ty n g := by obtain ⟨c, A, r⟩ := F; exact ⟨c, ⟨K.2.1 a c A.1 q, A.2⟩, r⟩
theorem Ary.eqv {a : Addr} {ty : FieldType} {n : Nat} {g g' : Nat → Value} (F : Ary Z h a ty n g) (q : ∀ i, i < n → g i = g' i) : Ary Z h a ty n g' := by
  obtain ⟨c, A, r1, r2, r3, r4⟩ := F; exact ⟨c, A, r1, r2, fun i hi => by rw [← q i hi]; exact r3 i hi, fun i hi => by rw [← q i hi]; exact r4 i hi⟩
theorem Ary.set {h' : Heap} {a : Addr} {ty : FieldType} {n i : Nat} {v : Value} {g : Nat → Value} (F : Ary Z h a ty n g) (W : Wr h h' a i v) (hv : fits ty v = true) : Ary Z h' a ty n (fun k => if k = i then v else g k) := by
  obtain ⟨c, A, r1, r2, r3, r4⟩ := F
  obtain ⟨c', w1, w2, w3, w4⟩ := W
  cases A.1.symm.trans w1
  refine ⟨_, A.same ⟨c, w1, w2, w3, w4⟩, by rw [sz_set]; exact r1, r2, fun k hk => ?_, fun k hk => ?_⟩
  · show (c.setSlot i v).slots[k]? = some (if k = i then v else g k)
    by_cases q : k = i
    · subst q; simp [Cell.setSlot, w3]
    · rw [if_neg q]
      show (c.slots.setIfInBounds i v)[k]? = _
      rw [Array.getElem?_setIfInBounds_ne (Ne.symm q)]; exact r3 k hk
  · show fits ty (if k = i then v else g k) = true
    by_cases q : k = i
    · rw [if_pos q]; exact hv
    · rw [if_neg q]; exact r4 k hk
/-- the int j is the place i -/
abbrev Ix (j : Int32) (i : Nat) : Prop := ¬ j < 0 ∧ j.toNatClampNeg = i
theorem Ix.of {j : Int32} {i : Nat} (h : j.toInt = i) : Ix j i := by
  refine ⟨?_, ?_⟩
  · rw [Int32.lt_iff_toInt_lt, h]; have : (0 : Int32).toInt = 0 := rfl
    omega
  · simp only [Int32.toNatClampNeg, h]; omega
theorem Ix.inb {j : Int32} {i n : Nat} (hi : Ix j i) (hn : i < n) {cl : Cell} (hs : cl.slots.size = n) : ¬ (j < 0 ∨ cl.slots.size ≤ j.toNatClampNeg) := fun z => z.elim hi.1 fun z => by rw [hs, hi.2] at z; omega
theorem k_iaload (K : Fx p s m meth c by' ml own nm ret Z) (X : Stand p l e R s m args below meth c T locs cells slots) (eT : T.heap = h) {a : Addr} {n i : Nat} {g : Nat → Value} {j : Int32} {v : Value} (hd : decode by' pc = .ok (.iaload, 1)) (A : Ary Z h a .int n g) (hi : Ix j i) (hn : i < n) (hg : g i = v) (hq : pc + 1 = q) (k : Run p e below s kc kn Q T (mkF m q Ls (v :: st))) : Run p e below s kc kn Q T (mkF m pc Ls (.int j :: .ref a :: st)) := by
  subst hq hg
  obtain ⟨c', A, r1, r2, r3, -⟩ := A
  exact k.by fun t => X.iaload K.1 (j := j) (v := g i) (by rw [eT]; exact A.1) (State.isArrayOf_alike K.2.2.2.2.1.alike A.2.1) A.2.2 (hi.inb hn r1) (by rw [hi.2]; exact r3 i hn) (g := mkF m pc Ls (.int j :: .ref a :: st)) rfl rfl (hb K.2.1 hd) t
theorem k_laload (K : Fx p s m meth c by' ml own nm ret Z) (X : Stand p l e R s m args below meth c T locs cells slots) (eT : T.heap = h) {a : Addr} {n i : Nat} {g : Nat → Value} {j : Int32} {v : Value} (hd : decode by' pc = .ok (.laload, 1)) (A : Ary Z h a .long n g) (hi : Ix j i) (hn : i < n) (hg : g i = v) (hq : pc + 1 = q) (k : Run p e below s kc kn Q T (mkF m q Ls (v :: st))) : Run p e below s kc kn Q T (mkF m pc Ls (.int j :: .ref a :: st)) := by
  subst hq hg
  obtain ⟨c', A, r1, r2, r3, -⟩ := A
  exact k.by fun t => X.laload K.1 (j := j) (v := g i) (by rw [eT]; exact A.1) (State.isArrayOf_alike K.2.2.2.2.1.alike A.2.1) A.2.2 (hi.inb hn r1) (by rw [hi.2]; exact r3 i hn) (g := mkF m pc Ls (.int j :: .ref a :: st)) rfl rfl (hb K.2.1 hd) t
theorem k_iastore (K : Fx p s m meth c by' ml own nm ret Z) (X : Stand p l e R s m args below meth c T locs cells slots) (eT : T.heap = h) {a : Addr} {n i : Nat} {g : Nat → Value} {j : Int32} {x : Int32} (hd : decode by' pc = .ok (.iastore, 1)) (A : Ary Z h a .int n g) (hi : Ix j i) (hn : i < n) (hq : pc + 1 = q)
    (k : ∀ T' h', Stand p l e R s m args below meth c T' (locs ++ [⟨a, i⟩]) cells slots → T'.heap = h' → Wr h h' a i (.int x) → Ary Z h' a .int n (fun k => if k = i then .int x else g k) → Run p e below s kc kn Q T' (mkF m q Ls st)) : Run p e below s kc kn Q T (mkF m pc Ls (.int x :: .int j :: .ref a :: st)) := by
  subst hq
  have A0 := A
  obtain ⟨c', A, r1, r2, r3, -⟩ := A
  obtain ⟨T2, h2, X2, e2, W2, st2⟩ := stI X K.1 K.2.2.2.2.1 eT A (j := j) (hi.inb hn r1) (g := mkF m pc Ls (.int x :: .int j :: .ref a :: st)) rfl rfl (hb K.2.1 hd)
  rw [hi.2] at X2 W2
  exact (k T2 h2 X2 e2 W2 (A0.set W2 (rfl))).by st2
theorem k_lastore (K : Fx p s m meth c by' ml own nm ret Z) (X : Stand p l e R s m args below meth c T locs cells slots) (eT : T.heap = h) {a : Addr} {n i : Nat} {g : Nat → Value} {j : Int32} {x : Int64} (hd : decode by' pc = .ok (.lastore, 1)) (A : Ary Z h a .long n g) (hi : Ix j i) (hn : i < n) (hq : pc + 1 = q)
    (k : ∀ T' h', Stand p l e R s m args below meth c T' (locs ++ [⟨a, i⟩]) cells slots → T'.heap = h' → Wr h h' a i (.long x) → Ary Z h' a .long n (fun k => if k = i then .long x else g k) → Run p e below s kc kn Q T' (mkF m q Ls st)) : Run p e below s kc kn Q T (mkF m pc Ls (.long x :: .int j :: .ref a :: st)) := by
  subst hq
  have A0 := A
  obtain ⟨c', A, r1, r2, r3, -⟩ := A
  obtain ⟨T2, h2, X2, e2, W2, st2⟩ := stJ X K.1 K.2.2.2.2.1 eT A (j := j) (hi.inb hn r1) (g := mkF m pc Ls (.long x :: .int j :: .ref a :: st)) rfl rfl (hb K.2.1 hd)
  rw [hi.2] at X2 W2
  exact (k T2 h2 X2 e2 W2 (A0.set W2 (rfl))).by st2
theorem k_arraylength (K : Fx p s m meth c by' ml own nm ret Z) (X : Stand p l e R s m args below meth c T locs cells slots) (eT : T.heap = h) {a : Addr} {ty : FieldType} {n : Nat} {g : Nat → Value} {v : Int32} (hd : decode by' pc = .ok (.arraylength, 1)) (A : Ary Z h a ty n g) (hv : n.toInt32 = v) (hq : pc + 1 = q) (k : Run p e below s kc kn Q T (mkF m q Ls (.int v :: st))) : Run p e below s kc kn Q T (mkF m pc Ls (.ref a :: st)) := by
  subst hq hv
  obtain ⟨c', A, r1, r2, r3, -⟩ := A
  subst r1
  exact k.by fun t => X.arraylength K.1 (by rw [eT]; exact A.1) (State.isArrayOf_alike K.2.2.2.2.1.alike A.2.1) (g := mkF m pc Ls (.ref a :: st)) rfl rfl (hb K.2.1 hd) t
theorem k_newarray (K : Fx p s m meth c by' ml own nm ret Z) (X : Stand p l e R s m args below meth c T locs cells slots) (eT : T.heap = h) {aty : ArrayType} {ty : FieldType} {z : Int32} {n cap : Nat} (hd : decode by' pc = .ok (.newarray aty, 2)) (hty : newarray.typeOf aty = ty) (w : (Cond.arrayClass ty).before a0 Z = true) (hz : Ix z n) (hcap : n ≤ cap) (h8 : cap * 8 ≤ 536870912) (hc : cells + 1 ≤ R.cells) (hn : slots + cap ≤ R.slots) (hq : pc + 2 = q)
    (k : ∀ T' h' a, Stand p l e R s m args below meth c T' locs (cells + 1) (slots + cap) → T'.heap = h' → a = h.size → Ext h h' → Ary Z h' a ty n (fun _ => defaultValue ty) → Run p e below s kc kn Q T' (mkF m q Ls (.ref a :: st))) : Run p e below s kc kn Q T (mkF m pc Ls (.int z :: st)) := by
  subst hq hty
  obtain ⟨T2, h2, cA, X2, e2, E2, A2, st2⟩ := newP X K.1 K.2.2.2.2.1 w eT (g := mkF m pc Ls (.int z :: st)) rfl (hb K.2.1 hd) rfl hz.1 (cap := cap) (by rw [hz.2]; exact hcap) h8 hc hn
  refine (k T2 h2 h.size X2 e2 rfl E2 ⟨_, A2, (sz_new _ _ _).trans hz.2, by omega, fun i hi => ?_, fun i _ => ?_⟩).by st2
  · rw [← hz.2] at hi; simp [newA, hi]
  · cases aty <;> rfl
end OwnKit

theorem wd {Z : State} {az : Array Value} (hw : ∀ d ∈ tables_1, d.before az Z = true) (k : Nat) {d : Jvm.Cond} (h : tables_1[k]? = some d) : d.before az Z = true := hw _ (List.mem_of_getElem? h)
theorem d3_0 : decode jdk_33_method_49_code 0 = .ok (.iload_n 0, 1) := by decide +kernel
theorem d3_1 : decode jdk_33_method_49_code 1 = .ok (.iload_n 0, 1) := by decide +kernel
theorem d3_2 : decode jdk_33_method_49_code 2 = .ok (.iconst 1, 1) := by decide +kernel
theorem d3_3 : decode jdk_33_method_49_code 3 = .ok (.iushr, 1) := by decide +kernel
theorem d3_4 : decode jdk_33_method_49_code 4 = .ok (.ldc_w 265, 3) := by decide +kernel
theorem d3_7 : decode jdk_33_method_49_code 7 = .ok (.iand, 1) := by decide +kernel
theorem d3_8 : decode jdk_33_method_49_code 8 = .ok (.isub, 1) := by decide +kernel
theorem d3_9 : decode jdk_33_method_49_code 9 = .ok (.istore_n 0, 1) := by decide +kernel
theorem d3_10 : decode jdk_33_method_49_code 10 = .ok (.iload_n 0, 1) := by decide +kernel
theorem d3_11 : decode jdk_33_method_49_code 11 = .ok (.ldc_w 266, 3) := by decide +kernel
theorem d3_14 : decode jdk_33_method_49_code 14 = .ok (.iand, 1) := by decide +kernel
theorem d3_15 : decode jdk_33_method_49_code 15 = .ok (.iload_n 0, 1) := by decide +kernel
theorem d3_16 : decode jdk_33_method_49_code 16 = .ok (.iconst 2, 1) := by decide +kernel
theorem d3_17 : decode jdk_33_method_49_code 17 = .ok (.iushr, 1) := by decide +kernel
theorem d3_18 : decode jdk_33_method_49_code 18 = .ok (.ldc_w 266, 3) := by decide +kernel
theorem d3_21 : decode jdk_33_method_49_code 21 = .ok (.iand, 1) := by decide +kernel
theorem d3_22 : decode jdk_33_method_49_code 22 = .ok (.iadd, 1) := by decide +kernel
theorem d3_23 : decode jdk_33_method_49_code 23 = .ok (.istore_n 0, 1) := by decide +kernel
theorem d3_24 : decode jdk_33_method_49_code 24 = .ok (.iload_n 0, 1) := by decide +kernel
theorem d3_25 : decode jdk_33_method_49_code 25 = .ok (.iload_n 0, 1) := by decide +kernel
theorem d3_26 : decode jdk_33_method_49_code 26 = .ok (.iconst 4, 1) := by decide +kernel
theorem d3_27 : decode jdk_33_method_49_code 27 = .ok (.iushr, 1) := by decide +kernel
theorem d3_28 : decode jdk_33_method_49_code 28 = .ok (.iadd, 1) := by decide +kernel
theorem d3_29 : decode jdk_33_method_49_code 29 = .ok (.ldc_w 267, 3) := by decide +kernel
theorem d3_32 : decode jdk_33_method_49_code 32 = .ok (.iand, 1) := by decide +kernel
theorem d3_33 : decode jdk_33_method_49_code 33 = .ok (.istore_n 0, 1) := by decide +kernel
theorem d3_34 : decode jdk_33_method_49_code 34 = .ok (.iload_n 0, 1) := by decide +kernel
theorem d3_35 : decode jdk_33_method_49_code 35 = .ok (.iload_n 0, 1) := by decide +kernel
theorem d3_36 : decode jdk_33_method_49_code 36 = .ok (.bipush 8, 2) := by decide +kernel
theorem d3_38 : decode jdk_33_method_49_code 38 = .ok (.iushr, 1) := by decide +kernel
theorem d3_39 : decode jdk_33_method_49_code 39 = .ok (.iadd, 1) := by decide +kernel
theorem d3_40 : decode jdk_33_method_49_code 40 = .ok (.istore_n 0, 1) := by decide +kernel
theorem d3_41 : decode jdk_33_method_49_code 41 = .ok (.iload_n 0, 1) := by decide +kernel
theorem d3_42 : decode jdk_33_method_49_code 42 = .ok (.iload_n 0, 1) := by decide +kernel
theorem d3_43 : decode jdk_33_method_49_code 43 = .ok (.bipush 16, 2) := by decide +kernel
theorem d3_45 : decode jdk_33_method_49_code 45 = .ok (.iushr, 1) := by decide +kernel
theorem d3_46 : decode jdk_33_method_49_code 46 = .ok (.iadd, 1) := by decide +kernel
theorem d3_47 : decode jdk_33_method_49_code 47 = .ok (.istore_n 0, 1) := by decide +kernel
theorem d3_48 : decode jdk_33_method_49_code 48 = .ok (.iload_n 0, 1) := by decide +kernel
theorem d3_49 : decode jdk_33_method_49_code 49 = .ok (.bipush 63, 2) := by decide +kernel
theorem d3_51 : decode jdk_33_method_49_code 51 = .ok (.iand, 1) := by decide +kernel
theorem d3_52 : decode jdk_33_method_49_code 52 = .ok (.ireturn, 1) := by decide +kernel
theorem ef_3 (p0 : Int32) : ∀ m : MethodId, entryFrame m #[(.int p0)] 1 = mkF m 0 #[.val (.int p0)] [] := by intro m; first | (simp [entryFrame, mkF, argsToLocals, Value.category]; done) | rfl
theorem pn_0 : plainName "java/lang/Integer" = true := by first | (simp [plainName, overriddenIn]; done) | decide +kernel
def F_bitCount (p0 : Int32) : Int32 :=
  let v1 : Int32 := (p0 - ((ushrI p0 (1 : Int32)) &&& (1431655765 : Int32)))
  let v2 : Int32 := ((v1 &&& (858993459 : Int32)) + ((ushrI v1 (2 : Int32)) &&& (858993459 : Int32)))
  let v3 : Int32 := ((v2 + (ushrI v2 (4 : Int32))) &&& (252645135 : Int32))
  let v4 : Int32 := (v3 + (ushrI v3 (8 : Int32)))
  let v5 : Int32 := (v4 + (ushrI v4 (16 : Int32)))
  (v5 &&& (63 : Int32))
set_option maxRecDepth 65536 in
set_option maxHeartbeats 40000000 in
theorem rm3 (l : Launch) (Z : State) (az : Array Value) (hw : ∀ d ∈ tables_1, d.before az Z = true) (ws : List Jvm.Cond) (p0 : Int32) (h0 : Heap) :
    Met l (⟨"java/lang/Integer", "bitCount", "(I)I"⟩ : MethodName) jdk_33_method_49_code 1 (some .int) ws ({ frames := 0, cells := 0, slots := 0, locals := 0 } : Room) Z #[(.int p0)] h0 (fun v h' L => v = some (Value.int (F_bitCount p0)) ∧ h' = h0 ∧ L = []) := by
  refine enter (plainFor_of_name pn_0) (ef_3 p0) ?_
  intro p e s m below meth c T0 kc kn Q hkc hkn hQ K' X0 e0
  have K : Fx p s m meth c jdk_33_method_49_code 1 "java/lang/Integer" "bitCount" (some .int) Z := K'
  refine k_iloadN K X0 d3_0 rfl (q := 1) rfl ?_
  refine k_iloadN K X0 d3_1 rfl (q := 2) rfl ?_
  refine k_iconst K X0 d3_2 (v := (1 : Int32)) rfl (q := 3) rfl ?_
  refine k_iushr K X0 d3_3 (q := 4) rfl ?_
  refine k_ldc_w K X0 d3_4 (wd hw 16 rfl) (q := 7) rfl ?_
  refine k_iand K X0 d3_7 (q := 8) rfl ?_
  refine k_isub K X0 d3_8 (q := 9) rfl ?_
  obtain ⟨v1, hv_v1⟩ : ∃ z : Int32, (p0 - ((ushrI p0 (1 : Int32)) &&& (1431655765 : Int32))) = z := ⟨_, rfl⟩
  refine k_istoreN K X0 d3_9 hv_v1 (Ls' := #[.val (.int v1)]) rfl (q := 10) rfl ?_
  refine k_iloadN K X0 d3_10 rfl (q := 11) rfl ?_
  refine k_ldc_w K X0 d3_11 (wd hw 17 rfl) (q := 14) rfl ?_
  refine k_iand K X0 d3_14 (q := 15) rfl ?_
  refine k_iloadN K X0 d3_15 rfl (q := 16) rfl ?_
  refine k_iconst K X0 d3_16 (v := (2 : Int32)) rfl (q := 17) rfl ?_
  refine k_iushr K X0 d3_17 (q := 18) rfl ?_
  refine k_ldc_w K X0 d3_18 (wd hw 17 rfl) (q := 21) rfl ?_
  refine k_iand K X0 d3_21 (q := 22) rfl ?_
  refine k_iadd K X0 d3_22 (q := 23) rfl ?_
  obtain ⟨v2, hv_v2⟩ : ∃ z : Int32, ((v1 &&& (858993459 : Int32)) + ((ushrI v1 (2 : Int32)) &&& (858993459 : Int32))) = z := ⟨_, rfl⟩
  refine k_istoreN K X0 d3_23 hv_v2 (Ls' := #[.val (.int v2)]) rfl (q := 24) rfl ?_
  refine k_iloadN K X0 d3_24 rfl (q := 25) rfl ?_
  refine k_iloadN K X0 d3_25 rfl (q := 26) rfl ?_
  refine k_iconst K X0 d3_26 (v := (4 : Int32)) rfl (q := 27) rfl ?_
  refine k_iushr K X0 d3_27 (q := 28) rfl ?_
  refine k_iadd K X0 d3_28 (q := 29) rfl ?_
  refine k_ldc_w K X0 d3_29 (wd hw 18 rfl) (q := 32) rfl ?_
  refine k_iand K X0 d3_32 (q := 33) rfl ?_
  obtain ⟨v3, hv_v3⟩ : ∃ z : Int32, ((v2 + (ushrI v2 (4 : Int32))) &&& (252645135 : Int32)) = z := ⟨_, rfl⟩
  refine k_istoreN K X0 d3_33 hv_v3 (Ls' := #[.val (.int v3)]) rfl (q := 34) rfl ?_
  refine k_iloadN K X0 d3_34 rfl (q := 35) rfl ?_
  refine k_iloadN K X0 d3_35 rfl (q := 36) rfl ?_
  refine k_bipush K X0 d3_36 (v := (8 : Int32)) rfl (q := 38) rfl ?_
  refine k_iushr K X0 d3_38 (q := 39) rfl ?_
  refine k_iadd K X0 d3_39 (q := 40) rfl ?_
  obtain ⟨v4, hv_v4⟩ : ∃ z : Int32, (v3 + (ushrI v3 (8 : Int32))) = z := ⟨_, rfl⟩
  refine k_istoreN K X0 d3_40 hv_v4 (Ls' := #[.val (.int v4)]) rfl (q := 41) rfl ?_
  refine k_iloadN K X0 d3_41 rfl (q := 42) rfl ?_
  refine k_iloadN K X0 d3_42 rfl (q := 43) rfl ?_
  refine k_bipush K X0 d3_43 (v := (16 : Int32)) rfl (q := 45) rfl ?_
  refine k_iushr K X0 d3_45 (q := 46) rfl ?_
  refine k_iadd K X0 d3_46 (q := 47) rfl ?_
  obtain ⟨v5, hv_v5⟩ : ∃ z : Int32, (v4 + (ushrI v4 (16 : Int32))) = z := ⟨_, rfl⟩
  refine k_istoreN K X0 d3_47 hv_v5 (Ls' := #[.val (.int v5)]) rfl (q := 48) rfl ?_
  refine k_iloadN K X0 d3_48 rfl (q := 49) rfl ?_
  refine k_bipush K X0 d3_49 (v := (63 : Int32)) rfl (q := 51) rfl ?_
  refine k_iand K X0 d3_51 (q := 52) rfl ?_
  exact k_reti K X0 e0 d3_52 (Nat.le_trans (by decide) hkc) (Nat.le_trans (by decide) hkn) (hQ _ _ _ ⟨(by show some (Value.int (v5 &&& (63 : Int32))) = some (Value.int (F_bitCount p0)); first | (simp only [F_bitCount, hv_v1, hv_v2, hv_v3, hv_v4, hv_v5]; done) | (subst hv_v1; subst hv_v2; subst hv_v3; subst hv_v4; subst hv_v5; simp only [F_bitCount])), rfl, rfl⟩)
theorem d4_0 : decode jdk_33_method_48_code 0 = .ok (.iload_n 0, 1) := by decide +kernel
theorem d4_1 : decode jdk_33_method_48_code 1 = .ok (.iconst (-1), 1) := by decide +kernel
theorem d4_2 : decode jdk_33_method_48_code 2 = .ok (.ixor, 1) := by decide +kernel
theorem d4_3 : decode jdk_33_method_48_code 3 = .ok (.iload_n 0, 1) := by decide +kernel
theorem d4_4 : decode jdk_33_method_48_code 4 = .ok (.iconst 1, 1) := by decide +kernel
theorem d4_5 : decode jdk_33_method_48_code 5 = .ok (.isub, 1) := by decide +kernel
theorem d4_6 : decode jdk_33_method_48_code 6 = .ok (.iand, 1) := by decide +kernel
theorem d4_7 : decode jdk_33_method_48_code 7 = .ok (.istore_n 0, 1) := by decide +kernel
theorem d4_8 : decode jdk_33_method_48_code 8 = .ok (.iload_n 0, 1) := by decide +kernel
theorem d4_9 : decode jdk_33_method_48_code 9 = .ok (.ifCond .gt 8, 3) := by decide +kernel
theorem d4_17 : decode jdk_33_method_48_code 17 = .ok (.iconst 1, 1) := by decide +kernel
theorem d4_18 : decode jdk_33_method_48_code 18 = .ok (.istore_n 1, 1) := by decide +kernel
theorem d4_19 : decode jdk_33_method_48_code 19 = .ok (.iload_n 0, 1) := by decide +kernel
theorem d4_20 : decode jdk_33_method_48_code 20 = .ok (.ldc_w 264, 3) := by decide +kernel
theorem d4_23 : decode jdk_33_method_48_code 23 = .ok (.if_icmp .le 11, 3) := by decide +kernel
theorem d4_34 : decode jdk_33_method_48_code 34 = .ok (.iload_n 0, 1) := by decide +kernel
theorem d4_35 : decode jdk_33_method_48_code 35 = .ok (.sipush 256, 3) := by decide +kernel
theorem d4_38 : decode jdk_33_method_48_code 38 = .ok (.if_icmp .le 11, 3) := by decide +kernel
theorem d4_49 : decode jdk_33_method_48_code 49 = .ok (.iload_n 0, 1) := by decide +kernel
theorem d4_50 : decode jdk_33_method_48_code 50 = .ok (.bipush 16, 2) := by decide +kernel
theorem d4_52 : decode jdk_33_method_48_code 52 = .ok (.if_icmp .le 10, 3) := by decide +kernel
theorem d4_62 : decode jdk_33_method_48_code 62 = .ok (.iload_n 0, 1) := by decide +kernel
theorem d4_63 : decode jdk_33_method_48_code 63 = .ok (.iconst 4, 1) := by decide +kernel
theorem d4_64 : decode jdk_33_method_48_code 64 = .ok (.if_icmp .le 10, 3) := by decide +kernel
theorem d4_74 : decode jdk_33_method_48_code 74 = .ok (.iload_n 1, 1) := by decide +kernel
theorem d4_75 : decode jdk_33_method_48_code 75 = .ok (.iload_n 0, 1) := by decide +kernel
theorem d4_76 : decode jdk_33_method_48_code 76 = .ok (.iconst 1, 1) := by decide +kernel
theorem d4_77 : decode jdk_33_method_48_code 77 = .ok (.iushr, 1) := by decide +kernel
theorem d4_78 : decode jdk_33_method_48_code 78 = .ok (.iadd, 1) := by decide +kernel
theorem d4_79 : decode jdk_33_method_48_code 79 = .ok (.ireturn, 1) := by decide +kernel
theorem d4_67 : decode jdk_33_method_48_code 67 = .ok (.iinc 1 2, 3) := by decide +kernel
theorem d4_70 : decode jdk_33_method_48_code 70 = .ok (.iload_n 0, 1) := by decide +kernel
theorem d4_71 : decode jdk_33_method_48_code 71 = .ok (.iconst 2, 1) := by decide +kernel
theorem d4_72 : decode jdk_33_method_48_code 72 = .ok (.iushr, 1) := by decide +kernel
theorem d4_73 : decode jdk_33_method_48_code 73 = .ok (.istore_n 0, 1) := by decide +kernel
theorem d4_55 : decode jdk_33_method_48_code 55 = .ok (.iinc 1 4, 3) := by decide +kernel
theorem d4_58 : decode jdk_33_method_48_code 58 = .ok (.iload_n 0, 1) := by decide +kernel
theorem d4_59 : decode jdk_33_method_48_code 59 = .ok (.iconst 4, 1) := by decide +kernel
theorem d4_60 : decode jdk_33_method_48_code 60 = .ok (.iushr, 1) := by decide +kernel
theorem d4_61 : decode jdk_33_method_48_code 61 = .ok (.istore_n 0, 1) := by decide +kernel
theorem d4_41 : decode jdk_33_method_48_code 41 = .ok (.iinc 1 8, 3) := by decide +kernel
theorem d4_44 : decode jdk_33_method_48_code 44 = .ok (.iload_n 0, 1) := by decide +kernel
theorem d4_45 : decode jdk_33_method_48_code 45 = .ok (.bipush 8, 2) := by decide +kernel
theorem d4_47 : decode jdk_33_method_48_code 47 = .ok (.iushr, 1) := by decide +kernel
theorem d4_48 : decode jdk_33_method_48_code 48 = .ok (.istore_n 0, 1) := by decide +kernel
theorem d4_26 : decode jdk_33_method_48_code 26 = .ok (.iinc 1 16, 3) := by decide +kernel
theorem d4_29 : decode jdk_33_method_48_code 29 = .ok (.iload_n 0, 1) := by decide +kernel
theorem d4_30 : decode jdk_33_method_48_code 30 = .ok (.bipush 16, 2) := by decide +kernel
theorem d4_32 : decode jdk_33_method_48_code 32 = .ok (.iushr, 1) := by decide +kernel
theorem d4_33 : decode jdk_33_method_48_code 33 = .ok (.istore_n 0, 1) := by decide +kernel
theorem d4_12 : decode jdk_33_method_48_code 12 = .ok (.iload_n 0, 1) := by decide +kernel
theorem d4_13 : decode jdk_33_method_48_code 13 = .ok (.bipush 32, 2) := by decide +kernel
theorem d4_15 : decode jdk_33_method_48_code 15 = .ok (.iand, 1) := by decide +kernel
theorem d4_16 : decode jdk_33_method_48_code 16 = .ok (.ireturn, 1) := by decide +kernel
theorem ef_4 (p0 : Int32) : ∀ m : MethodId, entryFrame m #[(.int p0)] 2 = mkF m 0 #[.val (.int p0), .unset] [] := by intro m; first | (simp [entryFrame, mkF, argsToLocals, Value.category]; done) | rfl
def F_numberOfTrailingZeros (p0 : Int32) : Int32 :=
  let v6 : Int32 := ((p0 ^^^ (-1 : Int32)) &&& (p0 - (1 : Int32)))
  if (0 : Int32) < v6 then
    let d9 : Int32 := (if (65536 : Int32) < v6 then (ushrI v6 (16 : Int32)) else v6)
    let d10 : Int32 := (if (65536 : Int32) < v6 then (17 : Int32) else (1 : Int32))
    let d13 : Int32 := (if (256 : Int32) < d9 then (ushrI d9 (8 : Int32)) else d9)
    let d14 : Int32 := (if (256 : Int32) < d9 then (d10 + (8 : Int32)) else d10)
    let d17 : Int32 := (if (16 : Int32) < d13 then (ushrI d13 (4 : Int32)) else d13)
    let d18 : Int32 := (if (16 : Int32) < d13 then (d14 + (4 : Int32)) else d14)
    let d21 : Int32 := (if (4 : Int32) < d17 then (ushrI d17 (2 : Int32)) else d17)
    let d22 : Int32 := (if (4 : Int32) < d17 then (d18 + (2 : Int32)) else d18)
    (d22 + (ushrI d21 (1 : Int32)))
  else
    (v6 &&& (32 : Int32))
set_option maxRecDepth 65536 in
set_option maxHeartbeats 40000000 in
theorem rm4 (l : Launch) (Z : State) (az : Array Value) (hw : ∀ d ∈ tables_1, d.before az Z = true) (ws : List Jvm.Cond) (p0 : Int32) (h0 : Heap) :
    Met l (⟨"java/lang/Integer", "numberOfTrailingZeros", "(I)I"⟩ : MethodName) jdk_33_method_48_code 2 (some .int) ws ({ frames := 0, cells := 0, slots := 0, locals := 0 } : Room) Z #[(.int p0)] h0 (fun v h' L => v = some (Value.int (F_numberOfTrailingZeros p0)) ∧ h' = h0 ∧ L = []) := by
  refine enter (plainFor_of_name pn_0) (ef_4 p0) ?_
  intro p e s m below meth c T0 kc kn Q hkc hkn hQ K' X0 e0
  have K : Fx p s m meth c jdk_33_method_48_code 2 "java/lang/Integer" "numberOfTrailingZeros" (some .int) Z := K'
  refine k_iloadN K X0 d4_0 rfl (q := 1) rfl ?_
  refine k_iconst K X0 d4_1 (v := (-1 : Int32)) rfl (q := 2) rfl ?_
  refine k_ixor K X0 d4_2 (q := 3) rfl ?_
  refine k_iloadN K X0 d4_3 rfl (q := 4) rfl ?_
  refine k_iconst K X0 d4_4 (v := (1 : Int32)) rfl (q := 5) rfl ?_
  refine k_isub K X0 d4_5 (q := 6) rfl ?_
  refine k_iand K X0 d4_6 (q := 7) rfl ?_
  obtain ⟨v6, hv_v6⟩ : ∃ z : Int32, ((p0 ^^^ (-1 : Int32)) &&& (p0 - (1 : Int32))) = z := ⟨_, rfl⟩
  refine k_istoreN K X0 d4_7 hv_v6 (Ls' := #[.val (.int v6), .unset]) rfl (q := 8) rfl ?_
  refine k_iloadN K X0 d4_8 rfl (q := 9) rfl ?_
  refine k_if_gt K X0 d4_9 (by decide) (q := 17) rfl (q' := 12) rfl ?_ ?_
  · intro hc7
    refine k_iconst K X0 d4_17 (v := (1 : Int32)) rfl (q := 18) rfl ?_
    refine k_istoreN K X0 d4_18 rfl (Ls' := #[.val (.int v6), .val (.int (1 : Int32))]) rfl (q := 19) rfl ?_
    refine k_iloadN K X0 d4_19 rfl (q := 20) rfl ?_
    refine k_ldc_w K X0 d4_20 (wd hw 49 rfl) (q := 23) rfl ?_
    have J11 : ∀ (d9 : Int32) (d10 : Int32), (if (65536 : Int32) < v6 then (ushrI v6 (16 : Int32)) else v6) = d9 → (if (65536 : Int32) < v6 then (17 : Int32) else (1 : Int32)) = d10 → Run p e below s kc kn Q T0 (mkF m 34 #[.val (.int d9), .val (.int d10)] []) := by
      intro d9 d10 hv_d9 hv_d10
      refine k_iloadN K X0 d4_34 rfl (q := 35) rfl ?_
      refine k_sipush K X0 d4_35 (v := (256 : Int32)) rfl (q := 38) rfl ?_
      have J15 : ∀ (d13 : Int32) (d14 : Int32), (if (256 : Int32) < d9 then (ushrI d9 (8 : Int32)) else d9) = d13 → (if (256 : Int32) < d9 then (d10 + (8 : Int32)) else d10) = d14 → Run p e below s kc kn Q T0 (mkF m 49 #[.val (.int d13), .val (.int d14)] []) := by
        intro d13 d14 hv_d13 hv_d14
        refine k_iloadN K X0 d4_49 rfl (q := 50) rfl ?_
        refine k_bipush K X0 d4_50 (v := (16 : Int32)) rfl (q := 52) rfl ?_
        have J19 : ∀ (d17 : Int32) (d18 : Int32), (if (16 : Int32) < d13 then (ushrI d13 (4 : Int32)) else d13) = d17 → (if (16 : Int32) < d13 then (d14 + (4 : Int32)) else d14) = d18 → Run p e below s kc kn Q T0 (mkF m 62 #[.val (.int d17), .val (.int d18)] []) := by
          intro d17 d18 hv_d17 hv_d18
          refine k_iloadN K X0 d4_62 rfl (q := 63) rfl ?_
          refine k_iconst K X0 d4_63 (v := (4 : Int32)) rfl (q := 64) rfl ?_
          have J23 : ∀ (d21 : Int32) (d22 : Int32), (if (4 : Int32) < d17 then (ushrI d17 (2 : Int32)) else d17) = d21 → (if (4 : Int32) < d17 then (d18 + (2 : Int32)) else d18) = d22 → Run p e below s kc kn Q T0 (mkF m 74 #[.val (.int d21), .val (.int d22)] []) := by
            intro d21 d22 hv_d21 hv_d22
            refine k_iloadN K X0 d4_74 rfl (q := 75) rfl ?_
            refine k_iloadN K X0 d4_75 rfl (q := 76) rfl ?_
            refine k_iconst K X0 d4_76 (v := (1 : Int32)) rfl (q := 77) rfl ?_
            refine k_iushr K X0 d4_77 (q := 78) rfl ?_
            refine k_iadd K X0 d4_78 (q := 79) rfl ?_
            exact k_reti K X0 e0 d4_79 (Nat.le_trans (by decide) hkc) (Nat.le_trans (by decide) hkn) (hQ _ _ _ ⟨(by show some (Value.int (d22 + (ushrI d21 (1 : Int32)))) = some (Value.int (F_numberOfTrailingZeros p0)); first | (simp only [F_numberOfTrailingZeros, hv_v6, hv_d9, hv_d10, hv_d13, hv_d14, hv_d17, hv_d18, hv_d21, hv_d22, if_pos hc7]; done) | (subst hv_v6; subst hv_d9; subst hv_d10; subst hv_d13; subst hv_d14; subst hv_d17; subst hv_d18; subst hv_d21; subst hv_d22; simp only [F_numberOfTrailingZeros, if_pos hc7])), rfl, rfl⟩)
          refine k_icmp_le K X0 d4_64 (by decide) (q := 74) rfl (q' := 67) rfl ?_ ?_
          · intro hc24
            exact J23 _ _ (by first | (simp only [if_neg hc24]; done) | rfl) (by first | (simp only [if_neg hc24]; done) | rfl)
          · intro hc24
            refine k_iinc K X0 d4_67 rfl rfl (Ls' := #[.val (.int d17), .val (.int (d18 + (2 : Int32)))]) rfl (q := 70) rfl ?_
            refine k_iloadN K X0 d4_70 rfl (q := 71) rfl ?_
            refine k_iconst K X0 d4_71 (v := (2 : Int32)) rfl (q := 72) rfl ?_
            refine k_iushr K X0 d4_72 (q := 73) rfl ?_
            refine k_istoreN K X0 d4_73 rfl (Ls' := #[.val (.int (ushrI d17 (2 : Int32))), .val (.int (d18 + (2 : Int32)))]) rfl (q := 74) rfl ?_
            exact J23 _ _ (by first | (simp only [if_pos hc24]; done) | rfl) (by first | (simp only [if_pos hc24]; done) | rfl)
        refine k_icmp_le K X0 d4_52 (by decide) (q := 62) rfl (q' := 55) rfl ?_ ?_
        · intro hc25
          exact J19 _ _ (by first | (simp only [if_neg hc25]; done) | rfl) (by first | (simp only [if_neg hc25]; done) | rfl)
        · intro hc25
          refine k_iinc K X0 d4_55 rfl rfl (Ls' := #[.val (.int d13), .val (.int (d14 + (4 : Int32)))]) rfl (q := 58) rfl ?_
          refine k_iloadN K X0 d4_58 rfl (q := 59) rfl ?_
          refine k_iconst K X0 d4_59 (v := (4 : Int32)) rfl (q := 60) rfl ?_
          refine k_iushr K X0 d4_60 (q := 61) rfl ?_
          refine k_istoreN K X0 d4_61 rfl (Ls' := #[.val (.int (ushrI d13 (4 : Int32))), .val (.int (d14 + (4 : Int32)))]) rfl (q := 62) rfl ?_
          exact J19 _ _ (by first | (simp only [if_pos hc25]; done) | rfl) (by first | (simp only [if_pos hc25]; done) | rfl)
      refine k_icmp_le K X0 d4_38 (by decide) (q := 49) rfl (q' := 41) rfl ?_ ?_
      · intro hc26
        exact J15 _ _ (by first | (simp only [if_neg hc26]; done) | rfl) (by first | (simp only [if_neg hc26]; done) | rfl)
      · intro hc26
        refine k_iinc K X0 d4_41 rfl rfl (Ls' := #[.val (.int d9), .val (.int (d10 + (8 : Int32)))]) rfl (q := 44) rfl ?_
        refine k_iloadN K X0 d4_44 rfl (q := 45) rfl ?_
        refine k_bipush K X0 d4_45 (v := (8 : Int32)) rfl (q := 47) rfl ?_
        refine k_iushr K X0 d4_47 (q := 48) rfl ?_
        refine k_istoreN K X0 d4_48 rfl (Ls' := #[.val (.int (ushrI d9 (8 : Int32))), .val (.int (d10 + (8 : Int32)))]) rfl (q := 49) rfl ?_
        exact J15 _ _ (by first | (simp only [if_pos hc26]; done) | rfl) (by first | (simp only [if_pos hc26]; done) | rfl)
    refine k_icmp_le K X0 d4_23 (by decide) (q := 34) rfl (q' := 26) rfl ?_ ?_
    · intro hc27
      exact J11 _ _ (by first | (simp only [if_neg hc27]; done) | rfl) (by first | (simp only [if_neg hc27]; done) | rfl)
    · intro hc27
      refine k_iinc K X0 d4_26 rfl (by decide) (Ls' := #[.val (.int v6), .val (.int (17 : Int32))]) rfl (q := 29) rfl ?_
      refine k_iloadN K X0 d4_29 rfl (q := 30) rfl ?_
      refine k_bipush K X0 d4_30 (v := (16 : Int32)) rfl (q := 32) rfl ?_
      refine k_iushr K X0 d4_32 (q := 33) rfl ?_
      refine k_istoreN K X0 d4_33 rfl (Ls' := #[.val (.int (ushrI v6 (16 : Int32))), .val (.int (17 : Int32))]) rfl (q := 34) rfl ?_
      exact J11 _ _ (by first | (simp only [if_pos hc27]; done) | rfl) (by first | (simp only [if_pos hc27]; done) | rfl)
  · intro hc7
    refine k_iloadN K X0 d4_12 rfl (q := 13) rfl ?_
    refine k_bipush K X0 d4_13 (v := (32 : Int32)) rfl (q := 15) rfl ?_
    refine k_iand K X0 d4_15 (q := 16) rfl ?_
    exact k_reti K X0 e0 d4_16 (Nat.le_trans (by decide) hkc) (Nat.le_trans (by decide) hkn) (hQ _ _ _ ⟨(by show some (Value.int (v6 &&& (32 : Int32))) = some (Value.int (F_numberOfTrailingZeros p0)); first | (simp only [F_numberOfTrailingZeros, hv_v6, if_neg hc7]; done) | (subst hv_v6; simp only [F_numberOfTrailingZeros, if_neg hc7])), rfl, rfl⟩)
theorem d5_0 : decode prog_14_method_2_code 0 = .ok (.iload_n 0, 1) := by decide +kernel
theorem d5_1 : decode prog_14_method_2_code 1 = .ok (.i2l, 1) := by decide +kernel
theorem d5_2 : decode prog_14_method_2_code 2 = .ok (.iload_n 1, 1) := by decide +kernel
theorem d5_3 : decode prog_14_method_2_code 3 = .ok (.i2l, 1) := by decide +kernel
theorem d5_4 : decode prog_14_method_2_code 4 = .ok (.lmul, 1) := by decide +kernel
theorem d5_5 : decode prog_14_method_2_code 5 = .ok (.ldc2_w 46, 3) := by decide +kernel
theorem d5_8 : decode prog_14_method_2_code 8 = .ok (.ladd, 1) := by decide +kernel
theorem d5_9 : decode prog_14_method_2_code 9 = .ok (.lconst 1, 1) := by decide +kernel
theorem d5_10 : decode prog_14_method_2_code 10 = .ok (.lsub, 1) := by decide +kernel
theorem d5_11 : decode prog_14_method_2_code 11 = .ok (.ldc2_w 46, 3) := by decide +kernel
theorem d5_14 : decode prog_14_method_2_code 14 = .ok (.ldiv, 1) := by decide +kernel
theorem d5_15 : decode prog_14_method_2_code 15 = .ok (.lstore_n 2, 1) := by decide +kernel
theorem d5_16 : decode prog_14_method_2_code 16 = .ok (.lload_n 2, 1) := by decide +kernel
theorem d5_17 : decode prog_14_method_2_code 17 = .ok (.ldc2_w 40, 3) := by decide +kernel
theorem d5_20 : decode prog_14_method_2_code 20 = .ok (.lmul, 1) := by decide +kernel
theorem d5_21 : decode prog_14_method_2_code 21 = .ok (.lreturn, 1) := by decide +kernel
theorem ef_5 (p0 : Int32) (p1 : Int32) : ∀ m : MethodId, entryFrame m #[(.int p0), (.int p1)] 4 = mkF m 0 #[.val (.int p0), .val (.int p1), .unset, .unset] [] := by intro m; first | (simp [entryFrame, mkF, argsToLocals, Value.category]; done) | rfl
theorem pn_1 : plainName "com/example/dayflower/dayflower/filter/FilterSlab" = true := by first | (simp [plainName, overriddenIn]; done) | decide +kernel
def F_bytes (p0 : Int32) (p1 : Int32) : Int64 :=
  let v28 : Int64 := (((((Int32.toInt64 p0) * (Int32.toInt64 p1)) + (64 : Int64)) - (1 : Int64)) / (64 : Int64))
  (v28 * (8 : Int64))
set_option maxRecDepth 65536 in
set_option maxHeartbeats 40000000 in
theorem rm5 (l : Launch) (Z : State) (az : Array Value) (hw : ∀ d ∈ tables_1, d.before az Z = true) (ws : List Jvm.Cond) (p0 : Int32) (p1 : Int32) (h0 : Heap) :
    Met l (⟨"com/example/dayflower/dayflower/filter/FilterSlab", "bytes", "(II)J"⟩ : MethodName) prog_14_method_2_code 4 (some .long) ws ({ frames := 0, cells := 0, slots := 0, locals := 0 } : Room) Z #[(.int p0), (.int p1)] h0 (fun v h' L => v = some (Value.long (F_bytes p0 p1)) ∧ h' = h0 ∧ L = []) := by
  refine enter (plainFor_of_name pn_1) (ef_5 p0 p1) ?_
  intro p e s m below meth c T0 kc kn Q hkc hkn hQ K' X0 e0
  have K : Fx p s m meth c prog_14_method_2_code 4 "com/example/dayflower/dayflower/filter/FilterSlab" "bytes" (some .long) Z := K'
  refine k_iloadN K X0 d5_0 rfl (q := 1) rfl ?_
  refine k_i2l K X0 d5_1 (q := 2) rfl ?_
  refine k_iloadN K X0 d5_2 rfl (q := 3) rfl ?_
  refine k_i2l K X0 d5_3 (q := 4) rfl ?_
  refine k_lmul K X0 d5_4 (q := 5) rfl ?_
  refine k_ldc2 K X0 d5_5 (wd hw 29 rfl) (q := 8) rfl ?_
  refine k_ladd K X0 d5_8 (q := 9) rfl ?_
  refine k_lconst1 K X0 d5_9 (q := 10) rfl ?_
  refine k_lsub K X0 d5_10 (q := 11) rfl ?_
  refine k_ldc2 K X0 d5_11 (wd hw 29 rfl) (q := 14) rfl ?_
  refine k_ldiv K X0 d5_14 (by decide) (q := 15) rfl ?_
  obtain ⟨v28, hv_v28⟩ : ∃ z : Int64, (((((Int32.toInt64 p0) * (Int32.toInt64 p1)) + (64 : Int64)) - (1 : Int64)) / (64 : Int64)) = z := ⟨_, rfl⟩
  refine k_lstoreN K X0 d5_15 hv_v28 (Ls' := #[.val (.int p0), .val (.int p1), .val (.long v28), .second]) rfl (q := 16) rfl ?_
  refine k_lloadN K X0 d5_16 rfl (q := 17) rfl ?_
  refine k_ldc2 K X0 d5_17 (wd hw 30 rfl) (q := 20) rfl ?_
  refine k_lmul K X0 d5_20 (q := 21) rfl ?_
  exact k_retl K X0 e0 d5_21 (Nat.le_trans (by decide) hkc) (Nat.le_trans (by decide) hkn) (hQ _ _ _ ⟨(by show some (Value.long (v28 * (8 : Int64))) = some (Value.long (F_bytes p0 p1)); first | (simp only [F_bytes, hv_v28]; done) | (subst hv_v28; simp only [F_bytes])), rfl, rfl⟩)
theorem d7_0 : decode method_2_code 0 = .ok (.iload_n 0, 1) := by decide +kernel
theorem d7_1 : decode method_2_code 1 = .ok (.iload_n 2, 1) := by decide +kernel
theorem d7_2 : decode method_2_code 2 = .ok (.idiv, 1) := by decide +kernel
theorem d7_3 : decode method_2_code 3 = .ok (.iload_n 1, 1) := by decide +kernel
theorem d7_4 : decode method_2_code 4 = .ok (.iload_n 2, 1) := by decide +kernel
theorem d7_5 : decode method_2_code 5 = .ok (.idiv, 1) := by decide +kernel
theorem d7_6 : decode method_2_code 6 = .ok (.if_icmp .eq 5, 3) := by decide +kernel
theorem d7_11 : decode method_2_code 11 = .ok (.lload 4, 2) := by decide +kernel
theorem d7_13 : decode method_2_code 13 = .ok (.iload_n 0, 1) := by decide +kernel
theorem d7_14 : decode method_2_code 14 = .ok (.iload_n 2, 1) := by decide +kernel
theorem d7_15 : decode method_2_code 15 = .ok (.irem, 1) := by decide +kernel
theorem d7_16 : decode method_2_code 16 = .ok (.iload_n 3, 1) := by decide +kernel
theorem d7_17 : decode method_2_code 17 = .ok (.ishl, 1) := by decide +kernel
theorem d7_18 : decode method_2_code 18 = .ok (.lshl, 1) := by decide +kernel
theorem d7_19 : decode method_2_code 19 = .ok (.lreturn, 1) := by decide +kernel
theorem d7_9 : decode method_2_code 9 = .ok (.lconst 0, 1) := by decide +kernel
theorem d7_10 : decode method_2_code 10 = .ok (.lreturn, 1) := by decide +kernel
theorem ef_7 (p0 : Int32) (p1 : Int32) (p2 : Int32) (p3 : Int32) (q4 : Int64) : ∀ m : MethodId, entryFrame m #[(.int p0), (.int p1), (.int p2), (.int p3), (.long q4)] 6 = mkF m 0 #[.val (.int p0), .val (.int p1), .val (.int p2), .val (.int p3), .val (.long q4), .second] [] := by intro m; first | (simp [entryFrame, mkF, argsToLocals, Value.category]; done) | rfl
theorem pn_2 : plainName "com/example/dayflower/dayflower/filter/FilterSlabAddPinLaw" = true := by first | (simp [plainName, overriddenIn]; done) | decide +kernel
def F_at (p0 : Int32) (p1 : Int32) (p2 : Int32) (p3 : Int32) (q4 : Int64) : Int64 :=
  if (p0 / p2) = (p1 / p2) then
    (shlL q4 (shlI (p0 % p2) p3))
  else
    (0 : Int64)
set_option maxRecDepth 65536 in
set_option maxHeartbeats 40000000 in
theorem rm7 (l : Launch) (Z : State) (az : Array Value) (hw : ∀ d ∈ tables_1, d.before az Z = true) (ws : List Jvm.Cond) (p0 : Int32) (p1 : Int32) (p2 : Int32) (p3 : Int32) (q4 : Int64) (h0 : Heap) (ob_0 : ¬ p2 = (0 : Int32)) :
    Met l (⟨"com/example/dayflower/dayflower/filter/FilterSlabAddPinLaw", "at", "(IIIIJ)J"⟩ : MethodName) method_2_code 6 (some .long) ws ({ frames := 0, cells := 0, slots := 0, locals := 0 } : Room) Z #[(.int p0), (.int p1), (.int p2), (.int p3), (.long q4)] h0 (fun v h' L => v = some (Value.long (F_at p0 p1 p2 p3 q4)) ∧ h' = h0 ∧ L = []) := by
  refine enter (plainFor_of_name pn_2) (ef_7 p0 p1 p2 p3 q4) ?_
  intro p e s m below meth c T0 kc kn Q hkc hkn hQ K' X0 e0
  have K : Fx p s m meth c method_2_code 6 "com/example/dayflower/dayflower/filter/FilterSlabAddPinLaw" "at" (some .long) Z := K'
  refine k_iloadN K X0 d7_0 rfl (q := 1) rfl ?_
  refine k_iloadN K X0 d7_1 rfl (q := 2) rfl ?_
  refine k_idiv K X0 d7_2 (ob_0) (q := 3) rfl ?_
  refine k_iloadN K X0 d7_3 rfl (q := 4) rfl ?_
  refine k_iloadN K X0 d7_4 rfl (q := 5) rfl ?_
  refine k_idiv K X0 d7_5 (ob_0) (q := 6) rfl ?_
  refine k_icmp_eq K X0 d7_6 (by decide) (q := 11) rfl (q' := 9) rfl ?_ ?_
  · intro hc29
    refine k_lload K X0 d7_11 rfl (q := 13) rfl ?_
    refine k_iloadN K X0 d7_13 rfl (q := 14) rfl ?_
    refine k_iloadN K X0 d7_14 rfl (q := 15) rfl ?_
    refine k_irem K X0 d7_15 (ob_0) (q := 16) rfl ?_
    refine k_iloadN K X0 d7_16 rfl (q := 17) rfl ?_
    refine k_ishl K X0 d7_17 (q := 18) rfl ?_
    refine k_lshl K X0 d7_18 (q := 19) rfl ?_
    exact k_retl K X0 e0 d7_19 (Nat.le_trans (by decide) hkc) (Nat.le_trans (by decide) hkn) (hQ _ _ _ ⟨(by show some (Value.long (shlL q4 (shlI (p0 % p2) p3))) = some (Value.long (F_at p0 p1 p2 p3 q4)); first | (simp only [F_at, if_pos hc29]; done) | (simp only [F_at, if_pos hc29])), rfl, rfl⟩)
  · intro hc29
    refine k_lconst0 K X0 d7_9 (q := 10) rfl ?_
    exact k_retl K X0 e0 d7_10 (Nat.le_trans (by decide) hkc) (Nat.le_trans (by decide) hkn) (hQ _ _ _ ⟨(by show some (Value.long (0 : Int64)) = some (Value.long (F_at p0 p1 p2 p3 q4)); first | (simp only [F_at, if_neg hc29]; done) | (simp only [F_at, if_neg hc29])), rfl, rfl⟩)
theorem d1_0 : decode prog_14_method_1_code 0 = .ok (.aload_n 0, 1) := by decide +kernel
theorem d1_1 : decode prog_14_method_1_code 1 = .ok (.invokespecial 3, 3) := by decide +kernel
theorem d1_4 : decode prog_14_method_1_code 4 = .ok (.iload_n 2, 1) := by decide +kernel
theorem d1_5 : decode prog_14_method_1_code 5 = .ok (.iconst 1, 1) := by decide +kernel
theorem d1_6 : decode prog_14_method_1_code 6 = .ok (.if_icmp .lt 17, 3) := by decide +kernel
theorem d1_9 : decode prog_14_method_1_code 9 = .ok (.iload_n 2, 1) := by decide +kernel
theorem d1_10 : decode prog_14_method_1_code 10 = .ok (.bipush 64, 2) := by decide +kernel
theorem d1_12 : decode prog_14_method_1_code 12 = .ok (.if_icmp .gt 11, 3) := by decide +kernel
theorem d1_15 : decode prog_14_method_1_code 15 = .ok (.iload_n 2, 1) := by decide +kernel
theorem d1_16 : decode prog_14_method_1_code 16 = .ok (.invokestatic 11, 3) := by decide +kernel
theorem pd_0 : parseMethodDescriptor "(I)I" = some ⟨[.int], some .int⟩ := by decide +kernel
theorem d1_19 : decode prog_14_method_1_code 19 = .ok (.iconst 1, 1) := by decide +kernel
theorem d1_20 : decode prog_14_method_1_code 20 = .ok (.if_icmp .eq 17, 3) := by decide +kernel
theorem d1_37 : decode prog_14_method_1_code 37 = .ok (.aload_n 0, 1) := by decide +kernel
theorem d1_38 : decode prog_14_method_1_code 38 = .ok (.iload_n 2, 1) := by decide +kernel
theorem d1_39 : decode prog_14_method_1_code 39 = .ok (.putfield 26, 3) := by decide +kernel
theorem d1_42 : decode prog_14_method_1_code 42 = .ok (.aload_n 0, 1) := by decide +kernel
theorem d1_43 : decode prog_14_method_1_code 43 = .ok (.iload_n 2, 1) := by decide +kernel
theorem d1_44 : decode prog_14_method_1_code 44 = .ok (.invokestatic 30, 3) := by decide +kernel
theorem d1_47 : decode prog_14_method_1_code 47 = .ok (.putfield 33, 3) := by decide +kernel
theorem d1_50 : decode prog_14_method_1_code 50 = .ok (.aload_n 0, 1) := by decide +kernel
theorem d1_51 : decode prog_14_method_1_code 51 = .ok (.iload_n 1, 1) := by decide +kernel
theorem d1_52 : decode prog_14_method_1_code 52 = .ok (.iload_n 2, 1) := by decide +kernel
theorem d1_53 : decode prog_14_method_1_code 53 = .ok (.invokestatic 36, 3) := by decide +kernel
theorem pd_1 : parseMethodDescriptor "(II)J" = some ⟨[.int, .int], some .long⟩ := by decide +kernel
theorem d1_56 : decode prog_14_method_1_code 56 = .ok (.ldc2_w 40, 3) := by decide +kernel
theorem d1_59 : decode prog_14_method_1_code 59 = .ok (.ldiv, 1) := by decide +kernel
theorem d1_60 : decode prog_14_method_1_code 60 = .ok (.l2i, 1) := by decide +kernel
theorem d1_61 : decode prog_14_method_1_code 61 = .ok (.newarray .long, 2) := by decide +kernel
theorem d1_63 : decode prog_14_method_1_code 63 = .ok (.putfield 42, 3) := by decide +kernel
theorem d1_66 : decode prog_14_method_1_code 66 = .ok (.return_, 1) := by decide +kernel
theorem ef_1 (a0 : Addr) (p1 : Int32) (p2 : Int32) : ∀ m : MethodId, entryFrame m #[(.ref a0), (.int p1), (.int p2)] 3 = mkF m 0 #[.val (.ref a0), .val (.int p1), .val (.int p2)] [] := by intro m; first | (simp [entryFrame, mkF, argsToLocals, Value.category]; done) | rfl
set_option maxRecDepth 65536 in
set_option maxHeartbeats 40000000 in
theorem rm1 (l : Launch) (Z : State) (az : Array Value) (hw : ∀ d ∈ tables_1, d.before az Z = true) (ws : List Jvm.Cond) (a0 : Addr) (p1 : Int32) (p2 : Int32) (w_a0_lanes : Int32) (w_a0_laneShift : Int32) (w_a0_words : Value) (h0 : Heap) (n0 : Nat) (Z0 : n0 ≤ h0.size) (E_a0 : Exa Z h0 a0 "com/example/dayflower/dayflower/filter/FilterSlab") (F_a0_lanes : Fld Z h0 a0 "com/example/dayflower/dayflower/filter/FilterSlab" "lanes" "I" (.int w_a0_lanes)) (ge_a0 : n0 ≤ a0) (F_a0_laneShift : Fld Z h0 a0 "com/example/dayflower/dayflower/filter/FilterSlab" "laneShift" "I" (.int w_a0_laneShift)) (F_a0_words : Fld Z h0 a0 "com/example/dayflower/dayflower/filter/FilterSlab" "words" "[J" w_a0_words) (ob_0 : ¬ (p2 < (1 : Int32))) (ob_1 : ¬ ((64 : Int32) < p2)) (ob_2 : (F_bitCount p2) = (1 : Int32)) (ob_3 : ¬ (Int64.toInt32 ((F_bytes p1 p2) / (8 : Int64))) < (0 : Int32) ∧ (Int32.toNatClampNeg (Int64.toInt32 ((F_bytes p1 p2) / (8 : Int64)))) ≤ 4096) :
    Met l (⟨"com/example/dayflower/dayflower/filter/FilterSlab", "<init>", "(II)V"⟩ : MethodName) prog_14_method_1_code 3 none ws ({ frames := 1, cells := 1, slots := 4096, locals := 16 } : Room) Z #[(.ref a0), (.int p1), (.int p2)] h0 (fun v h' L => ∃ b156 : Addr, n0 ≤ b156 ∧ h0.size ≤ b156 ∧ v = none ∧ Fr n0 L ∧ Keep h0 h' [a0] ∧ Fld Z h' a0 "com/example/dayflower/dayflower/filter/FilterSlab" "laneShift" "I" (.int (F_numberOfTrailingZeros p2)) ∧ Fld Z h' a0 "com/example/dayflower/dayflower/filter/FilterSlab" "lanes" "I" (.int p2) ∧ Fld Z h' a0 "com/example/dayflower/dayflower/filter/FilterSlab" "words" "[J" (.ref b156) ∧ Ary Z h' b156 .long (Int32.toNatClampNeg (Int64.toInt32 ((F_bytes p1 p2) / (8 : Int64)))) (fun i => Value.long ((fun _ => (0 : Int64)) i))) := by
  refine enter (plainFor_of_name pn_1) (ef_1 a0 p1 p2) ?_
  intro p e s m below meth c T0 kc kn Q hkc hkn hQ K' X0 e0
  have K : Fx p s m meth c prog_14_method_1_code 3 "com/example/dayflower/dayflower/filter/FilterSlab" "<init>" none Z := K'
  have N0 := Fr.nil n0
  have K0 : Keep h0 h0 [a0] := Keep.refl _ _
  refine k_aloadN K X0 d1_0 rfl rfl (q := 1) rfl ?_
  refine k_initO K X0 e0 d1_1 (wd hw 9 rfl) (wd hw 10 rfl) (wd hw 11 rfl) rfl (by decide) (W := 0) (Nat.le_of_eq rfl) (by decide) (q := 4) rfl ?_
  intro T118 X119 e120
  refine k_iloadN K X119 d1_4 rfl (q := 5) rfl ?_
  refine k_iconst K X119 d1_5 (v := (1 : Int32)) rfl (q := 6) rfl ?_
  refine k_icmp_lt_n K X119 d1_6 (ob_0) (q := 9) rfl ?_
  refine k_iloadN K X119 d1_9 rfl (q := 10) rfl ?_
  refine k_bipush K X119 d1_10 (v := (64 : Int32)) rfl (q := 12) rfl ?_
  refine k_icmp_gt_n K X119 d1_12 (ob_1) (q := 15) rfl ?_
  refine k_iloadN K X119 d1_15 rfl (q := 16) rfl ?_
  refine k_staticP K X119 e120 d1_16 (wd hw 12 rfl) (wd hw 13 rfl) (wd hw 14 rfl) (wd hw 15 rfl) (by decide) (rm3 l Z az hw [] p2 h0) (W := 0) (by decide) (by decide) (by decide) (by decide) rfl pd_0 (argsL := [(.int p2)]) (rest := []) rfl rfl rfl (Nat.le_of_eq rfl) (q := 19) rfl ?_
  intro T121 X122 e123
  refine k_iconst K X122 d1_19 (v := (1 : Int32)) rfl (q := 20) rfl ?_
  refine k_icmp_eq_y K X122 d1_20 (ob_2) (by decide) (q := 37) rfl ?_
  refine k_aloadN K X122 d1_37 rfl rfl (q := 38) rfl ?_
  refine k_iloadN K X122 d1_38 rfl (q := 39) rfl ?_
  refine k_putfield K X122 e123 d1_39 (wd hw 19 rfl) F_a0_lanes E_a0 (Or.inr ⟨(wd hw 20 rfl), rfl, rfl⟩) (wd hw 4 rfl) (ty := .int) (by decide) rfl rfl (q := 42) rfl ?_
  intro T124 h125 X126 e127 W128
  have f129 := Fld.same W128 F_a0_lanes
  have f130 := Exa.wr W128 E_a0
  have f131 := Fld.other W128 F_a0_laneShift (Or.inr (slot_ne (Or.inr (wd hw 25 rfl)) (Or.inr (wd hw 20 rfl)) (by decide) (t := .int) (t' := .int) (by decide) (by decide)))
  have f132 := Fld.other W128 F_a0_words (Or.inr (slot_ne (Or.inr (wd hw 33 rfl)) (Or.inr (wd hw 20 rfl)) (by decide) (t := (.array .long)) (t' := .int) (by decide) (by decide)))
  have N133 := Fr.snoc X126 N0 ge_a0
  have K134 := Keep.wr K0 W128 (Or.inl (List.mem_of_getElem? (i := 0) rfl))
  have Z135 := Nat.le_trans Z0 (Nat.le_of_eq (Wr.size W128).symm)
  refine k_aloadN K X126 d1_42 rfl rfl (q := 43) rfl ?_
  refine k_iloadN K X126 d1_43 rfl (q := 44) rfl ?_
  refine k_staticP K X126 e127 d1_44 (wd hw 21 rfl) (wd hw 22 rfl) (wd hw 14 rfl) (wd hw 23 rfl) (by decide) (rm4 l Z az hw [] p2 h125) (W := 1) (by decide) (by decide) (by decide) (by decide) rfl pd_0 (argsL := [(.int p2)]) (rest := [(.ref a0)]) rfl rfl rfl (Nat.le_of_eq rfl) (q := 47) rfl ?_
  intro T136 X137 e138
  refine k_putfield K X137 e138 d1_47 (wd hw 24 rfl) f131 f130 (Or.inr ⟨(wd hw 25 rfl), rfl, rfl⟩) (wd hw 4 rfl) (ty := .int) (by decide) rfl rfl (q := 50) rfl ?_
  intro T139 h140 X141 e142 W143
  have f144 := Fld.same W143 f131
  have f145 := Exa.wr W143 f130
  have f146 := Fld.other W143 f132 (Or.inr (slot_ne (Or.inr (wd hw 33 rfl)) (Or.inr (wd hw 25 rfl)) (by decide) (t := (.array .long)) (t' := .int) (by decide) (by decide)))
  have f147 := Fld.other W143 f129 (Or.inr (slot_ne (Or.inr (wd hw 20 rfl)) (Or.inr (wd hw 25 rfl)) (by decide) (t := .int) (t' := .int) (by decide) (by decide)))
  have N148 := Fr.snoc X141 N133 ge_a0
  have K149 := Keep.wr K134 W143 (Or.inl (List.mem_of_getElem? (i := 0) rfl))
  have Z150 := Nat.le_trans Z135 (Nat.le_of_eq (Wr.size W143).symm)
  refine k_aloadN K X141 d1_50 rfl rfl (q := 51) rfl ?_
  refine k_iloadN K X141 d1_51 rfl (q := 52) rfl ?_
  refine k_iloadN K X141 d1_52 rfl (q := 53) rfl ?_
  refine k_staticP K X141 e142 d1_53 (wd hw 26 rfl) (wd hw 27 rfl) (wd hw 5 rfl) (wd hw 28 rfl) (by decide) (rm5 l Z az hw [] p1 p2 h140) (W := 1) (by decide) (by decide) (by decide) (by decide) rfl pd_1 (argsL := [(.int p1), (.int p2)]) (rest := [(.ref a0)]) rfl rfl rfl (Nat.le_of_eq rfl) (q := 56) rfl ?_
  intro T151 X152 e153
  refine k_ldc2 K X152 d1_56 (wd hw 30 rfl) (q := 59) rfl ?_
  refine k_ldiv K X152 d1_59 (by decide) (q := 60) rfl ?_
  refine k_l2i K X152 d1_60 (q := 61) rfl ?_
  refine k_newarray K X152 e153 d1_61 (ty := .long) rfl (wd hw 31 rfl) (n := (Int32.toNatClampNeg (Int64.toInt32 ((F_bytes p1 p2) / (8 : Int64))))) (cap := 4096) ⟨((ob_3)).1, rfl⟩ ((ob_3)).2 (by decide) (by decide) (by decide) (q := 63) rfl ?_
  intro T154 h155 b156 X157 e158 g159 E160 A161 
  have ne162 : a0 ≠ b156 := Nat.ne_of_lt (Nat.lt_of_lt_of_eq (f145).lt g159.symm)
  have ge163 : n0 ≤ b156 := Nat.le_trans Z150 (Nat.le_of_eq g159.symm)
  have bn164 : h0.size ≤ b156 := Nat.le_trans K149.1 (Nat.le_of_eq g159.symm)
  have f165 := Exa.ext E160 f145
  have f166 := Fld.ext E160 f146
  have f167 := Fld.ext E160 f147
  have f168 := Fld.ext E160 f144
  have K169 := Keep.ext K149 E160
  have Z170 := Nat.le_trans Z150 E160.1
  have f171 : Ary Z h155 b156 .long (Int32.toNatClampNeg (Int64.toInt32 ((F_bytes p1 p2) / (8 : Int64)))) (fun i => Value.long ((fun _ => (0 : Int64)) i)) := A161
  refine k_putfield K X157 e158 d1_63 (wd hw 32 rfl) f166 f165 (Or.inr ⟨(wd hw 33 rfl), rfl, rfl⟩) (wd hw 4 rfl) (ty := (.array .long)) (by decide) rfl rfl (q := 66) rfl ?_
  intro T172 h173 X174 e175 W176
  have f177 := Fld.same W176 f166
  have f178 := Exa.wr W176 f165
  have f179 := Fld.other W176 f167 (Or.inr (slot_ne (Or.inr (wd hw 20 rfl)) (Or.inr (wd hw 33 rfl)) (by decide) (t := .int) (t' := (.array .long)) (by decide) (by decide)))
  have f180 := Fld.other W176 f168 (Or.inr (slot_ne (Or.inr (wd hw 25 rfl)) (Or.inr (wd hw 33 rfl)) (by decide) (t := .int) (t' := (.array .long)) (by decide) (by decide)))
  have f181 := Ary.other f171 W176 (Ne.symm ne162)
  have N182 := Fr.snoc X174 N148 ge_a0
  have K183 := Keep.wr K169 W176 (Or.inl (List.mem_of_getElem? (i := 0) rfl))
  have Z184 := Nat.le_trans Z170 (Nat.le_of_eq (Wr.size W176).symm)
  exact k_retv K X174 e175 d1_66 (Nat.le_trans (by decide) hkc) (Nat.le_trans (by decide) hkn) (hQ _ _ _ ⟨b156, ge163, bn164, rfl, N182, K183, f180, f179, f177, f181⟩)
theorem d6_0 : decode prog_14_method_4_code 0 = .ok (.aload_n 1, 1) := by decide +kernel
theorem d6_1 : decode prog_14_method_4_code 1 = .ok (.astore 4, 2) := by decide +kernel
theorem d6_3 : decode prog_14_method_4_code 3 = .ok (.aload 4, 2) := by decide +kernel
theorem d6_5 : decode prog_14_method_4_code 5 = .ok (.arraylength, 1) := by decide +kernel
theorem d6_6 : decode prog_14_method_4_code 6 = .ok (.istore 5, 2) := by decide +kernel
theorem d6_8 : decode prog_14_method_4_code 8 = .ok (.iconst 0, 1) := by decide +kernel
theorem d6_9 : decode prog_14_method_4_code 9 = .ok (.istore 6, 2) := by decide +kernel
theorem d6_11 : decode prog_14_method_4_code 11 = .ok (.iload 6, 2) := by decide +kernel
theorem d6_13 : decode prog_14_method_4_code 13 = .ok (.iload 5, 2) := by decide +kernel
theorem d6_15 : decode prog_14_method_4_code 15 = .ok (.if_icmp .ge 45, 3) := by decide +kernel
theorem d6_18 : decode prog_14_method_4_code 18 = .ok (.aload 4, 2) := by decide +kernel
theorem d6_20 : decode prog_14_method_4_code 20 = .ok (.iload 6, 2) := by decide +kernel
theorem d6_22 : decode prog_14_method_4_code 22 = .ok (.iaload, 1) := by decide +kernel
theorem d6_23 : decode prog_14_method_4_code 23 = .ok (.istore 7, 2) := by decide +kernel
theorem d6_25 : decode prog_14_method_4_code 25 = .ok (.iload 7, 2) := by decide +kernel
theorem d6_27 : decode prog_14_method_4_code 27 = .ok (.i2l, 1) := by decide +kernel
theorem d6_28 : decode prog_14_method_4_code 28 = .ok (.aload_n 0, 1) := by decide +kernel
theorem d6_29 : decode prog_14_method_4_code 29 = .ok (.getfield 33, 3) := by decide +kernel
theorem d6_32 : decode prog_14_method_4_code 32 = .ok (.lshl, 1) := by decide +kernel
theorem d6_33 : decode prog_14_method_4_code 33 = .ok (.lstore 8, 2) := by decide +kernel
theorem d6_35 : decode prog_14_method_4_code 35 = .ok (.aload_n 0, 1) := by decide +kernel
theorem d6_36 : decode prog_14_method_4_code 36 = .ok (.getfield 42, 3) := by decide +kernel
theorem d6_39 : decode prog_14_method_4_code 39 = .ok (.lload 8, 2) := by decide +kernel
theorem d6_41 : decode prog_14_method_4_code 41 = .ok (.bipush 6, 2) := by decide +kernel
theorem d6_43 : decode prog_14_method_4_code 43 = .ok (.lushr, 1) := by decide +kernel
theorem d6_44 : decode prog_14_method_4_code 44 = .ok (.l2i, 1) := by decide +kernel
theorem d6_45 : decode prog_14_method_4_code 45 = .ok (.dup2, 1) := by decide +kernel
theorem d6_46 : decode prog_14_method_4_code 46 = .ok (.laload, 1) := by decide +kernel
theorem d6_47 : decode prog_14_method_4_code 47 = .ok (.lload_n 2, 1) := by decide +kernel
theorem d6_48 : decode prog_14_method_4_code 48 = .ok (.lload 8, 2) := by decide +kernel
theorem d6_50 : decode prog_14_method_4_code 50 = .ok (.l2i, 1) := by decide +kernel
theorem d6_51 : decode prog_14_method_4_code 51 = .ok (.lshl, 1) := by decide +kernel
theorem d6_52 : decode prog_14_method_4_code 52 = .ok (.lor, 1) := by decide +kernel
theorem d6_53 : decode prog_14_method_4_code 53 = .ok (.lastore, 1) := by decide +kernel
theorem d6_54 : decode prog_14_method_4_code 54 = .ok (.iinc 6 1, 3) := by decide +kernel
theorem d6_57 : decode prog_14_method_4_code 57 = .ok (.goto (-46), 3) := by decide +kernel
theorem d6_60 : decode prog_14_method_4_code 60 = .ok (.return_, 1) := by decide +kernel
theorem ef_61 (a0 : Addr) (a1 : Addr) (q2 : Int64) : ∀ m : MethodId, entryFrame m #[(.ref a0), (.ref a1), (.long q2)] 10 = mkF m 0 #[.val (.ref a0), .val (.ref a1), .val (.long q2), .second, .unset, .unset, .unset, .unset, .unset, .unset] [] := by intro m; first | (simp [entryFrame, mkF, argsToLocals, Value.category]; done) | rfl
def F_add1_w_a0_words_g (q2 : Int64) (s_a1_0 : Int32) (w_a0_laneShift : Int32) (n_w_a0_words : Nat) (g_w_a0_words : Nat → Int64) : Nat → Int64 :=
  let v240 : Int64 := (shlL (Int32.toInt64 s_a1_0) w_a0_laneShift)
  let v244 : Int64 := (g_w_a0_words (Int32.toNatClampNeg (Int64.toInt32 (ushrL v240 (6 : Int32)))))
  let v245 : Nat → Int64 := (upd g_w_a0_words (Int32.toNatClampNeg (Int64.toInt32 (ushrL v240 (6 : Int32)))) (v244 ||| (shlL q2 (Int64.toInt32 v240))))
  v245
set_option maxRecDepth 65536 in
set_option maxHeartbeats 40000000 in
theorem rm61 (l : Launch) (Z : State) (az : Array Value) (hw : ∀ d ∈ tables_1, d.before az Z = true) (ws : List Jvm.Cond) (a0 : Addr) (a1 : Addr) (q2 : Int64) (s_a1_0 : Int32) (w_a0_laneShift : Int32) (w_a0_words : Addr) (n_w_a0_words : Nat) (g_w_a0_words : Nat → Int64) (h0 : Heap) (n0 : Nat) (Z0 : n0 ≤ h0.size) (A_a1 : Ary Z h0 a1 .int 1 (fun i => Value.int (List.getD [s_a1_0] i 0))) (F_a0_laneShift : Fld Z h0 a0 "com/example/dayflower/dayflower/filter/FilterSlab" "laneShift" "I" (.int w_a0_laneShift)) (F_a0_words : Fld Z h0 a0 "com/example/dayflower/dayflower/filter/FilterSlab" "words" "[J" (.ref w_a0_words)) (A_w_a0_words : Ary Z h0 w_a0_words .long n_w_a0_words (fun i => Value.long (g_w_a0_words i))) (ge_w_a0_words : n0 ≤ w_a0_words) (ne_a1_w_a0_words : a1 ≠ w_a0_words) (ne_a0_w_a0_words : a0 ≠ w_a0_words) (ob_0 : ∀ (v240 : Int64), (shlL (Int32.toInt64 s_a1_0) w_a0_laneShift) = v240 → ¬ (Int64.toInt32 (ushrL v240 (6 : Int32))) < (0 : Int32) ∧ Int32.toNatClampNeg (Int64.toInt32 (ushrL v240 (6 : Int32))) < n_w_a0_words) :
    Met l (⟨"com/example/dayflower/dayflower/filter/FilterSlab", "add", "([IJ)V"⟩ : MethodName) prog_14_method_4_code 10 none ws ({ frames := 0, cells := 0, slots := 0, locals := 0 } : Room) Z #[(.ref a0), (.ref a1), (.long q2)] h0 (fun v h' L => v = none ∧ Fr n0 L ∧ Keep h0 h' [w_a0_words] ∧ Ary Z h' w_a0_words .long n_w_a0_words (fun i => Value.long ((F_add1_w_a0_words_g q2 s_a1_0 w_a0_laneShift n_w_a0_words g_w_a0_words) i))) := by
  refine enter (plainFor_of_name pn_1) (ef_61 a0 a1 q2) ?_
  intro p e s m below meth c T0 kc kn Q hkc hkn hQ K' X0 e0
  have K : Fx p s m meth c prog_14_method_4_code 10 "com/example/dayflower/dayflower/filter/FilterSlab" "add" none Z := K'
  have N0 := Fr.nil n0
  have K0 : Keep h0 h0 [w_a0_words] := Keep.refl _ _
  refine k_aloadN K X0 d6_0 rfl rfl (q := 1) rfl ?_
  refine k_astore K X0 d6_1 rfl (Ls' := #[.val (.ref a0), .val (.ref a1), .val (.long q2), .second, .val (.ref a1), .unset, .unset, .unset, .unset, .unset]) rfl (q := 3) rfl ?_
  refine k_aload K X0 d6_3 rfl rfl (q := 5) rfl ?_
  refine k_arraylength K X0 e0 d6_5 A_a1 (v := (1 : Int32)) rfl (q := 6) rfl ?_
  refine k_istore K X0 d6_6 rfl (Ls' := #[.val (.ref a0), .val (.ref a1), .val (.long q2), .second, .val (.ref a1), .val (.int (1 : Int32)), .unset, .unset, .unset, .unset]) rfl (q := 8) rfl ?_
  refine k_iconst K X0 d6_8 (v := (0 : Int32)) rfl (q := 9) rfl ?_
  refine k_istore K X0 d6_9 rfl (Ls' := #[.val (.ref a0), .val (.ref a1), .val (.long q2), .second, .val (.ref a1), .val (.int (1 : Int32)), .val (.int (0 : Int32)), .unset, .unset, .unset]) rfl (q := 11) rfl ?_
  refine k_iload K X0 d6_11 rfl (q := 13) rfl ?_
  refine k_iload K X0 d6_13 rfl (q := 15) rfl ?_
  refine k_icmp_ge_n K X0 d6_15 (by decide) (q := 18) rfl ?_
  refine k_aload K X0 d6_18 rfl rfl (q := 20) rfl ?_
  refine k_iload K X0 d6_20 rfl (q := 22) rfl ?_
  refine k_iaload K X0 e0 d6_22 A_a1 (i := 0) (v := (.int s_a1_0)) (by decide) (by decide) rfl (q := 23) rfl ?_
  refine k_istore K X0 d6_23 rfl (Ls' := #[.val (.ref a0), .val (.ref a1), .val (.long q2), .second, .val (.ref a1), .val (.int (1 : Int32)), .val (.int (0 : Int32)), .val (.int s_a1_0), .unset, .unset]) rfl (q := 25) rfl ?_
  refine k_iload K X0 d6_25 rfl (q := 27) rfl ?_
  refine k_i2l K X0 d6_27 (q := 28) rfl ?_
  refine k_aloadN K X0 d6_28 rfl rfl (q := 29) rfl ?_
  refine k_getfield K X0 e0 d6_29 (wd hw 24 rfl) F_a0_laneShift (q := 32) rfl ?_
  intro T237 X238 e239
  refine k_lshl K X238 d6_32 (q := 33) rfl ?_
  obtain ⟨v240, hv_v240⟩ : ∃ z : Int64, (shlL (Int32.toInt64 s_a1_0) w_a0_laneShift) = z := ⟨_, rfl⟩
  refine k_lstore K X238 d6_33 hv_v240 (Ls' := #[.val (.ref a0), .val (.ref a1), .val (.long q2), .second, .val (.ref a1), .val (.int (1 : Int32)), .val (.int (0 : Int32)), .val (.int s_a1_0), .val (.long v240), .second]) rfl (q := 35) rfl ?_
  refine k_aloadN K X238 d6_35 rfl rfl (q := 36) rfl ?_
  refine k_getfield K X238 e239 d6_36 (wd hw 32 rfl) F_a0_words (q := 39) rfl ?_
  intro T241 X242 e243
  refine k_lload K X242 d6_39 rfl (q := 41) rfl ?_
  refine k_bipush K X242 d6_41 (v := (6 : Int32)) rfl (q := 43) rfl ?_
  refine k_lushr K X242 d6_43 (q := 44) rfl ?_
  refine k_l2i K X242 d6_44 (q := 45) rfl ?_
  refine k_dup2 K X242 d6_45 rfl rfl (q := 46) rfl ?_
  refine k_laload K X242 e243 d6_46 A_w_a0_words (i := (Int32.toNatClampNeg (Int64.toInt32 (ushrL v240 (6 : Int32))))) (v := (.long (g_w_a0_words (Int32.toNatClampNeg (Int64.toInt32 (ushrL v240 (6 : Int32))))))) ⟨((ob_0 v240 hv_v240)).1, rfl⟩ ((ob_0 v240 hv_v240)).2 rfl (q := 47) rfl ?_
  obtain ⟨v244, hv_v244⟩ : ∃ z : Int64, (g_w_a0_words (Int32.toNatClampNeg (Int64.toInt32 (ushrL v240 (6 : Int32))))) = z := ⟨_, rfl⟩
  refine k_nameJ hv_v244 ?_
  refine k_lloadN K X242 d6_47 rfl (q := 48) rfl ?_
  refine k_lload K X242 d6_48 rfl (q := 50) rfl ?_
  refine k_l2i K X242 d6_50 (q := 51) rfl ?_
  refine k_lshl K X242 d6_51 (q := 52) rfl ?_
  refine k_lor K X242 d6_52 (q := 53) rfl ?_
  obtain ⟨v245, hv_v245⟩ : ∃ z : Nat → Int64, (upd g_w_a0_words (Int32.toNatClampNeg (Int64.toInt32 (ushrL v240 (6 : Int32)))) (v244 ||| (shlL q2 (Int64.toInt32 v240)))) = z := ⟨_, rfl⟩
  refine k_lastore K X242 e243 d6_53 A_w_a0_words (i := (Int32.toNatClampNeg (Int64.toInt32 (ushrL v240 (6 : Int32))))) ⟨((ob_0 v240 hv_v240)).1, rfl⟩ ((ob_0 v240 hv_v240)).2 (q := 54) rfl ?_
  intro T246 h247 X248 e249 W250 A251
  have f252 : Ary Z h247 w_a0_words .long n_w_a0_words (fun i => Value.long (v245 i)) := Ary.eqv A251 (fun k _ => by rw [← hv_v245]; show (if k = (Int32.toNatClampNeg (Int64.toInt32 (ushrL v240 (6 : Int32)))) then _ else _) = _; unfold upd; split <;> rfl)
  have f253 := Ary.other A_a1 W250 ne_a1_w_a0_words
  have f254 := Fld.other W250 F_a0_laneShift (Or.inl ne_a0_w_a0_words)
  have f255 := Fld.other W250 F_a0_words (Or.inl ne_a0_w_a0_words)
  have N256 := Fr.snoc X248 N0 ge_w_a0_words
  have K257 := Keep.wr K0 W250 (Or.inl (List.mem_of_getElem? (i := 0) rfl))
  have Z258 := Nat.le_trans Z0 (Nat.le_of_eq (Wr.size W250).symm)
  refine k_iinc K X248 d6_54 rfl (by decide) (Ls' := #[.val (.ref a0), .val (.ref a1), .val (.long q2), .second, .val (.ref a1), .val (.int (1 : Int32)), .val (.int (1 : Int32)), .val (.int s_a1_0), .val (.long v240), .second]) rfl (q := 57) rfl ?_
  refine k_goto K X248 d6_57 (by decide) (q := 11) rfl ?_
  refine k_iload K X248 d6_11 rfl (q := 13) rfl ?_
  refine k_iload K X248 d6_13 rfl (q := 15) rfl ?_
  refine k_icmp_ge_y K X248 d6_15 (by decide) (by decide) (q := 60) rfl ?_
  exact k_retv K X248 e249 d6_60 (Nat.le_trans (by decide) hkc) (Nat.le_trans (by decide) hkn) (hQ _ _ _ ⟨rfl, N256, K257, (by rw [(show F_add1_w_a0_words_g q2 s_a1_0 w_a0_laneShift n_w_a0_words g_w_a0_words = v245 from by first | (simp only [F_add1_w_a0_words_g, hv_v240, hv_v244, hv_v245]; done) | (subst hv_v240; subst hv_v244; subst hv_v245; simp only [F_add1_w_a0_words_g]))]; exact f252)⟩)
theorem ef_62 (a0 : Addr) (a1 : Addr) (q2 : Int64) : ∀ m : MethodId, entryFrame m #[(.ref a0), (.ref a1), (.long q2)] 10 = mkF m 0 #[.val (.ref a0), .val (.ref a1), .val (.long q2), .second, .unset, .unset, .unset, .unset, .unset, .unset] [] := by intro m; first | (simp [entryFrame, mkF, argsToLocals, Value.category]; done) | rfl
def F_add2_w_a0_words_g (q2 : Int64) (s_a1_0 : Int32) (s_a1_1 : Int32) (w_a0_laneShift : Int32) (n_w_a0_words : Nat) (g_w_a0_words : Nat → Int64) : Nat → Int64 :=
  let v314 : Int64 := (shlL (Int32.toInt64 s_a1_0) w_a0_laneShift)
  let v318 : Int64 := (g_w_a0_words (Int32.toNatClampNeg (Int64.toInt32 (ushrL v314 (6 : Int32)))))
  let v319 : Nat → Int64 := (upd g_w_a0_words (Int32.toNatClampNeg (Int64.toInt32 (ushrL v314 (6 : Int32)))) (v318 ||| (shlL q2 (Int64.toInt32 v314))))
  let v336 : Int64 := (shlL (Int32.toInt64 s_a1_1) w_a0_laneShift)
  let v340 : Int64 := (v319 (Int32.toNatClampNeg (Int64.toInt32 (ushrL v336 (6 : Int32)))))
  let v341 : Nat → Int64 := (upd v319 (Int32.toNatClampNeg (Int64.toInt32 (ushrL v336 (6 : Int32)))) (v340 ||| (shlL q2 (Int64.toInt32 v336))))
  v341
set_option maxRecDepth 65536 in
set_option maxHeartbeats 40000000 in
theorem rm62 (l : Launch) (Z : State) (az : Array Value) (hw : ∀ d ∈ tables_1, d.before az Z = true) (ws : List Jvm.Cond) (a0 : Addr) (a1 : Addr) (q2 : Int64) (s_a1_0 : Int32) (s_a1_1 : Int32) (w_a0_laneShift : Int32) (w_a0_words : Addr) (n_w_a0_words : Nat) (g_w_a0_words : Nat → Int64) (h0 : Heap) (n0 : Nat) (Z0 : n0 ≤ h0.size) (A_a1 : Ary Z h0 a1 .int 2 (fun i => Value.int (List.getD [s_a1_0, s_a1_1] i 0))) (F_a0_laneShift : Fld Z h0 a0 "com/example/dayflower/dayflower/filter/FilterSlab" "laneShift" "I" (.int w_a0_laneShift)) (F_a0_words : Fld Z h0 a0 "com/example/dayflower/dayflower/filter/FilterSlab" "words" "[J" (.ref w_a0_words)) (A_w_a0_words : Ary Z h0 w_a0_words .long n_w_a0_words (fun i => Value.long (g_w_a0_words i))) (ge_w_a0_words : n0 ≤ w_a0_words) (ne_a1_w_a0_words : a1 ≠ w_a0_words) (ne_a0_w_a0_words : a0 ≠ w_a0_words) (ob_0 : ∀ (v314 : Int64), (shlL (Int32.toInt64 s_a1_0) w_a0_laneShift) = v314 → ¬ (Int64.toInt32 (ushrL v314 (6 : Int32))) < (0 : Int32) ∧ Int32.toNatClampNeg (Int64.toInt32 (ushrL v314 (6 : Int32))) < n_w_a0_words) (ob_1 : ∀ (v336 : Int64), (shlL (Int32.toInt64 s_a1_1) w_a0_laneShift) = v336 → ¬ (Int64.toInt32 (ushrL v336 (6 : Int32))) < (0 : Int32) ∧ Int32.toNatClampNeg (Int64.toInt32 (ushrL v336 (6 : Int32))) < n_w_a0_words) :
    Met l (⟨"com/example/dayflower/dayflower/filter/FilterSlab", "add", "([IJ)V"⟩ : MethodName) prog_14_method_4_code 10 none ws ({ frames := 0, cells := 0, slots := 0, locals := 0 } : Room) Z #[(.ref a0), (.ref a1), (.long q2)] h0 (fun v h' L => v = none ∧ Fr n0 L ∧ Keep h0 h' [w_a0_words] ∧ Ary Z h' w_a0_words .long n_w_a0_words (fun i => Value.long ((F_add2_w_a0_words_g q2 s_a1_0 s_a1_1 w_a0_laneShift n_w_a0_words g_w_a0_words) i))) := by
  refine enter (plainFor_of_name pn_1) (ef_62 a0 a1 q2) ?_
  intro p e s m below meth c T0 kc kn Q hkc hkn hQ K' X0 e0
  have K : Fx p s m meth c prog_14_method_4_code 10 "com/example/dayflower/dayflower/filter/FilterSlab" "add" none Z := K'
  have N0 := Fr.nil n0
  have K0 : Keep h0 h0 [w_a0_words] := Keep.refl _ _
  refine k_aloadN K X0 d6_0 rfl rfl (q := 1) rfl ?_
  refine k_astore K X0 d6_1 rfl (Ls' := #[.val (.ref a0), .val (.ref a1), .val (.long q2), .second, .val (.ref a1), .unset, .unset, .unset, .unset, .unset]) rfl (q := 3) rfl ?_
  refine k_aload K X0 d6_3 rfl rfl (q := 5) rfl ?_
  refine k_arraylength K X0 e0 d6_5 A_a1 (v := (2 : Int32)) rfl (q := 6) rfl ?_
  refine k_istore K X0 d6_6 rfl (Ls' := #[.val (.ref a0), .val (.ref a1), .val (.long q2), .second, .val (.ref a1), .val (.int (2 : Int32)), .unset, .unset, .unset, .unset]) rfl (q := 8) rfl ?_
  refine k_iconst K X0 d6_8 (v := (0 : Int32)) rfl (q := 9) rfl ?_
  refine k_istore K X0 d6_9 rfl (Ls' := #[.val (.ref a0), .val (.ref a1), .val (.long q2), .second, .val (.ref a1), .val (.int (2 : Int32)), .val (.int (0 : Int32)), .unset, .unset, .unset]) rfl (q := 11) rfl ?_
  refine k_iload K X0 d6_11 rfl (q := 13) rfl ?_
  refine k_iload K X0 d6_13 rfl (q := 15) rfl ?_
  refine k_icmp_ge_n K X0 d6_15 (by decide) (q := 18) rfl ?_
  refine k_aload K X0 d6_18 rfl rfl (q := 20) rfl ?_
  refine k_iload K X0 d6_20 rfl (q := 22) rfl ?_
  refine k_iaload K X0 e0 d6_22 A_a1 (i := 0) (v := (.int s_a1_0)) (by decide) (by decide) rfl (q := 23) rfl ?_
  refine k_istore K X0 d6_23 rfl (Ls' := #[.val (.ref a0), .val (.ref a1), .val (.long q2), .second, .val (.ref a1), .val (.int (2 : Int32)), .val (.int (0 : Int32)), .val (.int s_a1_0), .unset, .unset]) rfl (q := 25) rfl ?_
  refine k_iload K X0 d6_25 rfl (q := 27) rfl ?_
  refine k_i2l K X0 d6_27 (q := 28) rfl ?_
  refine k_aloadN K X0 d6_28 rfl rfl (q := 29) rfl ?_
  refine k_getfield K X0 e0 d6_29 (wd hw 24 rfl) F_a0_laneShift (q := 32) rfl ?_
  intro T311 X312 e313
  refine k_lshl K X312 d6_32 (q := 33) rfl ?_
  obtain ⟨v314, hv_v314⟩ : ∃ z : Int64, (shlL (Int32.toInt64 s_a1_0) w_a0_laneShift) = z := ⟨_, rfl⟩
  refine k_lstore K X312 d6_33 hv_v314 (Ls' := #[.val (.ref a0), .val (.ref a1), .val (.long q2), .second, .val (.ref a1), .val (.int (2 : Int32)), .val (.int (0 : Int32)), .val (.int s_a1_0), .val (.long v314), .second]) rfl (q := 35) rfl ?_
  refine k_aloadN K X312 d6_35 rfl rfl (q := 36) rfl ?_
  refine k_getfield K X312 e313 d6_36 (wd hw 32 rfl) F_a0_words (q := 39) rfl ?_
  intro T315 X316 e317
  refine k_lload K X316 d6_39 rfl (q := 41) rfl ?_
  refine k_bipush K X316 d6_41 (v := (6 : Int32)) rfl (q := 43) rfl ?_
  refine k_lushr K X316 d6_43 (q := 44) rfl ?_
  refine k_l2i K X316 d6_44 (q := 45) rfl ?_
  refine k_dup2 K X316 d6_45 rfl rfl (q := 46) rfl ?_
  refine k_laload K X316 e317 d6_46 A_w_a0_words (i := (Int32.toNatClampNeg (Int64.toInt32 (ushrL v314 (6 : Int32))))) (v := (.long (g_w_a0_words (Int32.toNatClampNeg (Int64.toInt32 (ushrL v314 (6 : Int32))))))) ⟨((ob_0 v314 hv_v314)).1, rfl⟩ ((ob_0 v314 hv_v314)).2 rfl (q := 47) rfl ?_
  obtain ⟨v318, hv_v318⟩ : ∃ z : Int64, (g_w_a0_words (Int32.toNatClampNeg (Int64.toInt32 (ushrL v314 (6 : Int32))))) = z := ⟨_, rfl⟩
  refine k_nameJ hv_v318 ?_
  refine k_lloadN K X316 d6_47 rfl (q := 48) rfl ?_
  refine k_lload K X316 d6_48 rfl (q := 50) rfl ?_
  refine k_l2i K X316 d6_50 (q := 51) rfl ?_
  refine k_lshl K X316 d6_51 (q := 52) rfl ?_
  refine k_lor K X316 d6_52 (q := 53) rfl ?_
  obtain ⟨v319, hv_v319⟩ : ∃ z : Nat → Int64, (upd g_w_a0_words (Int32.toNatClampNeg (Int64.toInt32 (ushrL v314 (6 : Int32)))) (v318 ||| (shlL q2 (Int64.toInt32 v314)))) = z := ⟨_, rfl⟩
  refine k_lastore K X316 e317 d6_53 A_w_a0_words (i := (Int32.toNatClampNeg (Int64.toInt32 (ushrL v314 (6 : Int32))))) ⟨((ob_0 v314 hv_v314)).1, rfl⟩ ((ob_0 v314 hv_v314)).2 (q := 54) rfl ?_
  intro T320 h321 X322 e323 W324 A325
  have f326 : Ary Z h321 w_a0_words .long n_w_a0_words (fun i => Value.long (v319 i)) := Ary.eqv A325 (fun k _ => by rw [← hv_v319]; show (if k = (Int32.toNatClampNeg (Int64.toInt32 (ushrL v314 (6 : Int32)))) then _ else _) = _; unfold upd; split <;> rfl)
  have f327 := Ary.other A_a1 W324 ne_a1_w_a0_words
  have f328 := Fld.other W324 F_a0_laneShift (Or.inl ne_a0_w_a0_words)
  have f329 := Fld.other W324 F_a0_words (Or.inl ne_a0_w_a0_words)
  have N330 := Fr.snoc X322 N0 ge_w_a0_words
  have K331 := Keep.wr K0 W324 (Or.inl (List.mem_of_getElem? (i := 0) rfl))
  have Z332 := Nat.le_trans Z0 (Nat.le_of_eq (Wr.size W324).symm)
  refine k_iinc K X322 d6_54 rfl (by decide) (Ls' := #[.val (.ref a0), .val (.ref a1), .val (.long q2), .second, .val (.ref a1), .val (.int (2 : Int32)), .val (.int (1 : Int32)), .val (.int s_a1_0), .val (.long v314), .second]) rfl (q := 57) rfl ?_
  refine k_goto K X322 d6_57 (by decide) (q := 11) rfl ?_
  refine k_iload K X322 d6_11 rfl (q := 13) rfl ?_
  refine k_iload K X322 d6_13 rfl (q := 15) rfl ?_
  refine k_icmp_ge_n K X322 d6_15 (by decide) (q := 18) rfl ?_
  refine k_aload K X322 d6_18 rfl rfl (q := 20) rfl ?_
  refine k_iload K X322 d6_20 rfl (q := 22) rfl ?_
  refine k_iaload K X322 e323 d6_22 f327 (i := 1) (v := (.int s_a1_1)) (by decide) (by decide) rfl (q := 23) rfl ?_
  refine k_istore K X322 d6_23 rfl (Ls' := #[.val (.ref a0), .val (.ref a1), .val (.long q2), .second, .val (.ref a1), .val (.int (2 : Int32)), .val (.int (1 : Int32)), .val (.int s_a1_1), .val (.long v314), .second]) rfl (q := 25) rfl ?_
  refine k_iload K X322 d6_25 rfl (q := 27) rfl ?_
  refine k_i2l K X322 d6_27 (q := 28) rfl ?_
  refine k_aloadN K X322 d6_28 rfl rfl (q := 29) rfl ?_
  refine k_getfield K X322 e323 d6_29 (wd hw 24 rfl) f328 (q := 32) rfl ?_
  intro T333 X334 e335
  refine k_lshl K X334 d6_32 (q := 33) rfl ?_
  obtain ⟨v336, hv_v336⟩ : ∃ z : Int64, (shlL (Int32.toInt64 s_a1_1) w_a0_laneShift) = z := ⟨_, rfl⟩
  refine k_lstore K X334 d6_33 hv_v336 (Ls' := #[.val (.ref a0), .val (.ref a1), .val (.long q2), .second, .val (.ref a1), .val (.int (2 : Int32)), .val (.int (1 : Int32)), .val (.int s_a1_1), .val (.long v336), .second]) rfl (q := 35) rfl ?_
  refine k_aloadN K X334 d6_35 rfl rfl (q := 36) rfl ?_
  refine k_getfield K X334 e335 d6_36 (wd hw 32 rfl) f329 (q := 39) rfl ?_
  intro T337 X338 e339
  refine k_lload K X338 d6_39 rfl (q := 41) rfl ?_
  refine k_bipush K X338 d6_41 (v := (6 : Int32)) rfl (q := 43) rfl ?_
  refine k_lushr K X338 d6_43 (q := 44) rfl ?_
  refine k_l2i K X338 d6_44 (q := 45) rfl ?_
  refine k_dup2 K X338 d6_45 rfl rfl (q := 46) rfl ?_
  refine k_laload K X338 e339 d6_46 f326 (i := (Int32.toNatClampNeg (Int64.toInt32 (ushrL v336 (6 : Int32))))) (v := (.long (v319 (Int32.toNatClampNeg (Int64.toInt32 (ushrL v336 (6 : Int32))))))) ⟨((ob_1 v336 hv_v336)).1, rfl⟩ ((ob_1 v336 hv_v336)).2 rfl (q := 47) rfl ?_
  obtain ⟨v340, hv_v340⟩ : ∃ z : Int64, (v319 (Int32.toNatClampNeg (Int64.toInt32 (ushrL v336 (6 : Int32))))) = z := ⟨_, rfl⟩
  refine k_nameJ hv_v340 ?_
  refine k_lloadN K X338 d6_47 rfl (q := 48) rfl ?_
  refine k_lload K X338 d6_48 rfl (q := 50) rfl ?_
  refine k_l2i K X338 d6_50 (q := 51) rfl ?_
  refine k_lshl K X338 d6_51 (q := 52) rfl ?_
  refine k_lor K X338 d6_52 (q := 53) rfl ?_
  obtain ⟨v341, hv_v341⟩ : ∃ z : Nat → Int64, (upd v319 (Int32.toNatClampNeg (Int64.toInt32 (ushrL v336 (6 : Int32)))) (v340 ||| (shlL q2 (Int64.toInt32 v336)))) = z := ⟨_, rfl⟩
  refine k_lastore K X338 e339 d6_53 f326 (i := (Int32.toNatClampNeg (Int64.toInt32 (ushrL v336 (6 : Int32))))) ⟨((ob_1 v336 hv_v336)).1, rfl⟩ ((ob_1 v336 hv_v336)).2 (q := 54) rfl ?_
  intro T342 h343 X344 e345 W346 A347
  have f348 : Ary Z h343 w_a0_words .long n_w_a0_words (fun i => Value.long (v341 i)) := Ary.eqv A347 (fun k _ => by rw [← hv_v341]; show (if k = (Int32.toNatClampNeg (Int64.toInt32 (ushrL v336 (6 : Int32)))) then _ else _) = _; unfold upd; split <;> rfl)
  have f349 := Ary.other f327 W346 ne_a1_w_a0_words
  have f350 := Fld.other W346 f328 (Or.inl ne_a0_w_a0_words)
  have f351 := Fld.other W346 f329 (Or.inl ne_a0_w_a0_words)
  have N352 := Fr.snoc X344 N330 ge_w_a0_words
  have K353 := Keep.wr K331 W346 (Or.inl (List.mem_of_getElem? (i := 0) rfl))
  have Z354 := Nat.le_trans Z332 (Nat.le_of_eq (Wr.size W346).symm)
  refine k_iinc K X344 d6_54 rfl (by decide) (Ls' := #[.val (.ref a0), .val (.ref a1), .val (.long q2), .second, .val (.ref a1), .val (.int (2 : Int32)), .val (.int (2 : Int32)), .val (.int s_a1_1), .val (.long v336), .second]) rfl (q := 57) rfl ?_
  refine k_goto K X344 d6_57 (by decide) (q := 11) rfl ?_
  refine k_iload K X344 d6_11 rfl (q := 13) rfl ?_
  refine k_iload K X344 d6_13 rfl (q := 15) rfl ?_
  refine k_icmp_ge_y K X344 d6_15 (by decide) (by decide) (q := 60) rfl ?_
  exact k_retv K X344 e345 d6_60 (Nat.le_trans (by decide) hkc) (Nat.le_trans (by decide) hkn) (hQ _ _ _ ⟨rfl, N352, K353, (by rw [(show F_add2_w_a0_words_g q2 s_a1_0 s_a1_1 w_a0_laneShift n_w_a0_words g_w_a0_words = v341 from by first | (simp only [F_add2_w_a0_words_g, hv_v314, hv_v318, hv_v319, hv_v336, hv_v340, hv_v341]; done) | (subst hv_v314; subst hv_v318; subst hv_v319; subst hv_v336; subst hv_v340; subst hv_v341; simp only [F_add2_w_a0_words_g]))]; exact f348)⟩)
theorem d8_0 : decode prog_14_method_5_code 0 = .ok (.aload_n 0, 1) := by decide +kernel
theorem d8_1 : decode prog_14_method_5_code 1 = .ok (.getfield 42, 3) := by decide +kernel
theorem d8_4 : decode prog_14_method_5_code 4 = .ok (.iload_n 1, 1) := by decide +kernel
theorem d8_5 : decode prog_14_method_5_code 5 = .ok (.i2l, 1) := by decide +kernel
theorem d8_6 : decode prog_14_method_5_code 6 = .ok (.aload_n 0, 1) := by decide +kernel
theorem d8_7 : decode prog_14_method_5_code 7 = .ok (.getfield 33, 3) := by decide +kernel
theorem d8_10 : decode prog_14_method_5_code 10 = .ok (.lshl, 1) := by decide +kernel
theorem d8_11 : decode prog_14_method_5_code 11 = .ok (.bipush 6, 2) := by decide +kernel
theorem d8_13 : decode prog_14_method_5_code 13 = .ok (.lushr, 1) := by decide +kernel
theorem d8_14 : decode prog_14_method_5_code 14 = .ok (.l2i, 1) := by decide +kernel
theorem d8_15 : decode prog_14_method_5_code 15 = .ok (.laload, 1) := by decide +kernel
theorem d8_16 : decode prog_14_method_5_code 16 = .ok (.lreturn, 1) := by decide +kernel
theorem ef_8 (a0 : Addr) (p1 : Int32) : ∀ m : MethodId, entryFrame m #[(.ref a0), (.int p1)] 2 = mkF m 0 #[.val (.ref a0), .val (.int p1)] [] := by intro m; first | (simp [entryFrame, mkF, argsToLocals, Value.category]; done) | rfl
def F_word (p1 : Int32) (w_a0_laneShift : Int32) (n_w_a0_words : Nat) (g_w_a0_words : Nat → Int64) : Int64 :=
  let v370 : Int64 := (g_w_a0_words (Int32.toNatClampNeg (Int64.toInt32 (ushrL (shlL (Int32.toInt64 p1) w_a0_laneShift) (6 : Int32)))))
  v370
set_option maxRecDepth 65536 in
set_option maxHeartbeats 40000000 in
theorem rm8 (l : Launch) (Z : State) (az : Array Value) (hw : ∀ d ∈ tables_1, d.before az Z = true) (ws : List Jvm.Cond) (a0 : Addr) (p1 : Int32) (w_a0_words : Addr) (w_a0_laneShift : Int32) (n_w_a0_words : Nat) (g_w_a0_words : Nat → Int64) (h0 : Heap) (F_a0_words : Fld Z h0 a0 "com/example/dayflower/dayflower/filter/FilterSlab" "words" "[J" (.ref w_a0_words)) (F_a0_laneShift : Fld Z h0 a0 "com/example/dayflower/dayflower/filter/FilterSlab" "laneShift" "I" (.int w_a0_laneShift)) (A_w_a0_words : Ary Z h0 w_a0_words .long n_w_a0_words (fun i => Value.long (g_w_a0_words i))) (ob_0 : ¬ (Int64.toInt32 (ushrL (shlL (Int32.toInt64 p1) w_a0_laneShift) (6 : Int32))) < (0 : Int32) ∧ Int32.toNatClampNeg (Int64.toInt32 (ushrL (shlL (Int32.toInt64 p1) w_a0_laneShift) (6 : Int32))) < n_w_a0_words) :
    Met l (⟨"com/example/dayflower/dayflower/filter/FilterSlab", "word", "(I)J"⟩ : MethodName) prog_14_method_5_code 2 (some .long) ws ({ frames := 0, cells := 0, slots := 0, locals := 0 } : Room) Z #[(.ref a0), (.int p1)] h0 (fun v h' L => v = some (Value.long (F_word p1 w_a0_laneShift n_w_a0_words g_w_a0_words)) ∧ h' = h0 ∧ L = []) := by
  refine enter (plainFor_of_name pn_1) (ef_8 a0 p1) ?_
  intro p e s m below meth c T0 kc kn Q hkc hkn hQ K' X0 e0
  have K : Fx p s m meth c prog_14_method_5_code 2 "com/example/dayflower/dayflower/filter/FilterSlab" "word" (some .long) Z := K'
  refine k_aloadN K X0 d8_0 rfl rfl (q := 1) rfl ?_
  refine k_getfield K X0 e0 d8_1 (wd hw 32 rfl) F_a0_words (q := 4) rfl ?_
  intro T364 X365 e366
  refine k_iloadN K X365 d8_4 rfl (q := 5) rfl ?_
  refine k_i2l K X365 d8_5 (q := 6) rfl ?_
  refine k_aloadN K X365 d8_6 rfl rfl (q := 7) rfl ?_
  refine k_getfield K X365 e366 d8_7 (wd hw 24 rfl) F_a0_laneShift (q := 10) rfl ?_
  intro T367 X368 e369
  refine k_lshl K X368 d8_10 (q := 11) rfl ?_
  refine k_bipush K X368 d8_11 (v := (6 : Int32)) rfl (q := 13) rfl ?_
  refine k_lushr K X368 d8_13 (q := 14) rfl ?_
  refine k_l2i K X368 d8_14 (q := 15) rfl ?_
  refine k_laload K X368 e369 d8_15 A_w_a0_words (i := (Int32.toNatClampNeg (Int64.toInt32 (ushrL (shlL (Int32.toInt64 p1) w_a0_laneShift) (6 : Int32))))) (v := (.long (g_w_a0_words (Int32.toNatClampNeg (Int64.toInt32 (ushrL (shlL (Int32.toInt64 p1) w_a0_laneShift) (6 : Int32))))))) ⟨((ob_0)).1, rfl⟩ ((ob_0)).2 rfl (q := 16) rfl ?_
  obtain ⟨v370, hv_v370⟩ : ∃ z : Int64, (g_w_a0_words (Int32.toNatClampNeg (Int64.toInt32 (ushrL (shlL (Int32.toInt64 p1) w_a0_laneShift) (6 : Int32))))) = z := ⟨_, rfl⟩
  refine k_nameJ hv_v370 ?_
  exact k_retl K X368 e369 d8_16 (Nat.le_trans (by decide) hkc) (Nat.le_trans (by decide) hkn) (hQ _ _ _ ⟨(by show some (Value.long v370) = some (Value.long (F_word p1 w_a0_laneShift n_w_a0_words g_w_a0_words)); first | (simp only [F_word, hv_v370]; done) | (subst hv_v370; simp only [F_word])), rfl, rfl⟩)
theorem own_eqI {x y : Int32} : x = y ↔ x.toInt = y.toInt := Int32.toInt_inj.symm
theorem own_eqJ {x y : Int64} : x = y ↔ x.toInt = y.toInt := Int64.toInt_inj.symm
theorem own_ltI {x y : Int32} : x < y ↔ x.toInt < y.toInt := Int32.lt_iff_toInt_lt
theorem own_ltJ {x y : Int64} : x < y ↔ x.toInt < y.toInt := Int64.lt_iff_toInt_lt
def own_T (k l W : Int32) : Prop := (k = 0 ∧ l = 1 ∧ W = 64) ∨ (k = 1 ∧ l = 2 ∧ W = 32) ∨ (k = 2 ∧ l = 4 ∧ W = 16) ∨ (k = 3 ∧ l = 8 ∧ W = 8) ∨ (k = 4 ∧ l = 16 ∧ W = 4) ∨ (k = 5 ∧ l = 32 ∧ W = 2) ∨ (k = 6 ∧ l = 64 ∧ W = 1)
theorem own_e6 (t : Int32) (h1 : 0 ≤ t.toInt) (h2 : t.toInt ≤ 6) : own_T t (shlI 1 t) (shrI 64 t) := by
  have h : t.toInt = 0 ∨ t.toInt = 1 ∨ t.toInt = 2 ∨ t.toInt = 3 ∨ t.toInt = 4 ∨ t.toInt = 5 ∨ t.toInt = 6 := by omega
  unfold own_T
  rcases h with h | h | h | h | h | h | h
  · obtain rfl : t = 0 := Int32.toInt_inj.mp (h.trans (by decide))
    decide
  · obtain rfl : t = 1 := Int32.toInt_inj.mp (h.trans (by decide))
    decide
  · obtain rfl : t = 2 := Int32.toInt_inj.mp (h.trans (by decide))
    decide
  · obtain rfl : t = 3 := Int32.toInt_inj.mp (h.trans (by decide))
    decide
  · obtain rfl : t = 4 := Int32.toInt_inj.mp (h.trans (by decide))
    decide
  · obtain rfl : t = 5 := Int32.toInt_inj.mp (h.trans (by decide))
    decide
  · obtain rfl : t = 6 := Int32.toInt_inj.mp (h.trans (by decide))
    decide
theorem own_T_of (p : Int32) : own_T ((p &&& 7) % 7) (shlI 1 ((p &&& 7) % 7)) (shrI 64 ((p &&& 7) % 7)) := by
  have a1 := (c_and p 7 (by decide)).1
  have a2 := (c_irem (p &&& 7) 7 7 rfl).1 a1
  exact own_e6 _ (by omega) (by omega)
theorem own_T_ntz {k l W : Int32} (h : own_T k l W) : F_numberOfTrailingZeros l = k := by rcases h with ⟨rfl, rfl, rfl⟩ | ⟨rfl, rfl, rfl⟩ | ⟨rfl, rfl, rfl⟩ | ⟨rfl, rfl, rfl⟩ | ⟨rfl, rfl, rfl⟩ | ⟨rfl, rfl, rfl⟩ | ⟨rfl, rfl, rfl⟩ <;> decide +kernel
theorem own_T_bc {k l W : Int32} (h : own_T k l W) : F_bitCount l = 1 := by rcases h with ⟨rfl, rfl, rfl⟩ | ⟨rfl, rfl, rfl⟩ | ⟨rfl, rfl, rfl⟩ | ⟨rfl, rfl, rfl⟩ | ⟨rfl, rfl, rfl⟩ | ⟨rfl, rfl, rfl⟩ | ⟨rfl, rfl, rfl⟩ <;> decide +kernel
theorem own_T_lo {k l W : Int32} (h : own_T k l W) : ¬ l < 1 := by rcases h with ⟨rfl, rfl, rfl⟩ | ⟨rfl, rfl, rfl⟩ | ⟨rfl, rfl, rfl⟩ | ⟨rfl, rfl, rfl⟩ | ⟨rfl, rfl, rfl⟩ | ⟨rfl, rfl, rfl⟩ | ⟨rfl, rfl, rfl⟩ <;> decide
theorem own_T_hi {k l W : Int32} (h : own_T k l W) : ¬ 64 < l := by rcases h with ⟨rfl, rfl, rfl⟩ | ⟨rfl, rfl, rfl⟩ | ⟨rfl, rfl, rfl⟩ | ⟨rfl, rfl, rfl⟩ | ⟨rfl, rfl, rfl⟩ | ⟨rfl, rfl, rfl⟩ | ⟨rfl, rfl, rfl⟩ <;> decide
theorem own_T_W {k l W : Int32} (h : own_T k l W) : ¬ W = 0 := by rcases h with ⟨rfl, rfl, rfl⟩ | ⟨rfl, rfl, rfl⟩ | ⟨rfl, rfl, rfl⟩ | ⟨rfl, rfl, rfl⟩ | ⟨rfl, rfl, rfl⟩ | ⟨rfl, rfl, rfl⟩ | ⟨rfl, rfl, rfl⟩ <;> decide
theorem own_pos (p n : Int32) (h0 : 0 ≤ p.toInt) (hn : 0 < n.toInt) : 0 ≤ (p % n).toInt ∧ (p % n).toInt < n.toInt := by
  have h := (c_irem p n n.toInt rfl).1 h0
  have h3 := Int.emod_nonneg p.toInt (show n.toInt ≠ 0 by omega)
  have h4 := Int.emod_lt_of_pos p.toInt hn
  omega
theorem own_m31 (p : Int32) : 0 ≤ (p &&& 2147483647).toInt := (c_and p 2147483647 (by decide)).1
theorem own_words {k l W : Int32} (h : own_T k l W) (n : Int32) (h1 : 1 ≤ n.toInt) (h2 : n.toInt ≤ 4096) : (Int64.toInt32 (F_bytes n l / 8)).toInt = (n.toInt * l.toInt + 63) / 64 := by
  have i1 : (Int32.toInt64 n).toInt = n.toInt := c_i2l n
  have i2 : (Int32.toInt64 l).toInt = l.toInt := c_i2l l
  have m := c_lmul (Int32.toInt64 n) (Int32.toInt64 l)
  rw [i1, i2] at m
  have rm := rng64 (Int32.toInt64 n * Int32.toInt64 l)
  have b : 0 ≤ n.toInt * l.toInt ∧ n.toInt * l.toInt ≤ 262144 := by
    rcases h with ⟨rfl, rfl, rfl⟩ | ⟨rfl, rfl, rfl⟩ | ⟨rfl, rfl, rfl⟩ | ⟨rfl, rfl, rfl⟩ | ⟨rfl, rfl, rfl⟩ | ⟨rfl, rfl, rfl⟩ | ⟨rfl, rfl, rfl⟩
    · rw [show (1 : Int32).toInt = 1 from rfl]; omega
    · rw [show (2 : Int32).toInt = 2 from rfl]; omega
    · rw [show (4 : Int32).toInt = 4 from rfl]; omega
    · rw [show (8 : Int32).toInt = 8 from rfl]; omega
    · rw [show (16 : Int32).toInt = 16 from rfl]; omega
    · rw [show (32 : Int32).toInt = 32 from rfl]; omega
    · rw [show (64 : Int32).toInt = 64 from rfl]; omega
  simp only [F_bytes]
  generalize Int32.toInt64 n * Int32.toInt64 l = x at *
  generalize n.toInt * l.toInt = y at *
  have e64 : (64 : Int64).toInt = 64 := rfl
  have e8 : (8 : Int64).toInt = 8 := rfl
  have e1 : (1 : Int64).toInt = 1 := rfl
  have a1 := c_ladd x 64; have r1 := rng64 (x + 64)
  have a2 := c_lsub (x + 64) 1; have r2 := rng64 (x + 64 - 1)
  have a3 := (c_ldiv (x + 64 - 1) 64 64 rfl (by decide)).1 (by omega)
  have a4 := c_lmul ((x + 64 - 1) / 64) 8; rw [e8] at a4; have r4 := rng64 ((x + 64 - 1) / 64 * 8)
  have a5 := (c_ldiv ((x + 64 - 1) / 64 * 8) 8 8 rfl (by decide)).1 (by omega)
  have a6 := c_l2i ((x + 64 - 1) / 64 * 8 / 8); have r6 := rng32 (Int64.toInt32 ((x + 64 - 1) / 64 * 8 / 8))
  omega
theorem own_cap {k l W : Int32} (h : own_T k l W) (n : Int32) (h1 : 1 ≤ n.toInt) (h2 : n.toInt ≤ 4096) : ¬ (Int64.toInt32 (F_bytes n l / 8)) < 0 ∧ (Int32.toNatClampNeg (Int64.toInt32 (F_bytes n l / 8))) ≤ 4096 := by
  have w := own_words h n h1 h2
  have b : 0 ≤ (n.toInt * l.toInt + 63) / 64 ∧ (n.toInt * l.toInt + 63) / 64 ≤ 4096 := by
    rcases h with ⟨rfl, rfl, rfl⟩ | ⟨rfl, rfl, rfl⟩ | ⟨rfl, rfl, rfl⟩ | ⟨rfl, rfl, rfl⟩ | ⟨rfl, rfl, rfl⟩ | ⟨rfl, rfl, rfl⟩ | ⟨rfl, rfl, rfl⟩
    · rw [show (1 : Int32).toInt = 1 from rfl]; omega
    · rw [show (2 : Int32).toInt = 2 from rfl]; omega
    · rw [show (4 : Int32).toInt = 4 from rfl]; omega
    · rw [show (8 : Int32).toInt = 8 from rfl]; omega
    · rw [show (16 : Int32).toInt = 16 from rfl]; omega
    · rw [show (32 : Int32).toInt = 32 from rfl]; omega
    · rw [show (64 : Int32).toInt = 64 from rfl]; omega
  refine ⟨fun z => ?_, ?_⟩
  · have := own_ltI.mp z; have e : (0 : Int32).toInt = 0 := rfl
    omega
  · simp only [Int32.toNatClampNeg]; omega
theorem own_i0 (a : Int32) (h0 : 0 ≤ a.toInt) (h1 : a.toInt < 4096) : (Int64.toInt32 (ushrL (shlL (Int32.toInt64 a) 0) 6)).toInt = a.toInt / 64 ∧ (shlL (Int32.toInt64 a) 0).toInt = a.toInt * 1 := by
  have i1 : (Int32.toInt64 a).toInt = a.toInt := c_i2l a
  have s : ((shlL (Int32.toInt64 a) 0).toInt - (Int32.toInt64 a).toInt * 1) % 18446744073709551616 = 0 := c_lshl (Int32.toInt64 a) 0 0 (by decide)
  have rs := rng64 (shlL (Int32.toInt64 a) 0)
  generalize shlL (Int32.toInt64 a) 0 = x at *
  have u : (ushrL x 6).toInt = x.toInt % 18446744073709551616 / 64 := c_lushr x 6 6 (by decide) (by decide)
  have ru := rng64 (ushrL x 6)
  generalize ushrL x 6 = y at *
  have c := c_l2i y; have rc := rng32 (Int64.toInt32 y)
  omega
theorem own_s0 (m : Int64) (a : Int32) (h0 : 0 ≤ a.toInt) (h1 : a.toInt < 4096) : shlL m (Int64.toInt32 (shlL (Int32.toInt64 a) 0)) = shlL m (shlI (a % 64) 0) := by
  have x1 := (own_i0 a h0 h1).2
  have c := c_l2i (shlL (Int32.toInt64 a) 0); have rc := rng32 (Int64.toInt32 (shlL (Int32.toInt64 a) 0))
  have rm := (c_irem a 64 64 rfl).1 h0
  have sh : ((shlI (a % 64) 0).toInt - (a % 64).toInt * 1) % 4294967296 = 0 := c_ishl (a % 64) 0 0 (by decide)
  have k1 : ((Int64.toInt32 (shlL (Int32.toInt64 a) 0)) &&& 63).toInt = (Int64.toInt32 (shlL (Int32.toInt64 a) 0)).toInt % 64 := c_mask _ 63 6 (by decide) (by decide)
  have k2 : ((shlI (a % 64) 0) &&& 63).toInt = (shlI (a % 64) 0).toInt % 64 := c_mask _ 63 6 (by decide) (by decide)
  have e : (Int64.toInt32 (shlL (Int32.toInt64 a) 0)) &&& 63 = (shlI (a % 64) 0) &&& 63 := by rw [own_eqI, k1, k2]; omega
  show m <<< ((Int64.toInt32 (shlL (Int32.toInt64 a) 0)) &&& 63).toInt64 = m <<< ((shlI (a % 64) 0) &&& 63).toInt64
  rw [e]
theorem own_i1 (a : Int32) (h0 : 0 ≤ a.toInt) (h1 : a.toInt < 4096) : (Int64.toInt32 (ushrL (shlL (Int32.toInt64 a) 1) 6)).toInt = a.toInt / 32 ∧ (shlL (Int32.toInt64 a) 1).toInt = a.toInt * 2 := by
  have i1 : (Int32.toInt64 a).toInt = a.toInt := c_i2l a
  have s : ((shlL (Int32.toInt64 a) 1).toInt - (Int32.toInt64 a).toInt * 2) % 18446744073709551616 = 0 := c_lshl (Int32.toInt64 a) 1 1 (by decide)
  have rs := rng64 (shlL (Int32.toInt64 a) 1)
  generalize shlL (Int32.toInt64 a) 1 = x at *
  have u : (ushrL x 6).toInt = x.toInt % 18446744073709551616 / 64 := c_lushr x 6 6 (by decide) (by decide)
  have ru := rng64 (ushrL x 6)
  generalize ushrL x 6 = y at *
  have c := c_l2i y; have rc := rng32 (Int64.toInt32 y)
  omega
theorem own_s1 (m : Int64) (a : Int32) (h0 : 0 ≤ a.toInt) (h1 : a.toInt < 4096) : shlL m (Int64.toInt32 (shlL (Int32.toInt64 a) 1)) = shlL m (shlI (a % 32) 1) := by
  have x1 := (own_i1 a h0 h1).2
  have c := c_l2i (shlL (Int32.toInt64 a) 1); have rc := rng32 (Int64.toInt32 (shlL (Int32.toInt64 a) 1))
  have rm := (c_irem a 32 32 rfl).1 h0
  have sh : ((shlI (a % 32) 1).toInt - (a % 32).toInt * 2) % 4294967296 = 0 := c_ishl (a % 32) 1 1 (by decide)
  have k1 : ((Int64.toInt32 (shlL (Int32.toInt64 a) 1)) &&& 63).toInt = (Int64.toInt32 (shlL (Int32.toInt64 a) 1)).toInt % 64 := c_mask _ 63 6 (by decide) (by decide)
  have k2 : ((shlI (a % 32) 1) &&& 63).toInt = (shlI (a % 32) 1).toInt % 64 := c_mask _ 63 6 (by decide) (by decide)
  have e : (Int64.toInt32 (shlL (Int32.toInt64 a) 1)) &&& 63 = (shlI (a % 32) 1) &&& 63 := by rw [own_eqI, k1, k2]; omega
  show m <<< ((Int64.toInt32 (shlL (Int32.toInt64 a) 1)) &&& 63).toInt64 = m <<< ((shlI (a % 32) 1) &&& 63).toInt64
  rw [e]
theorem own_i2 (a : Int32) (h0 : 0 ≤ a.toInt) (h1 : a.toInt < 4096) : (Int64.toInt32 (ushrL (shlL (Int32.toInt64 a) 2) 6)).toInt = a.toInt / 16 ∧ (shlL (Int32.toInt64 a) 2).toInt = a.toInt * 4 := by
  have i1 : (Int32.toInt64 a).toInt = a.toInt := c_i2l a
  have s : ((shlL (Int32.toInt64 a) 2).toInt - (Int32.toInt64 a).toInt * 4) % 18446744073709551616 = 0 := c_lshl (Int32.toInt64 a) 2 2 (by decide)
  have rs := rng64 (shlL (Int32.toInt64 a) 2)
  generalize shlL (Int32.toInt64 a) 2 = x at *
  have u : (ushrL x 6).toInt = x.toInt % 18446744073709551616 / 64 := c_lushr x 6 6 (by decide) (by decide)
  have ru := rng64 (ushrL x 6)
  generalize ushrL x 6 = y at *
  have c := c_l2i y; have rc := rng32 (Int64.toInt32 y)
  omega
theorem own_s2 (m : Int64) (a : Int32) (h0 : 0 ≤ a.toInt) (h1 : a.toInt < 4096) : shlL m (Int64.toInt32 (shlL (Int32.toInt64 a) 2)) = shlL m (shlI (a % 16) 2) := by
  have x1 := (own_i2 a h0 h1).2
  have c := c_l2i (shlL (Int32.toInt64 a) 2); have rc := rng32 (Int64.toInt32 (shlL (Int32.toInt64 a) 2))
  have rm := (c_irem a 16 16 rfl).1 h0
  have sh : ((shlI (a % 16) 2).toInt - (a % 16).toInt * 4) % 4294967296 = 0 := c_ishl (a % 16) 2 2 (by decide)
  have k1 : ((Int64.toInt32 (shlL (Int32.toInt64 a) 2)) &&& 63).toInt = (Int64.toInt32 (shlL (Int32.toInt64 a) 2)).toInt % 64 := c_mask _ 63 6 (by decide) (by decide)
  have k2 : ((shlI (a % 16) 2) &&& 63).toInt = (shlI (a % 16) 2).toInt % 64 := c_mask _ 63 6 (by decide) (by decide)
  have e : (Int64.toInt32 (shlL (Int32.toInt64 a) 2)) &&& 63 = (shlI (a % 16) 2) &&& 63 := by rw [own_eqI, k1, k2]; omega
  show m <<< ((Int64.toInt32 (shlL (Int32.toInt64 a) 2)) &&& 63).toInt64 = m <<< ((shlI (a % 16) 2) &&& 63).toInt64
  rw [e]
theorem own_i3 (a : Int32) (h0 : 0 ≤ a.toInt) (h1 : a.toInt < 4096) : (Int64.toInt32 (ushrL (shlL (Int32.toInt64 a) 3) 6)).toInt = a.toInt / 8 ∧ (shlL (Int32.toInt64 a) 3).toInt = a.toInt * 8 := by
  have i1 : (Int32.toInt64 a).toInt = a.toInt := c_i2l a
  have s : ((shlL (Int32.toInt64 a) 3).toInt - (Int32.toInt64 a).toInt * 8) % 18446744073709551616 = 0 := c_lshl (Int32.toInt64 a) 3 3 (by decide)
  have rs := rng64 (shlL (Int32.toInt64 a) 3)
  generalize shlL (Int32.toInt64 a) 3 = x at *
  have u : (ushrL x 6).toInt = x.toInt % 18446744073709551616 / 64 := c_lushr x 6 6 (by decide) (by decide)
  have ru := rng64 (ushrL x 6)
  generalize ushrL x 6 = y at *
  have c := c_l2i y; have rc := rng32 (Int64.toInt32 y)
  omega
theorem own_s3 (m : Int64) (a : Int32) (h0 : 0 ≤ a.toInt) (h1 : a.toInt < 4096) : shlL m (Int64.toInt32 (shlL (Int32.toInt64 a) 3)) = shlL m (shlI (a % 8) 3) := by
  have x1 := (own_i3 a h0 h1).2
  have c := c_l2i (shlL (Int32.toInt64 a) 3); have rc := rng32 (Int64.toInt32 (shlL (Int32.toInt64 a) 3))
  have rm := (c_irem a 8 8 rfl).1 h0
  have sh : ((shlI (a % 8) 3).toInt - (a % 8).toInt * 8) % 4294967296 = 0 := c_ishl (a % 8) 3 3 (by decide)
  have k1 : ((Int64.toInt32 (shlL (Int32.toInt64 a) 3)) &&& 63).toInt = (Int64.toInt32 (shlL (Int32.toInt64 a) 3)).toInt % 64 := c_mask _ 63 6 (by decide) (by decide)
  have k2 : ((shlI (a % 8) 3) &&& 63).toInt = (shlI (a % 8) 3).toInt % 64 := c_mask _ 63 6 (by decide) (by decide)
  have e : (Int64.toInt32 (shlL (Int32.toInt64 a) 3)) &&& 63 = (shlI (a % 8) 3) &&& 63 := by rw [own_eqI, k1, k2]; omega
  show m <<< ((Int64.toInt32 (shlL (Int32.toInt64 a) 3)) &&& 63).toInt64 = m <<< ((shlI (a % 8) 3) &&& 63).toInt64
  rw [e]
theorem own_i4 (a : Int32) (h0 : 0 ≤ a.toInt) (h1 : a.toInt < 4096) : (Int64.toInt32 (ushrL (shlL (Int32.toInt64 a) 4) 6)).toInt = a.toInt / 4 ∧ (shlL (Int32.toInt64 a) 4).toInt = a.toInt * 16 := by
  have i1 : (Int32.toInt64 a).toInt = a.toInt := c_i2l a
  have s : ((shlL (Int32.toInt64 a) 4).toInt - (Int32.toInt64 a).toInt * 16) % 18446744073709551616 = 0 := c_lshl (Int32.toInt64 a) 4 4 (by decide)
  have rs := rng64 (shlL (Int32.toInt64 a) 4)
  generalize shlL (Int32.toInt64 a) 4 = x at *
  have u : (ushrL x 6).toInt = x.toInt % 18446744073709551616 / 64 := c_lushr x 6 6 (by decide) (by decide)
  have ru := rng64 (ushrL x 6)
  generalize ushrL x 6 = y at *
  have c := c_l2i y; have rc := rng32 (Int64.toInt32 y)
  omega
theorem own_s4 (m : Int64) (a : Int32) (h0 : 0 ≤ a.toInt) (h1 : a.toInt < 4096) : shlL m (Int64.toInt32 (shlL (Int32.toInt64 a) 4)) = shlL m (shlI (a % 4) 4) := by
  have x1 := (own_i4 a h0 h1).2
  have c := c_l2i (shlL (Int32.toInt64 a) 4); have rc := rng32 (Int64.toInt32 (shlL (Int32.toInt64 a) 4))
  have rm := (c_irem a 4 4 rfl).1 h0
  have sh : ((shlI (a % 4) 4).toInt - (a % 4).toInt * 16) % 4294967296 = 0 := c_ishl (a % 4) 4 4 (by decide)
  have k1 : ((Int64.toInt32 (shlL (Int32.toInt64 a) 4)) &&& 63).toInt = (Int64.toInt32 (shlL (Int32.toInt64 a) 4)).toInt % 64 := c_mask _ 63 6 (by decide) (by decide)
  have k2 : ((shlI (a % 4) 4) &&& 63).toInt = (shlI (a % 4) 4).toInt % 64 := c_mask _ 63 6 (by decide) (by decide)
  have e : (Int64.toInt32 (shlL (Int32.toInt64 a) 4)) &&& 63 = (shlI (a % 4) 4) &&& 63 := by rw [own_eqI, k1, k2]; omega
  show m <<< ((Int64.toInt32 (shlL (Int32.toInt64 a) 4)) &&& 63).toInt64 = m <<< ((shlI (a % 4) 4) &&& 63).toInt64
  rw [e]
theorem own_i5 (a : Int32) (h0 : 0 ≤ a.toInt) (h1 : a.toInt < 4096) : (Int64.toInt32 (ushrL (shlL (Int32.toInt64 a) 5) 6)).toInt = a.toInt / 2 ∧ (shlL (Int32.toInt64 a) 5).toInt = a.toInt * 32 := by
  have i1 : (Int32.toInt64 a).toInt = a.toInt := c_i2l a
  have s : ((shlL (Int32.toInt64 a) 5).toInt - (Int32.toInt64 a).toInt * 32) % 18446744073709551616 = 0 := c_lshl (Int32.toInt64 a) 5 5 (by decide)
  have rs := rng64 (shlL (Int32.toInt64 a) 5)
  generalize shlL (Int32.toInt64 a) 5 = x at *
  have u : (ushrL x 6).toInt = x.toInt % 18446744073709551616 / 64 := c_lushr x 6 6 (by decide) (by decide)
  have ru := rng64 (ushrL x 6)
  generalize ushrL x 6 = y at *
  have c := c_l2i y; have rc := rng32 (Int64.toInt32 y)
  omega
theorem own_s5 (m : Int64) (a : Int32) (h0 : 0 ≤ a.toInt) (h1 : a.toInt < 4096) : shlL m (Int64.toInt32 (shlL (Int32.toInt64 a) 5)) = shlL m (shlI (a % 2) 5) := by
  have x1 := (own_i5 a h0 h1).2
  have c := c_l2i (shlL (Int32.toInt64 a) 5); have rc := rng32 (Int64.toInt32 (shlL (Int32.toInt64 a) 5))
  have rm := (c_irem a 2 2 rfl).1 h0
  have sh : ((shlI (a % 2) 5).toInt - (a % 2).toInt * 32) % 4294967296 = 0 := c_ishl (a % 2) 5 5 (by decide)
  have k1 : ((Int64.toInt32 (shlL (Int32.toInt64 a) 5)) &&& 63).toInt = (Int64.toInt32 (shlL (Int32.toInt64 a) 5)).toInt % 64 := c_mask _ 63 6 (by decide) (by decide)
  have k2 : ((shlI (a % 2) 5) &&& 63).toInt = (shlI (a % 2) 5).toInt % 64 := c_mask _ 63 6 (by decide) (by decide)
  have e : (Int64.toInt32 (shlL (Int32.toInt64 a) 5)) &&& 63 = (shlI (a % 2) 5) &&& 63 := by rw [own_eqI, k1, k2]; omega
  show m <<< ((Int64.toInt32 (shlL (Int32.toInt64 a) 5)) &&& 63).toInt64 = m <<< ((shlI (a % 2) 5) &&& 63).toInt64
  rw [e]
theorem own_i6 (a : Int32) (h0 : 0 ≤ a.toInt) (h1 : a.toInt < 4096) : (Int64.toInt32 (ushrL (shlL (Int32.toInt64 a) 6) 6)).toInt = a.toInt / 1 ∧ (shlL (Int32.toInt64 a) 6).toInt = a.toInt * 64 := by
  have i1 : (Int32.toInt64 a).toInt = a.toInt := c_i2l a
  have s : ((shlL (Int32.toInt64 a) 6).toInt - (Int32.toInt64 a).toInt * 64) % 18446744073709551616 = 0 := c_lshl (Int32.toInt64 a) 6 6 (by decide)
  have rs := rng64 (shlL (Int32.toInt64 a) 6)
  generalize shlL (Int32.toInt64 a) 6 = x at *
  have u : (ushrL x 6).toInt = x.toInt % 18446744073709551616 / 64 := c_lushr x 6 6 (by decide) (by decide)
  have ru := rng64 (ushrL x 6)
  generalize ushrL x 6 = y at *
  have c := c_l2i y; have rc := rng32 (Int64.toInt32 y)
  omega
theorem own_s6 (m : Int64) (a : Int32) (h0 : 0 ≤ a.toInt) (h1 : a.toInt < 4096) : shlL m (Int64.toInt32 (shlL (Int32.toInt64 a) 6)) = shlL m (shlI (a % 1) 6) := by
  have x1 := (own_i6 a h0 h1).2
  have c := c_l2i (shlL (Int32.toInt64 a) 6); have rc := rng32 (Int64.toInt32 (shlL (Int32.toInt64 a) 6))
  have rm := (c_irem a 1 1 rfl).1 h0
  have sh : ((shlI (a % 1) 6).toInt - (a % 1).toInt * 64) % 4294967296 = 0 := c_ishl (a % 1) 6 6 (by decide)
  have k1 : ((Int64.toInt32 (shlL (Int32.toInt64 a) 6)) &&& 63).toInt = (Int64.toInt32 (shlL (Int32.toInt64 a) 6)).toInt % 64 := c_mask _ 63 6 (by decide) (by decide)
  have k2 : ((shlI (a % 1) 6) &&& 63).toInt = (shlI (a % 1) 6).toInt % 64 := c_mask _ 63 6 (by decide) (by decide)
  have e : (Int64.toInt32 (shlL (Int32.toInt64 a) 6)) &&& 63 = (shlI (a % 1) 6) &&& 63 := by rw [own_eqI, k1, k2]; omega
  show m <<< ((Int64.toInt32 (shlL (Int32.toInt64 a) 6)) &&& 63).toInt64 = m <<< ((shlI (a % 1) 6) &&& 63).toInt64
  rw [e]
theorem own_i {k l W : Int32} (h : own_T k l W) (a : Int32) (h0 : 0 ≤ a.toInt) (h1 : a.toInt < 4096) : (Int64.toInt32 (ushrL (shlL (Int32.toInt64 a) k) 6)).toInt = a.toInt / W.toInt ∧ (a / W).toInt = a.toInt / W.toInt := by
  rcases h with ⟨rfl, rfl, rfl⟩ | ⟨rfl, rfl, rfl⟩ | ⟨rfl, rfl, rfl⟩ | ⟨rfl, rfl, rfl⟩ | ⟨rfl, rfl, rfl⟩ | ⟨rfl, rfl, rfl⟩ | ⟨rfl, rfl, rfl⟩
  · exact ⟨(own_i0 a h0 h1).1, (c_idiv a 64 64 rfl (by decide)).1 h0⟩
  · exact ⟨(own_i1 a h0 h1).1, (c_idiv a 32 32 rfl (by decide)).1 h0⟩
  · exact ⟨(own_i2 a h0 h1).1, (c_idiv a 16 16 rfl (by decide)).1 h0⟩
  · exact ⟨(own_i3 a h0 h1).1, (c_idiv a 8 8 rfl (by decide)).1 h0⟩
  · exact ⟨(own_i4 a h0 h1).1, (c_idiv a 4 4 rfl (by decide)).1 h0⟩
  · exact ⟨(own_i5 a h0 h1).1, (c_idiv a 2 2 rfl (by decide)).1 h0⟩
  · exact ⟨(own_i6 a h0 h1).1, (c_idiv a 1 1 rfl (by decide)).1 h0⟩
theorem own_s {k l W : Int32} (h : own_T k l W) (m : Int64) (a : Int32) (h0 : 0 ≤ a.toInt) (h1 : a.toInt < 4096) : shlL m (Int64.toInt32 (shlL (Int32.toInt64 a) k)) = shlL m (shlI (a % W) k) := by
  rcases h with ⟨rfl, rfl, rfl⟩ | ⟨rfl, rfl, rfl⟩ | ⟨rfl, rfl, rfl⟩ | ⟨rfl, rfl, rfl⟩ | ⟨rfl, rfl, rfl⟩ | ⟨rfl, rfl, rfl⟩ | ⟨rfl, rfl, rfl⟩
  · exact own_s0 m a h0 h1
  · exact own_s1 m a h0 h1
  · exact own_s2 m a h0 h1
  · exact own_s3 m a h0 h1
  · exact own_s4 m a h0 h1
  · exact own_s5 m a h0 h1
  · exact own_s6 m a h0 h1
/-- the place of a position's word -/
def own_ix (a k : Int32) : Nat := Int32.toNatClampNeg (Int64.toInt32 (ushrL (shlL (Int32.toInt64 a) k) 6))
theorem own_in {k l W : Int32} (h : own_T k l W) (n a : Int32) (h1 : 1 ≤ n.toInt) (h2 : n.toInt ≤ 4096) (h0 : 0 ≤ a.toInt) (h3 : a.toInt < n.toInt) : ¬ (Int64.toInt32 (ushrL (shlL (Int32.toInt64 a) k) 6)) < 0 ∧ Int32.toNatClampNeg (Int64.toInt32 (ushrL (shlL (Int32.toInt64 a) k) 6)) < (Int32.toNatClampNeg (Int64.toInt32 (F_bytes n l / 8))) := by
  have w := own_words h n h1 h2
  have i := (own_i h a h0 (by omega)).1
  have b : 0 ≤ a.toInt / W.toInt ∧ a.toInt / W.toInt < (n.toInt * l.toInt + 63) / 64 := by
    rcases h with ⟨rfl, rfl, rfl⟩ | ⟨rfl, rfl, rfl⟩ | ⟨rfl, rfl, rfl⟩ | ⟨rfl, rfl, rfl⟩ | ⟨rfl, rfl, rfl⟩ | ⟨rfl, rfl, rfl⟩ | ⟨rfl, rfl, rfl⟩
    · rw [show (64 : Int32).toInt = 64 from rfl, show (1 : Int32).toInt = 1 from rfl]; omega
    · rw [show (32 : Int32).toInt = 32 from rfl, show (2 : Int32).toInt = 2 from rfl]; omega
    · rw [show (16 : Int32).toInt = 16 from rfl, show (4 : Int32).toInt = 4 from rfl]; omega
    · rw [show (8 : Int32).toInt = 8 from rfl]; omega
    · rw [show (4 : Int32).toInt = 4 from rfl, show (16 : Int32).toInt = 16 from rfl]; omega
    · rw [show (2 : Int32).toInt = 2 from rfl, show (32 : Int32).toInt = 32 from rfl]; omega
    · rw [show (1 : Int32).toInt = 1 from rfl, show (64 : Int32).toInt = 64 from rfl]; omega
  refine ⟨fun z => ?_, ?_⟩
  · have := own_ltI.mp z; have e : (0 : Int32).toInt = 0 := rfl
    omega
  · simp only [Int32.toNatClampNeg]; omega
theorem own_same {k l W : Int32} (h : own_T k l W) (a c : Int32) (h0 : 0 ≤ a.toInt) (h1 : a.toInt < 4096) (h2 : 0 ≤ c.toInt) (h3 : c.toInt < 4096) : own_ix a k = own_ix c k ↔ a / W = c / W := by
  have i1 := own_i h a h0 h1
  have i2 := own_i h c h2 h3
  have b1 : 0 ≤ a.toInt / W.toInt ∧ 0 ≤ c.toInt / W.toInt := by
    rcases h with ⟨rfl, rfl, rfl⟩ | ⟨rfl, rfl, rfl⟩ | ⟨rfl, rfl, rfl⟩ | ⟨rfl, rfl, rfl⟩ | ⟨rfl, rfl, rfl⟩ | ⟨rfl, rfl, rfl⟩ | ⟨rfl, rfl, rfl⟩
    · rw [show (64 : Int32).toInt = 64 from rfl]; omega
    · rw [show (32 : Int32).toInt = 32 from rfl]; omega
    · rw [show (16 : Int32).toInt = 16 from rfl]; omega
    · rw [show (8 : Int32).toInt = 8 from rfl]; omega
    · rw [show (4 : Int32).toInt = 4 from rfl]; omega
    · rw [show (2 : Int32).toInt = 2 from rfl]; omega
    · rw [show (1 : Int32).toInt = 1 from rfl]; omega
  rw [own_eqI, i1.2, i2.2]
  simp only [own_ix, Int32.toNatClampNeg, i1.1, i2.1]
  omega
theorem own_0or (x : Int64) : (0 : Int64) ||| x = x := Int64.zero_or
theorem own_or0 (x : Int64) : x ||| (0 : Int64) = x := Int64.or_zero

theorem own_bits (p : Int32) : 1 ≤ ((1 : Int32) + (p &&& 4095)).toInt ∧ ((1 : Int32) + (p &&& 4095)).toInt ≤ 4096 := by
  have h := c_and p 4095 (by decide)
  have e1 : (1 : Int32).toInt = 1 := rfl
  have e2 : (4095 : Int32).toInt = 4095 := rfl
  have := c_iadd 1 (p &&& 4095); have := rng32 (1 + (p &&& 4095))
  omega
theorem own_a (p n : Int32) (h : 1 ≤ n.toInt) : 0 ≤ ((p &&& 65535) % n).toInt ∧ ((p &&& 65535) % n).toInt < n.toInt := own_pos _ _ (c_and p 65535 (by decide)).1 (by omega)
theorem own_b (p n : Int32) (h : 1 ≤ n.toInt) : 0 ≤ ((ushrI p 16) % n).toInt ∧ ((ushrI p 16) % n).toInt < n.toInt := by
  have u : (ushrI p 16).toInt = p.toInt % 4294967296 / 65536 := c_iushr p 16 16 (by decide) (by decide)
  exact own_pos _ _ (by omega) (by omega)
theorem own_c (p n : Int32) (h : 1 ≤ n.toInt) : 0 ≤ ((p &&& 2147483647) % n).toInt ∧ ((p &&& 2147483647) % n).toInt < n.toInt := own_pos _ _ (own_m31 p) (by omega)
theorem pd_2 : parseMethodDescriptor "(II)V" = some ⟨[.int, .int], none⟩ := by decide +kernel
theorem pd_3 : parseMethodDescriptor "([IJ)V" = some ⟨[(.array .int), .long], none⟩ := by decide +kernel
theorem pd_4 : parseMethodDescriptor "(IIIIJ)J" = some ⟨[.int, .int, .int, .int, .long], some .long⟩ := by decide +kernel
theorem pd_5 : parseMethodDescriptor "(I)J" = some ⟨[.int], some .long⟩ := by decide +kernel
theorem ef_0 (p0 : Int32) (p1 : Int32) (p2 : Int32) (p3 : Int32) (q4 : Int64) (q5 : Int64) : ∀ m : MethodId, entryFrame m #[(.int p0), (.int p1), (.int p2), (.int p3), (.long q4), (.long q5)] maxLocals = mkF m 0 #[.val (.int p0), .val (.int p1), .val (.int p2), .val (.int p3), .val (.long q4), .second, .val (.long q5), .second, .unset, .unset, .unset, .unset, .unset, .unset, .unset, .unset, .unset, .unset, .unset, .unset, .unset, .unset, .unset, .unset, .unset, .unset, .unset] [] := by intro m; first | (simp [entryFrame, mkF, argsToLocals, Value.category, maxLocals]; done) | rfl
def M0_586 (v379 : Int32) (v542 : Int32) (v376 : Int32) (v372 : Int32) (v384 : Int64) (v378 : Int32) (v383 : Int64) (v377 : Int32) (v581 : Int64) : Int32 :=
  (if (F_word v379 v542 (Int32.toNatClampNeg (Int64.toInt32 ((F_bytes v376 v372) / (8 : Int64)))) (F_add1_w_a0_words_g v384 v378 v542 (Int32.toNatClampNeg (Int64.toInt32 ((F_bytes v376 v372) / (8 : Int64)))) (F_add1_w_a0_words_g v383 v377 v542 (Int32.toNatClampNeg (Int64.toInt32 ((F_bytes v376 v372) / (8 : Int64)))) (fun _ => (0 : Int64))))) = v581 then (1 : Int32) else (0 : Int32))
def M0_718 (v379 : Int32) (v670 : Int32) (v376 : Int32) (v372 : Int32) (v384 : Int64) (v377 : Int32) (v378 : Int32) (v383 : Int64) (v713 : Int64) : Int32 :=
  (if (F_word v379 v670 (Int32.toNatClampNeg (Int64.toInt32 ((F_bytes v376 v372) / (8 : Int64)))) (F_add2_w_a0_words_g v384 v377 v378 v670 (Int32.toNatClampNeg (Int64.toInt32 ((F_bytes v376 v372) / (8 : Int64)))) (F_add1_w_a0_words_g v383 v377 v670 (Int32.toNatClampNeg (Int64.toInt32 ((F_bytes v376 v372) / (8 : Int64)))) (fun _ => (0 : Int64))))) = v713 then (1 : Int32) else (0 : Int32))
def F_law (p0 : Int32) (p1 : Int32) (p2 : Int32) (p3 : Int32) (q4 : Int64) (q5 : Int64) : Int32 :=
  let v371 : Int32 := ((p0 &&& (7 : Int32)) % (7 : Int32))
  let v372 : Int32 := (shlI (1 : Int32) v371)
  let d374 : Int32 := (if ((ushrI p0 (3 : Int32)) &&& (1 : Int32)) = (0 : Int32) then (0 : Int32) else (1 : Int32))
  let v376 : Int32 := ((1 : Int32) + (p1 &&& (4095 : Int32)))
  let v377 : Int32 := ((p2 &&& (65535 : Int32)) % v376)
  let v378 : Int32 := ((ushrI p2 (16 : Int32)) % v376)
  let v379 : Int32 := ((p3 &&& (2147483647 : Int32)) % v376)
  let d381 : Int64 := (if v372 = (64 : Int32) then (-1 : Int64) else ((shlL (1 : Int64) v372) - (1 : Int64)))
  let v383 : Int64 := (q4 &&& d381)
  let v384 : Int64 := (q5 &&& d381)
  if d374 = (0 : Int32) then
    let v542 : Int32 := (F_numberOfTrailingZeros v372)
    let v574 : Int32 := (shrI (64 : Int32) v371)
    let v581 : Int64 := ((F_at v377 v379 v574 v371 v383) ||| (F_at v378 v379 v574 v371 v384))
    let d587 : Int32 := (M0_586 v379 v542 v376 v372 v384 v378 v383 v377 v581)
    (nar .boolean d587)
  else
    let v670 : Int32 := (F_numberOfTrailingZeros v372)
    let v702 : Int32 := (shrI (64 : Int32) v371)
    let v709 : Int64 := ((F_at v377 v379 v702 v371 v383) ||| (F_at v378 v379 v702 v371 v384))
    let v713 : Int64 := (v709 ||| (F_at v377 v379 v702 v371 v384))
    let d719 : Int32 := (M0_718 v379 v670 v376 v372 v384 v377 v378 v383 v713)
    (nar .boolean d719)
theorem own_ob_0 (p0 : Int32) (p1 : Int32) (p2 : Int32) (p3 : Int32) (q4 : Int64) (q5 : Int64) : ∀ (v376 : Int32), ((1 : Int32) + (p1 &&& (4095 : Int32))) = v376 → ¬ v376 = (0 : Int32) := by
  have T := own_T_of p0
  have B := own_bits p1
  intros; subst_vars
  intro z
  have := own_eqI.mp z; have e : (0 : Int32).toInt = 0 := rfl
  omega
theorem own_ob_1 (p0 : Int32) (p1 : Int32) (p2 : Int32) (p3 : Int32) (q4 : Int64) (q5 : Int64) : ∀ (v371 : Int32) (v372 : Int32), ((p0 &&& (7 : Int32)) % (7 : Int32)) = v371 → (shlI (1 : Int32) v371) = v372 → (¬ (v372 < (1 : Int32))) := by
  have T := own_T_of p0
  have B := own_bits p1
  intros; subst_vars
  exact own_T_lo T
theorem own_ob_2 (p0 : Int32) (p1 : Int32) (p2 : Int32) (p3 : Int32) (q4 : Int64) (q5 : Int64) : ∀ (v371 : Int32) (v372 : Int32), ((p0 &&& (7 : Int32)) % (7 : Int32)) = v371 → (shlI (1 : Int32) v371) = v372 → (¬ ((64 : Int32) < v372)) := by
  have T := own_T_of p0
  have B := own_bits p1
  intros; subst_vars
  exact own_T_hi T
theorem own_ob_3 (p0 : Int32) (p1 : Int32) (p2 : Int32) (p3 : Int32) (q4 : Int64) (q5 : Int64) : ∀ (v371 : Int32) (v372 : Int32), ((p0 &&& (7 : Int32)) % (7 : Int32)) = v371 → (shlI (1 : Int32) v371) = v372 → ((F_bitCount v372) = (1 : Int32)) := by
  have T := own_T_of p0
  have B := own_bits p1
  intros; subst_vars
  exact own_T_bc T
theorem own_ob_4 (p0 : Int32) (p1 : Int32) (p2 : Int32) (p3 : Int32) (q4 : Int64) (q5 : Int64) : ∀ (v371 : Int32) (v372 : Int32) (v376 : Int32), ((p0 &&& (7 : Int32)) % (7 : Int32)) = v371 → (shlI (1 : Int32) v371) = v372 → ((1 : Int32) + (p1 &&& (4095 : Int32))) = v376 → (¬ (Int64.toInt32 ((F_bytes v376 v372) / (8 : Int64))) < (0 : Int32) ∧ (Int32.toNatClampNeg (Int64.toInt32 ((F_bytes v376 v372) / (8 : Int64)))) ≤ 4096) := by
  have T := own_T_of p0
  have B := own_bits p1
  intros; subst_vars
  exact own_cap T _ B.1 B.2
theorem own_ob_5 (p0 : Int32) (p1 : Int32) (p2 : Int32) (p3 : Int32) (q4 : Int64) (q5 : Int64) : ∀ (v371 : Int32) (v372 : Int32) (v376 : Int32) (v377 : Int32) (v542 : Int32), ((p0 &&& (7 : Int32)) % (7 : Int32)) = v371 → (shlI (1 : Int32) v371) = v372 → ((1 : Int32) + (p1 &&& (4095 : Int32))) = v376 → ((p2 &&& (65535 : Int32)) % v376) = v377 → (F_numberOfTrailingZeros v372) = v542 → (∀ (v240 : Int64), (shlL (Int32.toInt64 v377) v542) = v240 → ¬ (Int64.toInt32 (ushrL v240 (6 : Int32))) < (0 : Int32) ∧ Int32.toNatClampNeg (Int64.toInt32 (ushrL v240 (6 : Int32))) < (Int32.toNatClampNeg (Int64.toInt32 ((F_bytes v376 v372) / (8 : Int64))))) := by
  have T := own_T_of p0
  have B := own_bits p1
  intros; subst_vars
  rw [own_T_ntz T]
  exact own_in T _ _ B.1 B.2 (own_a p2 _ B.1).1 (own_a p2 _ B.1).2
theorem own_ob_6 (p0 : Int32) (p1 : Int32) (p2 : Int32) (p3 : Int32) (q4 : Int64) (q5 : Int64) : ∀ (v371 : Int32) (v372 : Int32) (v376 : Int32) (v378 : Int32) (v542 : Int32), ((p0 &&& (7 : Int32)) % (7 : Int32)) = v371 → (shlI (1 : Int32) v371) = v372 → ((1 : Int32) + (p1 &&& (4095 : Int32))) = v376 → ((ushrI p2 (16 : Int32)) % v376) = v378 → (F_numberOfTrailingZeros v372) = v542 → (∀ (v240 : Int64), (shlL (Int32.toInt64 v378) v542) = v240 → ¬ (Int64.toInt32 (ushrL v240 (6 : Int32))) < (0 : Int32) ∧ Int32.toNatClampNeg (Int64.toInt32 (ushrL v240 (6 : Int32))) < (Int32.toNatClampNeg (Int64.toInt32 ((F_bytes v376 v372) / (8 : Int64))))) := by
  have T := own_T_of p0
  have B := own_bits p1
  intros; subst_vars
  rw [own_T_ntz T]
  exact own_in T _ _ B.1 B.2 (own_b p2 _ B.1).1 (own_b p2 _ B.1).2
theorem own_ob_7 (p0 : Int32) (p1 : Int32) (p2 : Int32) (p3 : Int32) (q4 : Int64) (q5 : Int64) : ∀ (v371 : Int32) (v574 : Int32), ((p0 &&& (7 : Int32)) % (7 : Int32)) = v371 → (shrI (64 : Int32) v371) = v574 → (¬ v574 = (0 : Int32)) := by
  have T := own_T_of p0
  have B := own_bits p1
  intros; subst_vars
  exact own_T_W T
theorem own_ob_8 (p0 : Int32) (p1 : Int32) (p2 : Int32) (p3 : Int32) (q4 : Int64) (q5 : Int64) : ∀ (v371 : Int32) (v372 : Int32) (v376 : Int32) (v379 : Int32) (v542 : Int32), ((p0 &&& (7 : Int32)) % (7 : Int32)) = v371 → (shlI (1 : Int32) v371) = v372 → ((1 : Int32) + (p1 &&& (4095 : Int32))) = v376 → ((p3 &&& (2147483647 : Int32)) % v376) = v379 → (F_numberOfTrailingZeros v372) = v542 → (¬ (Int64.toInt32 (ushrL (shlL (Int32.toInt64 v379) v542) (6 : Int32))) < (0 : Int32) ∧ Int32.toNatClampNeg (Int64.toInt32 (ushrL (shlL (Int32.toInt64 v379) v542) (6 : Int32))) < (Int32.toNatClampNeg (Int64.toInt32 ((F_bytes v376 v372) / (8 : Int64))))) := by
  have T := own_T_of p0
  have B := own_bits p1
  intros; subst_vars
  rw [own_T_ntz T]
  exact own_in T _ _ B.1 B.2 (own_c p3 _ B.1).1 (own_c p3 _ B.1).2
theorem own_ob_9 (p0 : Int32) (p1 : Int32) (p2 : Int32) (p3 : Int32) (q4 : Int64) (q5 : Int64) : ∀ (v371 : Int32) (v372 : Int32) (v376 : Int32) (v377 : Int32) (v670 : Int32), ((p0 &&& (7 : Int32)) % (7 : Int32)) = v371 → (shlI (1 : Int32) v371) = v372 → ((1 : Int32) + (p1 &&& (4095 : Int32))) = v376 → ((p2 &&& (65535 : Int32)) % v376) = v377 → (F_numberOfTrailingZeros v372) = v670 → (∀ (v240 : Int64), (shlL (Int32.toInt64 v377) v670) = v240 → ¬ (Int64.toInt32 (ushrL v240 (6 : Int32))) < (0 : Int32) ∧ Int32.toNatClampNeg (Int64.toInt32 (ushrL v240 (6 : Int32))) < (Int32.toNatClampNeg (Int64.toInt32 ((F_bytes v376 v372) / (8 : Int64))))) := by
  have T := own_T_of p0
  have B := own_bits p1
  intros; subst_vars
  rw [own_T_ntz T]
  exact own_in T _ _ B.1 B.2 (own_a p2 _ B.1).1 (own_a p2 _ B.1).2
theorem own_ob_10 (p0 : Int32) (p1 : Int32) (p2 : Int32) (p3 : Int32) (q4 : Int64) (q5 : Int64) : ∀ (v371 : Int32) (v372 : Int32) (v376 : Int32) (v377 : Int32) (v670 : Int32), ((p0 &&& (7 : Int32)) % (7 : Int32)) = v371 → (shlI (1 : Int32) v371) = v372 → ((1 : Int32) + (p1 &&& (4095 : Int32))) = v376 → ((p2 &&& (65535 : Int32)) % v376) = v377 → (F_numberOfTrailingZeros v372) = v670 → (∀ (v314 : Int64), (shlL (Int32.toInt64 v377) v670) = v314 → ¬ (Int64.toInt32 (ushrL v314 (6 : Int32))) < (0 : Int32) ∧ Int32.toNatClampNeg (Int64.toInt32 (ushrL v314 (6 : Int32))) < (Int32.toNatClampNeg (Int64.toInt32 ((F_bytes v376 v372) / (8 : Int64))))) := by
  have T := own_T_of p0
  have B := own_bits p1
  intros; subst_vars
  rw [own_T_ntz T]
  exact own_in T _ _ B.1 B.2 (own_a p2 _ B.1).1 (own_a p2 _ B.1).2
theorem own_ob_11 (p0 : Int32) (p1 : Int32) (p2 : Int32) (p3 : Int32) (q4 : Int64) (q5 : Int64) : ∀ (v371 : Int32) (v372 : Int32) (v376 : Int32) (v378 : Int32) (v670 : Int32), ((p0 &&& (7 : Int32)) % (7 : Int32)) = v371 → (shlI (1 : Int32) v371) = v372 → ((1 : Int32) + (p1 &&& (4095 : Int32))) = v376 → ((ushrI p2 (16 : Int32)) % v376) = v378 → (F_numberOfTrailingZeros v372) = v670 → (∀ (v336 : Int64), (shlL (Int32.toInt64 v378) v670) = v336 → ¬ (Int64.toInt32 (ushrL v336 (6 : Int32))) < (0 : Int32) ∧ Int32.toNatClampNeg (Int64.toInt32 (ushrL v336 (6 : Int32))) < (Int32.toNatClampNeg (Int64.toInt32 ((F_bytes v376 v372) / (8 : Int64))))) := by
  have T := own_T_of p0
  have B := own_bits p1
  intros; subst_vars
  rw [own_T_ntz T]
  exact own_in T _ _ B.1 B.2 (own_b p2 _ B.1).1 (own_b p2 _ B.1).2
theorem own_ob_12 (p0 : Int32) (p1 : Int32) (p2 : Int32) (p3 : Int32) (q4 : Int64) (q5 : Int64) : ∀ (v371 : Int32) (v702 : Int32), ((p0 &&& (7 : Int32)) % (7 : Int32)) = v371 → (shrI (64 : Int32) v371) = v702 → (¬ v702 = (0 : Int32)) := by
  have T := own_T_of p0
  have B := own_bits p1
  intros; subst_vars
  exact own_T_W T
theorem own_ob_13 (p0 : Int32) (p1 : Int32) (p2 : Int32) (p3 : Int32) (q4 : Int64) (q5 : Int64) : ∀ (v371 : Int32) (v372 : Int32) (v376 : Int32) (v379 : Int32) (v670 : Int32), ((p0 &&& (7 : Int32)) % (7 : Int32)) = v371 → (shlI (1 : Int32) v371) = v372 → ((1 : Int32) + (p1 &&& (4095 : Int32))) = v376 → ((p3 &&& (2147483647 : Int32)) % v376) = v379 → (F_numberOfTrailingZeros v372) = v670 → (¬ (Int64.toInt32 (ushrL (shlL (Int32.toInt64 v379) v670) (6 : Int32))) < (0 : Int32) ∧ Int32.toNatClampNeg (Int64.toInt32 (ushrL (shlL (Int32.toInt64 v379) v670) (6 : Int32))) < (Int32.toNatClampNeg (Int64.toInt32 ((F_bytes v376 v372) / (8 : Int64))))) := by
  have T := own_T_of p0
  have B := own_bits p1
  intros; subst_vars
  rw [own_T_ntz T]
  exact own_in T _ _ B.1 B.2 (own_c p3 _ B.1).1 (own_c p3 _ B.1).2
set_option maxRecDepth 65536 in
set_option maxHeartbeats 40000000 in
theorem rm0 (l : Launch) (Z : State) (az : Array Value) (hw : ∀ d ∈ tables_1, d.before az Z = true) (ws : List Jvm.Cond) (p0 : Int32) (p1 : Int32) (p2 : Int32) (p3 : Int32) (q4 : Int64) (q5 : Int64) (h0 : Heap) (n0 : Nat) (Z0 : n0 ≤ h0.size) :
    Met l x code maxLocals ret ws room_1 Z #[(.int p0), (.int p1), (.int p2), (.int p3), (.long q4), (.long q5)] h0 (fun v h' L => v = some (Value.int (F_law p0 p1 p2 p3 q4 q5)) ∧ Fr n0 L) := by
  refine enter (plainFor_of_name pn_2) (ef_0 p0 p1 p2 p3 q4 q5) ?_
  intro p e s m below meth c T0 kc kn Q hkc hkn hQ K' X0 e0
  have K : Fx p s m meth c code 27 "com/example/dayflower/dayflower/filter/FilterSlabAddPinLaw" "law" (some .boolean) Z := K'
  have N0 := Fr.nil n0
  have K0 : Keep h0 h0 [] := Keep.refl _ _
  refine k_iloadN K X0 at_0 rfl (q := 1) rfl ?_
  refine k_bipush K X0 at_1 (v := (7 : Int32)) rfl (q := 3) rfl ?_
  refine k_iand K X0 at_3 (q := 4) rfl ?_
  refine k_bipush K X0 at_4 (v := (7 : Int32)) rfl (q := 6) rfl ?_
  refine k_irem K X0 at_6 (by decide) (q := 7) rfl ?_
  obtain ⟨v371, hv_v371⟩ : ∃ z : Int32, ((p0 &&& (7 : Int32)) % (7 : Int32)) = z := ⟨_, rfl⟩
  refine k_istore K X0 at_7 hv_v371 (Ls' := #[.val (.int p0), .val (.int p1), .val (.int p2), .val (.int p3), .val (.long q4), .second, .val (.long q5), .second, .val (.int v371), .unset, .unset, .unset, .unset, .unset, .unset, .unset, .unset, .unset, .unset, .unset, .unset, .unset, .unset, .unset, .unset, .unset, .unset]) rfl (q := 9) rfl ?_
  refine k_iconst K X0 at_9 (v := (1 : Int32)) rfl (q := 10) rfl ?_
  refine k_iload K X0 at_10 rfl (q := 12) rfl ?_
  refine k_ishl K X0 at_12 (q := 13) rfl ?_
  obtain ⟨v372, hv_v372⟩ : ∃ z : Int32, (shlI (1 : Int32) v371) = z := ⟨_, rfl⟩
  refine k_istore K X0 at_13 hv_v372 (Ls' := #[.val (.int p0), .val (.int p1), .val (.int p2), .val (.int p3), .val (.long q4), .second, .val (.long q5), .second, .val (.int v371), .val (.int v372), .unset, .unset, .unset, .unset, .unset, .unset, .unset, .unset, .unset, .unset, .unset, .unset, .unset, .unset, .unset, .unset, .unset]) rfl (q := 15) rfl ?_
  refine k_iloadN K X0 at_15 rfl (q := 16) rfl ?_
  refine k_iconst K X0 at_16 (v := (3 : Int32)) rfl (q := 17) rfl ?_
  refine k_iushr K X0 at_17 (q := 18) rfl ?_
  refine k_iconst K X0 at_18 (v := (1 : Int32)) rfl (q := 19) rfl ?_
  refine k_iand K X0 at_19 (q := 20) rfl ?_
  have J375 : ∀ (d374 : Int32), (if ((ushrI p0 (3 : Int32)) &&& (1 : Int32)) = (0 : Int32) then (0 : Int32) else (1 : Int32)) = d374 → Run p e below s kc kn Q T0 (mkF m 28 #[.val (.int p0), .val (.int p1), .val (.int p2), .val (.int p3), .val (.long q4), .second, .val (.long q5), .second, .val (.int v371), .val (.int v372), .unset, .unset, .unset, .unset, .unset, .unset, .unset, .unset, .unset, .unset, .unset, .unset, .unset, .unset, .unset, .unset, .unset] [(.int d374)]) := by
    intro d374 hv_d374
    refine k_istore K X0 at_28 rfl (Ls' := #[.val (.int p0), .val (.int p1), .val (.int p2), .val (.int p3), .val (.long q4), .second, .val (.long q5), .second, .val (.int v371), .val (.int v372), .val (.int d374), .unset, .unset, .unset, .unset, .unset, .unset, .unset, .unset, .unset, .unset, .unset, .unset, .unset, .unset, .unset, .unset]) rfl (q := 30) rfl ?_
    refine k_iconst K X0 at_30 (v := (1 : Int32)) rfl (q := 31) rfl ?_
    refine k_iloadN K X0 at_31 rfl (q := 32) rfl ?_
    refine k_sipush K X0 at_32 (v := (4095 : Int32)) rfl (q := 35) rfl ?_
    refine k_iand K X0 at_35 (q := 36) rfl ?_
    refine k_iadd K X0 at_36 (q := 37) rfl ?_
    obtain ⟨v376, hv_v376⟩ : ∃ z : Int32, ((1 : Int32) + (p1 &&& (4095 : Int32))) = z := ⟨_, rfl⟩
    refine k_istore K X0 at_37 hv_v376 (Ls' := #[.val (.int p0), .val (.int p1), .val (.int p2), .val (.int p3), .val (.long q4), .second, .val (.long q5), .second, .val (.int v371), .val (.int v372), .val (.int d374), .val (.int v376), .unset, .unset, .unset, .unset, .unset, .unset, .unset, .unset, .unset, .unset, .unset, .unset, .unset, .unset, .unset]) rfl (q := 39) rfl ?_
    refine k_iloadN K X0 at_39 rfl (q := 40) rfl ?_
    refine k_ldc K X0 at_40 (wd hw 0 rfl) (q := 42) rfl ?_
    refine k_iand K X0 at_42 (q := 43) rfl ?_
    refine k_iload K X0 at_43 rfl (q := 45) rfl ?_
    refine k_irem K X0 at_45 (own_ob_0 p0 p1 p2 p3 q4 q5 v376 hv_v376) (q := 46) rfl ?_
    obtain ⟨v377, hv_v377⟩ : ∃ z : Int32, ((p2 &&& (65535 : Int32)) % v376) = z := ⟨_, rfl⟩
    refine k_istore K X0 at_46 hv_v377 (Ls' := #[.val (.int p0), .val (.int p1), .val (.int p2), .val (.int p3), .val (.long q4), .second, .val (.long q5), .second, .val (.int v371), .val (.int v372), .val (.int d374), .val (.int v376), .val (.int v377), .unset, .unset, .unset, .unset, .unset, .unset, .unset, .unset, .unset, .unset, .unset, .unset, .unset, .unset]) rfl (q := 48) rfl ?_
    refine k_iloadN K X0 at_48 rfl (q := 49) rfl ?_
    refine k_bipush K X0 at_49 (v := (16 : Int32)) rfl (q := 51) rfl ?_
    refine k_iushr K X0 at_51 (q := 52) rfl ?_
    refine k_iload K X0 at_52 rfl (q := 54) rfl ?_
    refine k_irem K X0 at_54 (own_ob_0 p0 p1 p2 p3 q4 q5 v376 hv_v376) (q := 55) rfl ?_
    obtain ⟨v378, hv_v378⟩ : ∃ z : Int32, ((ushrI p2 (16 : Int32)) % v376) = z := ⟨_, rfl⟩
    refine k_istore K X0 at_55 hv_v378 (Ls' := #[.val (.int p0), .val (.int p1), .val (.int p2), .val (.int p3), .val (.long q4), .second, .val (.long q5), .second, .val (.int v371), .val (.int v372), .val (.int d374), .val (.int v376), .val (.int v377), .val (.int v378), .unset, .unset, .unset, .unset, .unset, .unset, .unset, .unset, .unset, .unset, .unset, .unset, .unset]) rfl (q := 57) rfl ?_
    refine k_iloadN K X0 at_57 rfl (q := 58) rfl ?_
    refine k_ldc K X0 at_58 (wd hw 1 rfl) (q := 60) rfl ?_
    refine k_iand K X0 at_60 (q := 61) rfl ?_
    refine k_iload K X0 at_61 rfl (q := 63) rfl ?_
    refine k_irem K X0 at_63 (own_ob_0 p0 p1 p2 p3 q4 q5 v376 hv_v376) (q := 64) rfl ?_
    obtain ⟨v379, hv_v379⟩ : ∃ z : Int32, ((p3 &&& (2147483647 : Int32)) % v376) = z := ⟨_, rfl⟩
    refine k_istore K X0 at_64 hv_v379 (Ls' := #[.val (.int p0), .val (.int p1), .val (.int p2), .val (.int p3), .val (.long q4), .second, .val (.long q5), .second, .val (.int v371), .val (.int v372), .val (.int d374), .val (.int v376), .val (.int v377), .val (.int v378), .val (.int v379), .unset, .unset, .unset, .unset, .unset, .unset, .unset, .unset, .unset, .unset, .unset, .unset]) rfl (q := 66) rfl ?_
    refine k_iload K X0 at_66 rfl (q := 68) rfl ?_
    refine k_bipush K X0 at_68 (v := (64 : Int32)) rfl (q := 70) rfl ?_
    have J382 : ∀ (d381 : Int64), (if v372 = (64 : Int32) then (-1 : Int64) else ((shlL (1 : Int64) v372) - (1 : Int64))) = d381 → Run p e below s kc kn Q T0 (mkF m 85 #[.val (.int p0), .val (.int p1), .val (.int p2), .val (.int p3), .val (.long q4), .second, .val (.long q5), .second, .val (.int v371), .val (.int v372), .val (.int d374), .val (.int v376), .val (.int v377), .val (.int v378), .val (.int v379), .unset, .unset, .unset, .unset, .unset, .unset, .unset, .unset, .unset, .unset, .unset, .unset] [(.long d381)]) := by
      intro d381 hv_d381
      refine k_lstore K X0 at_85 rfl (Ls' := #[.val (.int p0), .val (.int p1), .val (.int p2), .val (.int p3), .val (.long q4), .second, .val (.long q5), .second, .val (.int v371), .val (.int v372), .val (.int d374), .val (.int v376), .val (.int v377), .val (.int v378), .val (.int v379), .val (.long d381), .second, .unset, .unset, .unset, .unset, .unset, .unset, .unset, .unset, .unset, .unset]) rfl (q := 87) rfl ?_
      refine k_lload K X0 at_87 rfl (q := 89) rfl ?_
      refine k_lload K X0 at_89 rfl (q := 91) rfl ?_
      refine k_land K X0 at_91 (q := 92) rfl ?_
      obtain ⟨v383, hv_v383⟩ : ∃ z : Int64, (q4 &&& d381) = z := ⟨_, rfl⟩
      refine k_lstore K X0 at_92 hv_v383 (Ls' := #[.val (.int p0), .val (.int p1), .val (.int p2), .val (.int p3), .val (.long q4), .second, .val (.long q5), .second, .val (.int v371), .val (.int v372), .val (.int d374), .val (.int v376), .val (.int v377), .val (.int v378), .val (.int v379), .val (.long d381), .second, .val (.long v383), .second, .unset, .unset, .unset, .unset, .unset, .unset, .unset, .unset]) rfl (q := 94) rfl ?_
      refine k_lload K X0 at_94 rfl (q := 96) rfl ?_
      refine k_lload K X0 at_96 rfl (q := 98) rfl ?_
      refine k_land K X0 at_98 (q := 99) rfl ?_
      obtain ⟨v384, hv_v384⟩ : ∃ z : Int64, (q5 &&& d381) = z := ⟨_, rfl⟩
      refine k_lstore K X0 at_99 hv_v384 (Ls' := #[.val (.int p0), .val (.int p1), .val (.int p2), .val (.int p3), .val (.long q4), .second, .val (.long q5), .second, .val (.int v371), .val (.int v372), .val (.int d374), .val (.int v376), .val (.int v377), .val (.int v378), .val (.int v379), .val (.long d381), .second, .val (.long v383), .second, .val (.long v384), .second, .unset, .unset, .unset, .unset, .unset, .unset]) rfl (q := 101) rfl ?_
      refine k_iconst K X0 at_101 (v := (1 : Int32)) rfl (q := 102) rfl ?_
      refine k_newarray K X0 e0 at_102 (ty := .int) rfl (wd hw 2 rfl) (n := 1) (cap := 1) (by decide) (by decide) (by decide) (by decide) (by decide) (q := 104) rfl ?_
      intro T385 h386 b387 X388 e389 g390 E391 A392 
      have ge393 : n0 ≤ b387 := Nat.le_trans Z0 (Nat.le_of_eq g390.symm)
      have bn394 : h0.size ≤ b387 := Nat.le_trans K0.1 (Nat.le_of_eq g390.symm)
      have K395 := Keep.ext K0 E391
      have Z396 := Nat.le_trans Z0 E391.1
      have f397 : Ary Z h386 b387 .int 1 (fun i => Value.int (List.getD [(0 : Int32)] i 0)) := Ary.eqv A392 (by intro i hi; match i, hi with | 0, _ => rfl | (k + 1), hi => exact absurd hi (by omega))
      refine k_dup K X388 at_104 rfl (q := 105) rfl ?_
      refine k_iconst K X388 at_105 (v := (0 : Int32)) rfl (q := 106) rfl ?_
      refine k_iload K X388 at_106 rfl (q := 108) rfl ?_
      refine k_iastore K X388 e389 at_108 f397 (i := 0) (by decide) (by decide) (q := 109) rfl ?_
      intro T398 h399 X400 e401 W402 A403
      have f404 : Ary Z h399 b387 .int 1 (fun i => Value.int (List.getD [v377] i 0)) := Ary.eqv A403 (fun i _ => setD Value.int [(0 : Int32)] 0 v377 0 (Nat.le_of_ble_eq_true rfl) i)
      have N405 := Fr.snoc X400 N0 ge393
      have K406 := Keep.wr K395 W402 (Or.inr bn394)
      have Z407 := Nat.le_trans Z396 (Nat.le_of_eq (Wr.size W402).symm)
      refine k_astore K X400 at_109 rfl (Ls' := #[.val (.int p0), .val (.int p1), .val (.int p2), .val (.int p3), .val (.long q4), .second, .val (.long q5), .second, .val (.int v371), .val (.int v372), .val (.int d374), .val (.int v376), .val (.int v377), .val (.int v378), .val (.int v379), .val (.long d381), .second, .val (.long v383), .second, .val (.long v384), .second, .val (.ref b387), .unset, .unset, .unset, .unset, .unset]) rfl (q := 111) rfl ?_
      refine k_iload K X400 at_111 rfl (q := 113) rfl ?_
      refine k_if_eq K X400 at_113 (by decide) (q := 132) rfl (q' := 116) rfl ?_ ?_
      · intro hc472
        refine k_iconst K X400 at_132 (v := (1 : Int32)) rfl (q := 133) rfl ?_
        refine k_newarray K X400 e401 at_133 (ty := .int) rfl (wd hw 2 rfl) (n := 1) (cap := 1) (by decide) (by decide) (by decide) (by decide) (by decide) (q := 135) rfl ?_
        intro T473 h474 b475 X476 e477 g478 E479 A480 
        have ne481 : b387 ≠ b475 := Nat.ne_of_lt (Nat.lt_of_lt_of_eq (f404).lt g478.symm)
        have ge482 : n0 ≤ b475 := Nat.le_trans Z407 (Nat.le_of_eq g478.symm)
        have bn483 : h0.size ≤ b475 := Nat.le_trans K406.1 (Nat.le_of_eq g478.symm)
        have f484 := Ary.ext f404 E479
        have K485 := Keep.ext K406 E479
        have Z486 := Nat.le_trans Z407 E479.1
        have f487 : Ary Z h474 b475 .int 1 (fun i => Value.int (List.getD [(0 : Int32)] i 0)) := Ary.eqv A480 (by intro i hi; match i, hi with | 0, _ => rfl | (k + 1), hi => exact absurd hi (by omega))
        refine k_dup K X476 at_135 rfl (q := 136) rfl ?_
        refine k_iconst K X476 at_136 (v := (0 : Int32)) rfl (q := 137) rfl ?_
        refine k_iload K X476 at_137 rfl (q := 139) rfl ?_
        refine k_iastore K X476 e477 at_139 f487 (i := 0) (by decide) (by decide) (q := 140) rfl ?_
        intro T488 h489 X490 e491 W492 A493
        have f494 : Ary Z h489 b475 .int 1 (fun i => Value.int (List.getD [v378] i 0)) := Ary.eqv A493 (fun i _ => setD Value.int [(0 : Int32)] 0 v378 0 (Nat.le_of_ble_eq_true rfl) i)
        have f495 := Ary.other f484 W492 ne481
        have N496 := Fr.snoc X490 N405 ge482
        have K497 := Keep.wr K485 W492 (Or.inr bn483)
        have Z498 := Nat.le_trans Z486 (Nat.le_of_eq (Wr.size W492).symm)
        refine k_astore K X490 at_140 rfl (Ls' := #[.val (.int p0), .val (.int p1), .val (.int p2), .val (.int p3), .val (.long q4), .second, .val (.long q5), .second, .val (.int v371), .val (.int v372), .val (.int d374), .val (.int v376), .val (.int v377), .val (.int v378), .val (.int v379), .val (.long d381), .second, .val (.long v383), .second, .val (.long v384), .second, .val (.ref b387), .val (.ref b475), .unset, .unset, .unset, .unset]) rfl (q := 142) rfl ?_
        refine k_new K X490 e491 at_142 (wd hw 3 rfl) (wd hw 4 rfl) (wd hw 5 rfl) (by decide) (by decide) (q := 145) rfl ?_
        intro T499 h500 b501 X502 e503 g504 E505 A506 D507
        have ne508 : b387 ≠ b501 := Nat.ne_of_lt (Nat.lt_of_lt_of_eq (f495).lt g504.symm)
        have ne509 : b475 ≠ b501 := Nat.ne_of_lt (Nat.lt_of_lt_of_eq (f494).lt g504.symm)
        have ge510 : n0 ≤ b501 := Nat.le_trans Z498 (Nat.le_of_eq g504.symm)
        have bn511 : h0.size ≤ b501 := Nat.le_trans K497.1 (Nat.le_of_eq g504.symm)
        have f512 := Ary.ext f495 E505
        have f513 := Ary.ext f494 E505
        have K514 := Keep.ext K497 E505
        have Z515 := Nat.le_trans Z498 E505.1
        have f516 : Fld Z h500 b501 "com/example/dayflower/dayflower/filter/FilterSlab" "lanes" "I" (.int (0 : Int32)) := D507 (Or.inr (wd hw 20 rfl)) (ty := .int) (by decide)
        have f517 : Fld Z h500 b501 "com/example/dayflower/dayflower/filter/FilterSlab" "laneShift" "I" (.int (0 : Int32)) := D507 (Or.inr (wd hw 25 rfl)) (ty := .int) (by decide)
        have f518 : Fld Z h500 b501 "com/example/dayflower/dayflower/filter/FilterSlab" "words" "[J" .null := D507 (Or.inr (wd hw 33 rfl)) (ty := (.array .long)) (by decide)
        refine k_dup K X502 at_145 rfl (q := 146) rfl ?_
        refine k_iload K X502 at_146 rfl (q := 148) rfl ?_
        refine k_iload K X502 at_148 rfl (q := 150) rfl ?_
        refine k_special K X502 e503 at_150 rfl (wd hw 6 rfl) (wd hw 7 rfl) (wd hw 5 rfl) (wd hw 8 rfl) (by decide) (rm1 l Z az hw [] b501 v376 v372 (0 : Int32) (0 : Int32) .null h500 n0 Z515 A506 f516 ge510 f517 f518 (own_ob_1 p0 p1 p2 p3 q4 q5 v371 v372 hv_v371 hv_v372) (own_ob_2 p0 p1 p2 p3 q4 q5 v371 v372 hv_v371 hv_v372) (own_ob_3 p0 p1 p2 p3 q4 q5 v371 v372 hv_v371 hv_v372) (own_ob_4 p0 p1 p2 p3 q4 q5 v371 v372 v376 hv_v371 hv_v372 hv_v376)) (W := 1) (by decide) (by decide) (by decide) (by decide) rfl pd_2 (argsL := [(.int v376), (.int v372)]) (rest := [(.ref b501)]) rfl rfl rfl (Nat.le_of_eq rfl) (q := 153) rfl ?_
        rintro _ T519 L520 X521 ⟨b528, ge529, bn530, rfl, N522, K523, f525, f526, f527, f531⟩
        have ne532 : b387 ≠ b528 := Nat.ne_of_lt (Nat.lt_of_lt_of_le (f512).lt bn530)
        have ne533 : b475 ≠ b528 := Nat.ne_of_lt (Nat.lt_of_lt_of_le (f513).lt bn530)
        have ne534 : b501 ≠ b528 := Nat.ne_of_lt (Nat.lt_of_lt_of_le (A506).lt bn530)
        have bn535 : h0.size ≤ b528 := Nat.le_trans K514.1 bn530
        have f536 := Ary.keep f512 K523 (ninS ne508 nin0)
        have f537 := Ary.keep f513 K523 (ninS ne509 nin0)
        have f538 := Exa.keep A506 K523
        have N539 := Fr.app N496 N522
        have K540 := Keep.trans K514 K523 (allS (Or.inr bn511) all0)
        have Z541 := Nat.le_trans Z515 K523.1
        obtain ⟨v542, hv_v542⟩ : ∃ z : Int32, (F_numberOfTrailingZeros v372) = z := ⟨_, rfl⟩
        rw [hv_v542] at f525
        refine k_astore K X521 at_153 rfl (Ls' := #[.val (.int p0), .val (.int p1), .val (.int p2), .val (.int p3), .val (.long q4), .second, .val (.long q5), .second, .val (.int v371), .val (.int v372), .val (.int d374), .val (.int v376), .val (.int v377), .val (.int v378), .val (.int v379), .val (.long d381), .second, .val (.long v383), .second, .val (.long v384), .second, .val (.ref b387), .val (.ref b475), .val (.ref b501), .unset, .unset, .unset]) rfl (q := 155) rfl ?_
        refine k_aload K X521 at_155 rfl rfl (q := 157) rfl ?_
        refine k_aload K X521 at_157 rfl rfl (q := 159) rfl ?_
        refine k_lload K X521 at_159 rfl (q := 161) rfl ?_
        refine k_virtual K X521 rfl at_161 (wd hw 34 rfl) (wd hw 35 rfl) (wd hw 37 rfl) (wd hw 36 rfl) (wd hw 5 rfl) (wd hw 38 rfl) (by decide) f538 (rm61 l Z az hw [] b501 b387 v383 v377 v542 b528 (Int32.toNatClampNeg (Int64.toInt32 ((F_bytes v376 v372) / (8 : Int64)))) (fun _ => (0 : Int64)) T519.heap n0 Z541 f536 f525 f527 f531 ge529 ne532 ne534 (own_ob_5 p0 p1 p2 p3 q4 q5 v371 v372 v376 v377 v542 hv_v371 hv_v372 hv_v376 hv_v377 hv_v542)) (W := 0) (by decide) (by decide) (by decide) (by decide) rfl pd_3 (argsL := [(.ref b387), (.long v383)]) (rest := []) rfl rfl rfl (Nat.le_of_eq rfl) (q := 164) rfl ?_
        rintro _ T543 L544 X545 ⟨rfl, N546, K547, f549⟩
        have f550 := Ary.keep f536 K547 (ninS ne532 nin0)
        have f551 := Ary.keep f537 K547 (ninS ne533 nin0)
        have f552 := Exa.keep f538 K547
        have f553 := Fld.keep f525 K547 (ninS ne534 nin0)
        have f554 := Fld.keep f526 K547 (ninS ne534 nin0)
        have f555 := Fld.keep f527 K547 (ninS ne534 nin0)
        have N556 := Fr.app N539 N546
        have K557 := Keep.trans K540 K547 (allS (Or.inr bn535) all0)
        have Z558 := Nat.le_trans Z541 K547.1
        refine k_aload K X545 at_164 rfl rfl (q := 166) rfl ?_
        refine k_aload K X545 at_166 rfl rfl (q := 168) rfl ?_
        refine k_lload K X545 at_168 rfl (q := 170) rfl ?_
        refine k_virtual K X545 rfl at_170 (wd hw 34 rfl) (wd hw 35 rfl) (wd hw 37 rfl) (wd hw 36 rfl) (wd hw 5 rfl) (wd hw 38 rfl) (by decide) f552 (rm61 l Z az hw [] b501 b475 v384 v378 v542 b528 (Int32.toNatClampNeg (Int64.toInt32 ((F_bytes v376 v372) / (8 : Int64)))) (F_add1_w_a0_words_g v383 v377 v542 (Int32.toNatClampNeg (Int64.toInt32 ((F_bytes v376 v372) / (8 : Int64)))) (fun _ => (0 : Int64))) T543.heap n0 Z558 f551 f553 f555 f549 ge529 ne533 ne534 (own_ob_6 p0 p1 p2 p3 q4 q5 v371 v372 v376 v378 v542 hv_v371 hv_v372 hv_v376 hv_v378 hv_v542)) (W := 0) (by decide) (by decide) (by decide) (by decide) rfl pd_3 (argsL := [(.ref b475), (.long v384)]) (rest := []) rfl rfl rfl (Nat.le_of_eq rfl) (q := 173) rfl ?_
        rintro _ T559 L560 X561 ⟨rfl, N562, K563, f565⟩
        have f566 := Ary.keep f551 K563 (ninS ne533 nin0)
        have f567 := Exa.keep f552 K563
        have f568 := Fld.keep f553 K563 (ninS ne534 nin0)
        have f569 := Fld.keep f554 K563 (ninS ne534 nin0)
        have f570 := Fld.keep f555 K563 (ninS ne534 nin0)
        have N571 := Fr.app N556 N562
        have K572 := Keep.trans K557 K563 (allS (Or.inr bn535) all0)
        have Z573 := Nat.le_trans Z558 K563.1
        refine k_bipush K X561 at_173 (v := (64 : Int32)) rfl (q := 175) rfl ?_
        refine k_iload K X561 at_175 rfl (q := 177) rfl ?_
        refine k_ishr K X561 at_177 (q := 178) rfl ?_
        obtain ⟨v574, hv_v574⟩ : ∃ z : Int32, (shrI (64 : Int32) v371) = z := ⟨_, rfl⟩
        refine k_istore K X561 at_178 hv_v574 (Ls' := #[.val (.int p0), .val (.int p1), .val (.int p2), .val (.int p3), .val (.long q4), .second, .val (.long q5), .second, .val (.int v371), .val (.int v372), .val (.int d374), .val (.int v376), .val (.int v377), .val (.int v378), .val (.int v379), .val (.long d381), .second, .val (.long v383), .second, .val (.long v384), .second, .val (.ref b387), .val (.ref b475), .val (.ref b501), .val (.int v574), .unset, .unset]) rfl (q := 180) rfl ?_
        refine k_iload K X561 at_180 rfl (q := 182) rfl ?_
        refine k_iload K X561 at_182 rfl (q := 184) rfl ?_
        refine k_iload K X561 at_184 rfl (q := 186) rfl ?_
        refine k_iload K X561 at_186 rfl (q := 188) rfl ?_
        refine k_lload K X561 at_188 rfl (q := 190) rfl ?_
        refine k_staticP K X561 rfl at_190 (wd hw 39 rfl) (wd hw 40 rfl) (wd hw 41 rfl) (wd hw 42 rfl) (by decide) (rm7 l Z az hw [] v377 v379 v574 v371 v383 T559.heap (own_ob_7 p0 p1 p2 p3 q4 q5 v371 v574 hv_v371 hv_v574)) (W := 0) (by decide) (by decide) (by decide) (by decide) rfl pd_4 (argsL := [(.int v377), (.int v379), (.int v574), (.int v371), (.long v383)]) (rest := []) rfl rfl rfl (Nat.le_of_eq rfl) (q := 193) rfl ?_
        intro T575 X576 e577
        refine k_iload K X576 at_193 rfl (q := 195) rfl ?_
        refine k_iload K X576 at_195 rfl (q := 197) rfl ?_
        refine k_iload K X576 at_197 rfl (q := 199) rfl ?_
        refine k_iload K X576 at_199 rfl (q := 201) rfl ?_
        refine k_lload K X576 at_201 rfl (q := 203) rfl ?_
        refine k_staticP K X576 e577 at_203 (wd hw 39 rfl) (wd hw 40 rfl) (wd hw 41 rfl) (wd hw 42 rfl) (by decide) (rm7 l Z az hw [] v378 v379 v574 v371 v384 T559.heap (own_ob_7 p0 p1 p2 p3 q4 q5 v371 v574 hv_v371 hv_v574)) (W := 2) (by decide) (by decide) (by decide) (by decide) rfl pd_4 (argsL := [(.int v378), (.int v379), (.int v574), (.int v371), (.long v384)]) (rest := [(.long (F_at v377 v379 v574 v371 v383))]) rfl rfl rfl (Nat.le_of_eq rfl) (q := 206) rfl ?_
        intro T578 X579 e580
        refine k_lor K X579 at_206 (q := 207) rfl ?_
        obtain ⟨v581, hv_v581⟩ : ∃ z : Int64, ((F_at v377 v379 v574 v371 v383) ||| (F_at v378 v379 v574 v371 v384)) = z := ⟨_, rfl⟩
        refine k_lstore K X579 at_207 hv_v581 (Ls' := #[.val (.int p0), .val (.int p1), .val (.int p2), .val (.int p3), .val (.long q4), .second, .val (.long q5), .second, .val (.int v371), .val (.int v372), .val (.int d374), .val (.int v376), .val (.int v377), .val (.int v378), .val (.int v379), .val (.long d381), .second, .val (.long v383), .second, .val (.long v384), .second, .val (.ref b387), .val (.ref b475), .val (.ref b501), .val (.int v574), .val (.long v581), .second]) rfl (q := 209) rfl ?_
        refine k_iload K X579 at_209 rfl (q := 211) rfl ?_
        refine k_if_eq_y K X579 at_211 hc472 (by decide) (q := 232) rfl ?_
        refine k_aload K X579 at_232 rfl rfl (q := 234) rfl ?_
        refine k_iload K X579 at_234 rfl (q := 236) rfl ?_
        refine k_virtualP K X579 e580 at_236 (wd hw 43 rfl) (wd hw 44 rfl) (wd hw 46 rfl) (wd hw 45 rfl) (wd hw 5 rfl) (wd hw 47 rfl) (by decide) f567 (rm8 l Z az hw [] b501 v379 b528 v542 (Int32.toNatClampNeg (Int64.toInt32 ((F_bytes v376 v372) / (8 : Int64)))) (F_add1_w_a0_words_g v384 v378 v542 (Int32.toNatClampNeg (Int64.toInt32 ((F_bytes v376 v372) / (8 : Int64)))) (F_add1_w_a0_words_g v383 v377 v542 (Int32.toNatClampNeg (Int64.toInt32 ((F_bytes v376 v372) / (8 : Int64)))) (fun _ => (0 : Int64)))) T559.heap f570 f568 f565 (own_ob_8 p0 p1 p2 p3 q4 q5 v371 v372 v376 v379 v542 hv_v371 hv_v372 hv_v376 hv_v379 hv_v542)) (W := 0) (by decide) (by decide) (by decide) (by decide) rfl pd_5 (argsL := [(.int v379)]) (rest := []) rfl rfl rfl (Nat.le_of_eq rfl) (q := 239) rfl ?_
        intro T582 X583 e584
        refine k_lload K X583 at_239 rfl (q := 241) rfl ?_
        refine k_lcmp K X583 at_241 (q := 242) rfl ?_
        have J588 : ∀ (d587 : Int32), (M0_586 v379 v542 v376 v372 v384 v378 v383 v377 v581) = d587 → Run p e below s kc kn Q T582 (mkF m 250 #[.val (.int p0), .val (.int p1), .val (.int p2), .val (.int p3), .val (.long q4), .second, .val (.long q5), .second, .val (.int v371), .val (.int v372), .val (.int d374), .val (.int v376), .val (.int v377), .val (.int v378), .val (.int v379), .val (.long d381), .second, .val (.long v383), .second, .val (.long v384), .second, .val (.ref b387), .val (.ref b475), .val (.ref b501), .val (.int v574), .val (.long v581), .second] [(.int d587)]) := by
          intro d587 hv_d587
          exact k_retz K X583 e584 at_250 (Nat.le_trans (by decide) hkc) (Nat.le_trans (by decide) hkn) (hQ _ _ _ ⟨(by show some (Value.int (nar .boolean d587)) = some (Value.int (F_law p0 p1 p2 p3 q4 q5)); first | (simp only [F_law, hv_v371, hv_v372, hv_d374, hv_v376, hv_v377, hv_v378, hv_v379, hv_d381, hv_v383, hv_v384, hv_v542, hv_v574, hv_v581, hv_d587, if_pos hc472]; done) | (subst hv_v371; subst hv_v372; subst hv_d374; subst hv_v376; subst hv_v377; subst hv_v378; subst hv_v379; subst hv_d381; subst hv_v383; subst hv_v384; subst hv_v542; subst hv_v574; subst hv_v581; subst hv_d587; simp only [F_law, if_pos hc472])), N571⟩)
        refine k_lcmp_ne K X583 at_242 (by decide) (q := 249) rfl (q' := 245) rfl ?_ ?_
        · intro hc589
          refine k_iconst K X583 at_249 (v := (0 : Int32)) rfl (q := 250) rfl ?_
          exact J588 _ (by first | (simp only [M0_586, if_neg hc589]; done) | rfl)
        · intro hc589
          refine k_iconst K X583 at_245 (v := (1 : Int32)) rfl (q := 246) rfl ?_
          refine k_goto K X583 at_246 (by decide) (q := 250) rfl ?_
          exact J588 _ (by first | (simp only [M0_586, if_pos hc589]; done) | rfl)
      · intro hc472
        refine k_iconst K X400 at_116 (v := (2 : Int32)) rfl (q := 117) rfl ?_
        refine k_newarray K X400 e401 at_117 (ty := .int) rfl (wd hw 2 rfl) (n := 2) (cap := 2) (by decide) (by decide) (by decide) (by decide) (by decide) (q := 119) rfl ?_
        intro T590 h591 b592 X593 e594 g595 E596 A597 
        have ne598 : b387 ≠ b592 := Nat.ne_of_lt (Nat.lt_of_lt_of_eq (f404).lt g595.symm)
        have ge599 : n0 ≤ b592 := Nat.le_trans Z407 (Nat.le_of_eq g595.symm)
        have bn600 : h0.size ≤ b592 := Nat.le_trans K406.1 (Nat.le_of_eq g595.symm)
        have f601 := Ary.ext f404 E596
        have K602 := Keep.ext K406 E596
        have Z603 := Nat.le_trans Z407 E596.1
        have f604 : Ary Z h591 b592 .int 2 (fun i => Value.int (List.getD [(0 : Int32), (0 : Int32)] i 0)) := Ary.eqv A597 (by intro i hi; match i, hi with | 0, _ => rfl | 1, _ => rfl | (k + 2), hi => exact absurd hi (by omega))
        refine k_dup K X593 at_119 rfl (q := 120) rfl ?_
        refine k_iconst K X593 at_120 (v := (0 : Int32)) rfl (q := 121) rfl ?_
        refine k_iload K X593 at_121 rfl (q := 123) rfl ?_
        refine k_iastore K X593 e594 at_123 f604 (i := 0) (by decide) (by decide) (q := 124) rfl ?_
        intro T605 h606 X607 e608 W609 A610
        have f611 : Ary Z h606 b592 .int 2 (fun i => Value.int (List.getD [v377, (0 : Int32)] i 0)) := Ary.eqv A610 (fun i _ => setD Value.int [(0 : Int32), (0 : Int32)] 0 v377 0 (Nat.le_of_ble_eq_true rfl) i)
        have f612 := Ary.other f601 W609 ne598
        have N613 := Fr.snoc X607 N405 ge599
        have K614 := Keep.wr K602 W609 (Or.inr bn600)
        have Z615 := Nat.le_trans Z603 (Nat.le_of_eq (Wr.size W609).symm)
        refine k_dup K X607 at_124 rfl (q := 125) rfl ?_
        refine k_iconst K X607 at_125 (v := (1 : Int32)) rfl (q := 126) rfl ?_
        refine k_iload K X607 at_126 rfl (q := 128) rfl ?_
        refine k_iastore K X607 e608 at_128 f611 (i := 1) (by decide) (by decide) (q := 129) rfl ?_
        intro T616 h617 X618 e619 W620 A621
        have f622 : Ary Z h617 b592 .int 2 (fun i => Value.int (List.getD [v377, v378] i 0)) := Ary.eqv A621 (fun i _ => setD Value.int [v377, (0 : Int32)] 1 v378 0 (Nat.le_of_ble_eq_true rfl) i)
        have f623 := Ary.other f612 W620 ne598
        have N624 := Fr.snoc X618 N613 ge599
        have K625 := Keep.wr K614 W620 (Or.inr bn600)
        have Z626 := Nat.le_trans Z615 (Nat.le_of_eq (Wr.size W620).symm)
        refine k_goto K X618 at_129 (by decide) (q := 140) rfl ?_
        refine k_astore K X618 at_140 rfl (Ls' := #[.val (.int p0), .val (.int p1), .val (.int p2), .val (.int p3), .val (.long q4), .second, .val (.long q5), .second, .val (.int v371), .val (.int v372), .val (.int d374), .val (.int v376), .val (.int v377), .val (.int v378), .val (.int v379), .val (.long d381), .second, .val (.long v383), .second, .val (.long v384), .second, .val (.ref b387), .val (.ref b592), .unset, .unset, .unset, .unset]) rfl (q := 142) rfl ?_
        refine k_new K X618 e619 at_142 (wd hw 3 rfl) (wd hw 4 rfl) (wd hw 5 rfl) (by decide) (by decide) (q := 145) rfl ?_
        intro T627 h628 b629 X630 e631 g632 E633 A634 D635
        have ne636 : b387 ≠ b629 := Nat.ne_of_lt (Nat.lt_of_lt_of_eq (f623).lt g632.symm)
        have ne637 : b592 ≠ b629 := Nat.ne_of_lt (Nat.lt_of_lt_of_eq (f622).lt g632.symm)
        have ge638 : n0 ≤ b629 := Nat.le_trans Z626 (Nat.le_of_eq g632.symm)
        have bn639 : h0.size ≤ b629 := Nat.le_trans K625.1 (Nat.le_of_eq g632.symm)
        have f640 := Ary.ext f623 E633
        have f641 := Ary.ext f622 E633
        have K642 := Keep.ext K625 E633
        have Z643 := Nat.le_trans Z626 E633.1
        have f644 : Fld Z h628 b629 "com/example/dayflower/dayflower/filter/FilterSlab" "lanes" "I" (.int (0 : Int32)) := D635 (Or.inr (wd hw 20 rfl)) (ty := .int) (by decide)
        have f645 : Fld Z h628 b629 "com/example/dayflower/dayflower/filter/FilterSlab" "laneShift" "I" (.int (0 : Int32)) := D635 (Or.inr (wd hw 25 rfl)) (ty := .int) (by decide)
        have f646 : Fld Z h628 b629 "com/example/dayflower/dayflower/filter/FilterSlab" "words" "[J" .null := D635 (Or.inr (wd hw 33 rfl)) (ty := (.array .long)) (by decide)
        refine k_dup K X630 at_145 rfl (q := 146) rfl ?_
        refine k_iload K X630 at_146 rfl (q := 148) rfl ?_
        refine k_iload K X630 at_148 rfl (q := 150) rfl ?_
        refine k_special K X630 e631 at_150 rfl (wd hw 6 rfl) (wd hw 7 rfl) (wd hw 5 rfl) (wd hw 8 rfl) (by decide) (rm1 l Z az hw [] b629 v376 v372 (0 : Int32) (0 : Int32) .null h628 n0 Z643 A634 f644 ge638 f645 f646 (own_ob_1 p0 p1 p2 p3 q4 q5 v371 v372 hv_v371 hv_v372) (own_ob_2 p0 p1 p2 p3 q4 q5 v371 v372 hv_v371 hv_v372) (own_ob_3 p0 p1 p2 p3 q4 q5 v371 v372 hv_v371 hv_v372) (own_ob_4 p0 p1 p2 p3 q4 q5 v371 v372 v376 hv_v371 hv_v372 hv_v376)) (W := 1) (by decide) (by decide) (by decide) (by decide) rfl pd_2 (argsL := [(.int v376), (.int v372)]) (rest := [(.ref b629)]) rfl rfl rfl (Nat.le_of_eq rfl) (q := 153) rfl ?_
        rintro _ T647 L648 X649 ⟨b656, ge657, bn658, rfl, N650, K651, f653, f654, f655, f659⟩
        have ne660 : b387 ≠ b656 := Nat.ne_of_lt (Nat.lt_of_lt_of_le (f640).lt bn658)
        have ne661 : b592 ≠ b656 := Nat.ne_of_lt (Nat.lt_of_lt_of_le (f641).lt bn658)
        have ne662 : b629 ≠ b656 := Nat.ne_of_lt (Nat.lt_of_lt_of_le (A634).lt bn658)
        have bn663 : h0.size ≤ b656 := Nat.le_trans K642.1 bn658
        have f664 := Ary.keep f640 K651 (ninS ne636 nin0)
        have f665 := Ary.keep f641 K651 (ninS ne637 nin0)
        have f666 := Exa.keep A634 K651
        have N667 := Fr.app N624 N650
        have K668 := Keep.trans K642 K651 (allS (Or.inr bn639) all0)
        have Z669 := Nat.le_trans Z643 K651.1
        obtain ⟨v670, hv_v670⟩ : ∃ z : Int32, (F_numberOfTrailingZeros v372) = z := ⟨_, rfl⟩
        rw [hv_v670] at f653
        refine k_astore K X649 at_153 rfl (Ls' := #[.val (.int p0), .val (.int p1), .val (.int p2), .val (.int p3), .val (.long q4), .second, .val (.long q5), .second, .val (.int v371), .val (.int v372), .val (.int d374), .val (.int v376), .val (.int v377), .val (.int v378), .val (.int v379), .val (.long d381), .second, .val (.long v383), .second, .val (.long v384), .second, .val (.ref b387), .val (.ref b592), .val (.ref b629), .unset, .unset, .unset]) rfl (q := 155) rfl ?_
        refine k_aload K X649 at_155 rfl rfl (q := 157) rfl ?_
        refine k_aload K X649 at_157 rfl rfl (q := 159) rfl ?_
        refine k_lload K X649 at_159 rfl (q := 161) rfl ?_
        refine k_virtual K X649 rfl at_161 (wd hw 34 rfl) (wd hw 35 rfl) (wd hw 37 rfl) (wd hw 36 rfl) (wd hw 5 rfl) (wd hw 38 rfl) (by decide) f666 (rm61 l Z az hw [] b629 b387 v383 v377 v670 b656 (Int32.toNatClampNeg (Int64.toInt32 ((F_bytes v376 v372) / (8 : Int64)))) (fun _ => (0 : Int64)) T647.heap n0 Z669 f664 f653 f655 f659 ge657 ne660 ne662 (own_ob_9 p0 p1 p2 p3 q4 q5 v371 v372 v376 v377 v670 hv_v371 hv_v372 hv_v376 hv_v377 hv_v670)) (W := 0) (by decide) (by decide) (by decide) (by decide) rfl pd_3 (argsL := [(.ref b387), (.long v383)]) (rest := []) rfl rfl rfl (Nat.le_of_eq rfl) (q := 164) rfl ?_
        rintro _ T671 L672 X673 ⟨rfl, N674, K675, f677⟩
        have f678 := Ary.keep f664 K675 (ninS ne660 nin0)
        have f679 := Ary.keep f665 K675 (ninS ne661 nin0)
        have f680 := Exa.keep f666 K675
        have f681 := Fld.keep f653 K675 (ninS ne662 nin0)
        have f682 := Fld.keep f654 K675 (ninS ne662 nin0)
        have f683 := Fld.keep f655 K675 (ninS ne662 nin0)
        have N684 := Fr.app N667 N674
        have K685 := Keep.trans K668 K675 (allS (Or.inr bn663) all0)
        have Z686 := Nat.le_trans Z669 K675.1
        refine k_aload K X673 at_164 rfl rfl (q := 166) rfl ?_
        refine k_aload K X673 at_166 rfl rfl (q := 168) rfl ?_
        refine k_lload K X673 at_168 rfl (q := 170) rfl ?_
        refine k_virtual K X673 rfl at_170 (wd hw 34 rfl) (wd hw 35 rfl) (wd hw 37 rfl) (wd hw 36 rfl) (wd hw 5 rfl) (wd hw 38 rfl) (by decide) f680 (rm62 l Z az hw [] b629 b592 v384 v377 v378 v670 b656 (Int32.toNatClampNeg (Int64.toInt32 ((F_bytes v376 v372) / (8 : Int64)))) (F_add1_w_a0_words_g v383 v377 v670 (Int32.toNatClampNeg (Int64.toInt32 ((F_bytes v376 v372) / (8 : Int64)))) (fun _ => (0 : Int64))) T671.heap n0 Z686 f679 f681 f683 f677 ge657 ne661 ne662 (own_ob_10 p0 p1 p2 p3 q4 q5 v371 v372 v376 v377 v670 hv_v371 hv_v372 hv_v376 hv_v377 hv_v670) (own_ob_11 p0 p1 p2 p3 q4 q5 v371 v372 v376 v378 v670 hv_v371 hv_v372 hv_v376 hv_v378 hv_v670)) (W := 0) (by decide) (by decide) (by decide) (by decide) rfl pd_3 (argsL := [(.ref b592), (.long v384)]) (rest := []) rfl rfl rfl (Nat.le_of_eq rfl) (q := 173) rfl ?_
        rintro _ T687 L688 X689 ⟨rfl, N690, K691, f693⟩
        have f694 := Ary.keep f679 K691 (ninS ne661 nin0)
        have f695 := Exa.keep f680 K691
        have f696 := Fld.keep f681 K691 (ninS ne662 nin0)
        have f697 := Fld.keep f682 K691 (ninS ne662 nin0)
        have f698 := Fld.keep f683 K691 (ninS ne662 nin0)
        have N699 := Fr.app N684 N690
        have K700 := Keep.trans K685 K691 (allS (Or.inr bn663) all0)
        have Z701 := Nat.le_trans Z686 K691.1
        refine k_bipush K X689 at_173 (v := (64 : Int32)) rfl (q := 175) rfl ?_
        refine k_iload K X689 at_175 rfl (q := 177) rfl ?_
        refine k_ishr K X689 at_177 (q := 178) rfl ?_
        obtain ⟨v702, hv_v702⟩ : ∃ z : Int32, (shrI (64 : Int32) v371) = z := ⟨_, rfl⟩
        refine k_istore K X689 at_178 hv_v702 (Ls' := #[.val (.int p0), .val (.int p1), .val (.int p2), .val (.int p3), .val (.long q4), .second, .val (.long q5), .second, .val (.int v371), .val (.int v372), .val (.int d374), .val (.int v376), .val (.int v377), .val (.int v378), .val (.int v379), .val (.long d381), .second, .val (.long v383), .second, .val (.long v384), .second, .val (.ref b387), .val (.ref b592), .val (.ref b629), .val (.int v702), .unset, .unset]) rfl (q := 180) rfl ?_
        refine k_iload K X689 at_180 rfl (q := 182) rfl ?_
        refine k_iload K X689 at_182 rfl (q := 184) rfl ?_
        refine k_iload K X689 at_184 rfl (q := 186) rfl ?_
        refine k_iload K X689 at_186 rfl (q := 188) rfl ?_
        refine k_lload K X689 at_188 rfl (q := 190) rfl ?_
        refine k_staticP K X689 rfl at_190 (wd hw 39 rfl) (wd hw 40 rfl) (wd hw 41 rfl) (wd hw 42 rfl) (by decide) (rm7 l Z az hw [] v377 v379 v702 v371 v383 T687.heap (own_ob_12 p0 p1 p2 p3 q4 q5 v371 v702 hv_v371 hv_v702)) (W := 0) (by decide) (by decide) (by decide) (by decide) rfl pd_4 (argsL := [(.int v377), (.int v379), (.int v702), (.int v371), (.long v383)]) (rest := []) rfl rfl rfl (Nat.le_of_eq rfl) (q := 193) rfl ?_
        intro T703 X704 e705
        refine k_iload K X704 at_193 rfl (q := 195) rfl ?_
        refine k_iload K X704 at_195 rfl (q := 197) rfl ?_
        refine k_iload K X704 at_197 rfl (q := 199) rfl ?_
        refine k_iload K X704 at_199 rfl (q := 201) rfl ?_
        refine k_lload K X704 at_201 rfl (q := 203) rfl ?_
        refine k_staticP K X704 e705 at_203 (wd hw 39 rfl) (wd hw 40 rfl) (wd hw 41 rfl) (wd hw 42 rfl) (by decide) (rm7 l Z az hw [] v378 v379 v702 v371 v384 T687.heap (own_ob_12 p0 p1 p2 p3 q4 q5 v371 v702 hv_v371 hv_v702)) (W := 2) (by decide) (by decide) (by decide) (by decide) rfl pd_4 (argsL := [(.int v378), (.int v379), (.int v702), (.int v371), (.long v384)]) (rest := [(.long (F_at v377 v379 v702 v371 v383))]) rfl rfl rfl (Nat.le_of_eq rfl) (q := 206) rfl ?_
        intro T706 X707 e708
        refine k_lor K X707 at_206 (q := 207) rfl ?_
        obtain ⟨v709, hv_v709⟩ : ∃ z : Int64, ((F_at v377 v379 v702 v371 v383) ||| (F_at v378 v379 v702 v371 v384)) = z := ⟨_, rfl⟩
        refine k_lstore K X707 at_207 hv_v709 (Ls' := #[.val (.int p0), .val (.int p1), .val (.int p2), .val (.int p3), .val (.long q4), .second, .val (.long q5), .second, .val (.int v371), .val (.int v372), .val (.int d374), .val (.int v376), .val (.int v377), .val (.int v378), .val (.int v379), .val (.long d381), .second, .val (.long v383), .second, .val (.long v384), .second, .val (.ref b387), .val (.ref b592), .val (.ref b629), .val (.int v702), .val (.long v709), .second]) rfl (q := 209) rfl ?_
        refine k_iload K X707 at_209 rfl (q := 211) rfl ?_
        refine k_if_eq_n K X707 at_211 hc472 (q := 214) rfl ?_
        refine k_lload K X707 at_214 rfl (q := 216) rfl ?_
        refine k_iload K X707 at_216 rfl (q := 218) rfl ?_
        refine k_iload K X707 at_218 rfl (q := 220) rfl ?_
        refine k_iload K X707 at_220 rfl (q := 222) rfl ?_
        refine k_iload K X707 at_222 rfl (q := 224) rfl ?_
        refine k_lload K X707 at_224 rfl (q := 226) rfl ?_
        refine k_staticP K X707 e708 at_226 (wd hw 39 rfl) (wd hw 40 rfl) (wd hw 41 rfl) (wd hw 42 rfl) (by decide) (rm7 l Z az hw [] v377 v379 v702 v371 v384 T687.heap (own_ob_12 p0 p1 p2 p3 q4 q5 v371 v702 hv_v371 hv_v702)) (W := 2) (by decide) (by decide) (by decide) (by decide) rfl pd_4 (argsL := [(.int v377), (.int v379), (.int v702), (.int v371), (.long v384)]) (rest := [(.long v709)]) rfl rfl rfl (Nat.le_of_eq rfl) (q := 229) rfl ?_
        intro T710 X711 e712
        refine k_lor K X711 at_229 (q := 230) rfl ?_
        obtain ⟨v713, hv_v713⟩ : ∃ z : Int64, (v709 ||| (F_at v377 v379 v702 v371 v384)) = z := ⟨_, rfl⟩
        refine k_lstore K X711 at_230 hv_v713 (Ls' := #[.val (.int p0), .val (.int p1), .val (.int p2), .val (.int p3), .val (.long q4), .second, .val (.long q5), .second, .val (.int v371), .val (.int v372), .val (.int d374), .val (.int v376), .val (.int v377), .val (.int v378), .val (.int v379), .val (.long d381), .second, .val (.long v383), .second, .val (.long v384), .second, .val (.ref b387), .val (.ref b592), .val (.ref b629), .val (.int v702), .val (.long v713), .second]) rfl (q := 232) rfl ?_
        refine k_aload K X711 at_232 rfl rfl (q := 234) rfl ?_
        refine k_iload K X711 at_234 rfl (q := 236) rfl ?_
        refine k_virtualP K X711 e712 at_236 (wd hw 43 rfl) (wd hw 44 rfl) (wd hw 46 rfl) (wd hw 45 rfl) (wd hw 5 rfl) (wd hw 47 rfl) (by decide) f695 (rm8 l Z az hw [] b629 v379 b656 v670 (Int32.toNatClampNeg (Int64.toInt32 ((F_bytes v376 v372) / (8 : Int64)))) (F_add2_w_a0_words_g v384 v377 v378 v670 (Int32.toNatClampNeg (Int64.toInt32 ((F_bytes v376 v372) / (8 : Int64)))) (F_add1_w_a0_words_g v383 v377 v670 (Int32.toNatClampNeg (Int64.toInt32 ((F_bytes v376 v372) / (8 : Int64)))) (fun _ => (0 : Int64)))) T687.heap f698 f696 f693 (own_ob_13 p0 p1 p2 p3 q4 q5 v371 v372 v376 v379 v670 hv_v371 hv_v372 hv_v376 hv_v379 hv_v670)) (W := 0) (by decide) (by decide) (by decide) (by decide) rfl pd_5 (argsL := [(.int v379)]) (rest := []) rfl rfl rfl (Nat.le_of_eq rfl) (q := 239) rfl ?_
        intro T714 X715 e716
        refine k_lload K X715 at_239 rfl (q := 241) rfl ?_
        refine k_lcmp K X715 at_241 (q := 242) rfl ?_
        have J720 : ∀ (d719 : Int32), (M0_718 v379 v670 v376 v372 v384 v377 v378 v383 v713) = d719 → Run p e below s kc kn Q T714 (mkF m 250 #[.val (.int p0), .val (.int p1), .val (.int p2), .val (.int p3), .val (.long q4), .second, .val (.long q5), .second, .val (.int v371), .val (.int v372), .val (.int d374), .val (.int v376), .val (.int v377), .val (.int v378), .val (.int v379), .val (.long d381), .second, .val (.long v383), .second, .val (.long v384), .second, .val (.ref b387), .val (.ref b592), .val (.ref b629), .val (.int v702), .val (.long v713), .second] [(.int d719)]) := by
          intro d719 hv_d719
          exact k_retz K X715 e716 at_250 (Nat.le_trans (by decide) hkc) (Nat.le_trans (by decide) hkn) (hQ _ _ _ ⟨(by show some (Value.int (nar .boolean d719)) = some (Value.int (F_law p0 p1 p2 p3 q4 q5)); first | (simp only [F_law, hv_v371, hv_v372, hv_d374, hv_v376, hv_v377, hv_v378, hv_v379, hv_d381, hv_v383, hv_v384, hv_v670, hv_v702, hv_v709, hv_v713, hv_d719, if_neg hc472]; done) | (subst hv_v371; subst hv_v372; subst hv_d374; subst hv_v376; subst hv_v377; subst hv_v378; subst hv_v379; subst hv_d381; subst hv_v383; subst hv_v384; subst hv_v670; subst hv_v702; subst hv_v709; subst hv_v713; subst hv_d719; simp only [F_law, if_neg hc472])), N699⟩)
        refine k_lcmp_ne K X715 at_242 (by decide) (q := 249) rfl (q' := 245) rfl ?_ ?_
        · intro hc721
          refine k_iconst K X715 at_249 (v := (0 : Int32)) rfl (q := 250) rfl ?_
          exact J720 _ (by first | (simp only [M0_586, M0_718, if_neg hc721]; done) | rfl)
        · intro hc721
          refine k_iconst K X715 at_245 (v := (1 : Int32)) rfl (q := 246) rfl ?_
          refine k_goto K X715 at_246 (by decide) (q := 250) rfl ?_
          exact J720 _ (by first | (simp only [M0_586, M0_718, if_pos hc721]; done) | rfl)
    refine k_icmp_ne K X0 at_70 (by decide) (q := 79) rfl (q' := 73) rfl ?_ ?_
    · intro hc722
      refine k_lconst1 K X0 at_79 (q := 80) rfl ?_
      refine k_iload K X0 at_80 rfl (q := 82) rfl ?_
      refine k_lshl K X0 at_82 (q := 83) rfl ?_
      refine k_lconst1 K X0 at_83 (q := 84) rfl ?_
      refine k_lsub K X0 at_84 (q := 85) rfl ?_
      exact J382 _ (by first | (simp only [M0_586, M0_718, if_neg hc722]; done) | rfl)
    · intro hc722
      refine k_ldc2 K X0 at_73 (wd hw 48 rfl) (q := 76) rfl ?_
      refine k_goto K X0 at_76 (by decide) (q := 85) rfl ?_
      exact J382 _ (by first | (simp only [M0_586, M0_718, if_pos hc722]; done) | rfl)
  refine k_if_eq K X0 at_20 (by decide) (q := 27) rfl (q' := 23) rfl ?_ ?_
  · intro hc723
    refine k_iconst K X0 at_27 (v := (0 : Int32)) rfl (q := 28) rfl ?_
    exact J375 _ (by first | (simp only [M0_586, M0_718, if_pos hc723]; done) | rfl)
  · intro hc723
    refine k_iconst K X0 at_23 (v := (1 : Int32)) rfl (q := 24) rfl ?_
    refine k_goto K X0 at_24 (by decide) (q := 28) rfl ?_
    exact J375 _ (by first | (simp only [M0_586, M0_718, if_neg hc723]; done) | rfl)
theorem own_at {k l W : Int32} (h : own_T k l W) (a c : Int32) (m : Int64) (h0 : 0 ≤ a.toInt) (h1 : a.toInt < 4096) (h2 : 0 ≤ c.toInt) (h3 : c.toInt < 4096) : F_at a c W k m = (if own_ix a k = own_ix c k then shlL m (Int64.toInt32 (shlL (Int32.toInt64 a) k)) else 0) := by
  simp only [F_at]
  by_cases q : a / W = c / W
  · rw [if_pos q, if_pos ((own_same h a c h0 h1 h2 h3).mpr q), own_s h m a h0 h1]
  · rw [if_neg q, if_neg fun z => q ((own_same h a c h0 h1 h2 h3).mp z)]
theorem own_wd (c k : Int32) (n : Nat) (g : Nat → Int64) : F_word c k n g = g (own_ix c k) := rfl
theorem own_ad1 (m : Int64) (a k : Int32) (n : Nat) (g : Nat → Int64) (t : Nat) : F_add1_w_a0_words_g m a k n g t = (if own_ix a k = t then g t ||| shlL m (Int64.toInt32 (shlL (Int32.toInt64 a) k)) else g t) := by
  show (if t = own_ix a k then g (own_ix a k) ||| _ else g t) = _
  by_cases q : own_ix a k = t
  · rw [if_pos q, if_pos q.symm, q]
  · rw [if_neg q, if_neg (Ne.symm q)]
theorem own_ad2 (m : Int64) (a b k : Int32) (n : Nat) (g : Nat → Int64) (t : Nat) : F_add2_w_a0_words_g m a b k n g t = F_add1_w_a0_words_g m b k n (F_add1_w_a0_words_g m a k n g) t := rfl
theorem own_orc (x y z : Int64) : x ||| (y ||| z) = x ||| (z ||| y) := by rw [Int64.or_comm y z]
theorem law_eq (p0 p1 p2 p3 : Int32) (q4 q5 : Int64) : F_law p0 p1 p2 p3 q4 q5 = 1 := by
  have T := own_T_of p0
  have B := own_bits p1
  have A := own_a p2 _ B.1
  have C := own_b p2 _ B.1
  have D := own_c p3 _ B.1
  simp only [F_law, M0_586, M0_718, own_T_ntz T]
  rw [own_at T _ _ _ A.1 (by omega) D.1 (by omega), own_at T _ _ _ C.1 (by omega) D.1 (by omega), own_at T _ _ _ A.1 (by omega) D.1 (by omega)]
  simp only [own_wd, own_ad2, own_ad1]
  generalize (p2 &&& 65535) % (1 + (p1 &&& 4095)) = a at *
  generalize (ushrI p2 16) % (1 + (p1 &&& 4095)) = b at *
  generalize (p3 &&& 2147483647) % (1 + (p1 &&& 4095)) = c at *
  generalize own_ix a ((p0 &&& 7) % 7) = ia
  generalize own_ix b ((p0 &&& 7) % 7) = ib
  generalize own_ix c ((p0 &&& 7) % 7) = ic
  have z : nar .boolean (1 : Int32) = 1 := by decide
  have z2 : ¬ ((1 : Int32) = 0) := by decide
  by_cases k1 : ia = ic
  · by_cases k2 : ib = ic
    · simp only [if_pos k1, if_pos k2, own_0or, own_or0, if_true, z, ite_self, Int64.or_assoc]
      split
      · rfl
      · rw [if_pos (own_orc _ _ _)]; rfl
    · simp only [if_pos k1, if_neg k2, own_0or, own_or0, if_true, z, ite_self, Int64.or_assoc]
  · by_cases k2 : ib = ic
    · simp only [if_neg k1, if_pos k2, own_0or, own_or0, if_true, z, ite_self, Int64.or_assoc]
    · simp only [if_neg k1, if_neg k2, own_0or, own_or0, if_true, z, ite_self, Int64.or_assoc]
set_option maxRecDepth 65536 in
set_option maxHeartbeats 40000000 in
theorem comes_1 {Post : Tables → Env → Array Value → State → Outcome → State → Prop} (hpost : ∀ tb e args s v u, (limb_1_1.after args s (.returned v) u = true ∧ limb_1_2.after args s (.returned v) u = true ∧ True) → FrameEnd s (.returned v) u (Jvm.fieldLocs frame_1_writes args s ++ Jvm.arrayLocs frame_1_arrays args s ++ Jvm.staticLocs frame_1_statics s) 16 8320 → Post tb e args s (.returned v) u) :
    ArmFor flags0 classFile x code maxLocals ret World_1 tables_1 room_1 Calls_1 rest_1 Pre_1 Post := by
  intro l hfl _ _ p e ha hc hk s m args below hf hA hF happ hP
  obtain ⟨hcalls, hrest, hpre⟩ := hP
  obtain ⟨-, -, -, hnamed, -, -, -, hat⟩ := (Spec.applies_iff hf).mp happ
  obtain ⟨hg, hn⟩ := and_e (Cond.before_iff.mp (show (Jvm.Cond.and given_1 narrow_1).before args s = true from hpre))
  obtain ⟨gc, g0⟩ := and_e hg
  obtain ⟨ga0, g1⟩ := and_e g0
  obtain ⟨ga1, g2⟩ := and_e g1
  obtain ⟨ga2, g3⟩ := and_e g2
  obtain ⟨ga3, g4⟩ := and_e g3
  obtain ⟨ga4, g5⟩ := and_e g4
  obtain ⟨w0, w1, w2, w3, w4, w5, rfl⟩ : ∃ w0 w1 w2 w3 w4 w5 : Value, args = #[w0, w1, w2, w3, w4, w5] := by
    have hs : args.size = 6 := by simpa [Cond.value, given_1] using gc
    obtain ⟨L⟩ := args
    match L, hs with
    | [w0, w1, w2, w3, w4, w5], _ => exact ⟨w0, w1, w2, w3, w4, w5, rfl⟩
  have hw := fun d (hd : d ∈ tables_1) => atoms_spec (ws := Jvm.Cond.code x code maxLocals ret :: tables_1) hat d (List.mem_cons_of_mem _ hd)
  obtain ⟨i0, ei0⟩ := is_v ga0
  obtain rfl : w0 = (.int i0) := Option.some.inj ei0
  obtain ⟨i1, ei1⟩ := is_v ga1
  obtain rfl : w1 = (.int i1) := Option.some.inj ei1
  obtain ⟨i2, ei2⟩ := is_v ga2
  obtain rfl : w2 = (.int i2) := Option.some.inj ei2
  obtain ⟨i3, ei3⟩ := is_v ga3
  obtain rfl : w3 = (.int i3) := Option.some.inj ei3
  obtain ⟨i4, ei4⟩ := isL_v ga4
  obtain rfl : w4 = (.long i4) := Option.some.inj ei4
  obtain ⟨i5, ei5⟩ := isL_v g5
  obtain rfl : w5 = (.long i5) := Option.some.inj ei5
  obtain ⟨n, o, h1, h2, h3, _, L, rfl, ⟨rfl, N⟩, hq⟩ := rm0 l s _ hw tables_1 i0 i1 i2 i3 i4 i5 s.heap s.heap.size (Nat.le_refl _) p e ha hc hk s m _ below hf ((Spec.applies_iff_loose hf).mp happ).1 ⟨rfl, State.Warmed39.refl s, rfl⟩ trivial
  rw [law_eq] at *
  refine ⟨n, _, h1, h2, h3, hpost _ _ _ _ _ _ ⟨Cond.after_iff.mpr rfl, Cond.after_iff.mpr (eq_i res_at (Term.int_eval (1)) rfl), trivial⟩ ⟨hq.1, hq.2.1, (hq.2.2.sift fun y hy => Or.inr (N y hy)).mono (by decide) (by decide)⟩⟩
theorem main_1_1 : Claimed_1_1 := comes_1 fun _ _ _ _ _ _ h hF => ⟨h.1, hF⟩
theorem main_1_2 : Claimed_1_2 := comes_1 fun _ _ _ _ _ _ h hF => ⟨h.2.1, hF⟩
end Jvm.Pilot.@@N@@
namespace Jvm.Pilot.@@N@@
open Jvm Jvm.ClassFile Sem Op Lib Jvm.Free Jvm.Stand Jvm.Pilot.@@N@@.Jvm.D
/-! MADE BY PROGRAM (witnessworld.py) out of the Statement's table words and the real class files: 16 classes; the members and pool entries that the words name. The judged class is class 1, her method 2. -/
namespace start1
open Jvm.ClassFile
def u (s : String) : CpInfo := .utf8 (stringToUtf16 s)
/-- a pool by its gaps: so many unusable entries, then the entry; so many at the end -/
def gap : Nat → List CpInfo → List CpInfo
  | 0, r => r
  | n + 1, r => .unusable :: gap n r
def poolList (es : List (Nat × CpInfo)) (last : Nat) : List CpInfo := es.foldr (fun e r => gap e.1 (e.2 :: r)) (gap last [])
def pool (es : List (Nat × CpInfo)) (last : Nat) : Array CpInfo := ⟨poolList es last⟩
def fileOf (pool : Array CpInfo) (this : Nat) (attrs : Array Attribute := #[]) (ms : Array MethodInfo := #[]) (fl : Nat := 33) (sup : Nat := 0) (ifs : Array Nat := #[]) (fds : Array FieldInfo := #[]) : ClassFile where
  minorVersion := 0
  majorVersion := 65
  constantPool := pool
  accessFlags := fl
  thisClass := this
  superClass := sup
  interfaces := ifs
  fields := fds
  methods := ms
  attributes := attrs
def plain (name : String) (sup : Option ClassId) : Class where
  name := name
  kind := .ordinary
  loader := none
  accessFlags := 33
  super := sup
  interfaces := #[]
  cf := none
  fields := #[]
  methods := #[]
  instanceTypes := #[]
  staticTypes := #[]
  resolved := #[]
  callSites := []
  init := .initialized
  statics := none
  mirror := none

def pool0 : Array CpInfo := pool [(5, u "<init>"), (0, u "()V"), (1, .class_ 10), (1, u "java/lang/Object")] 113

def k0c0 : Code := { maxStack := 0, maxLocals := 1, code := object_method_1_code, exceptionTable := #[], attributes := #[] }
def k0m0 : Method := { name := "<init>", desc := "()V", sig := { parameters := [], returnType := none }, accessFlags := 1, code := some k0c0 }
/-- java/lang/Object -/
def k0 : Class := { plain "java/lang/Object" none with
  accessFlags := 33
  interfaces := #[]
  cf := some (fileOf pool0 8 #[] #[{ accessFlags := 1, nameIndex := 5, descriptorIndex := 6, attributes := #[] }] 33 0 #[] #[])
  fields := #[]
  methods := #[k0m0]
  instanceTypes := #[]
  staticTypes := #[]
  resolved := Array.replicate 124 none
  statics := none }

def pool1 : Array CpInfo := pool [(2, .class_ 4), (1, u "java/lang/Object"), (0, u "<init>"), (0, u "()V"), (0, .integer 65535), (0, .integer 2147483647), (0, .long 18446744073709551615), (1, .class_ 12), (0, u "com/example/dayflower/dayflower/filter/FilterSlab"), (0, .methodref 11 14), (0, .nameAndType 5 15), (0, u "(II)V"), (0, .methodref 11 17), (0, .nameAndType 18 19), (0, u "add"), (0, u "([IJ)V"), (0, .methodref 21 22), (0, .class_ 23), (0, .nameAndType 24 25), (0, u "com/example/dayflower/dayflower/filter/FilterSlabAddPinLaw"), (0, u "at"), (0, u "(IIIIJ)J"), (0, .methodref 11 27), (0, .nameAndType 28 29), (0, u "word"), (0, u "(I)J"), (3, u "law"), (0, u "(IIIIJJ)Z")] 4

def k1m0 : Method := { name := "<init>", desc := "()V", sig := { parameters := [], returnType := none }, accessFlags := 2, code := none }
def k1c1 : Code := { maxStack := 4, maxLocals := 6, code := method_2_code, exceptionTable := #[], attributes := #[] }
def k1m1 : Method := { name := "at", desc := "(IIIIJ)J", sig := { parameters := [.int, .int, .int, .int, .long], returnType := some .long }, accessFlags := 10, code := some k1c1 }
def k1c2 : Code := { maxStack := 8, maxLocals := 27, code := code, exceptionTable := #[], attributes := #[] }
def k1m2 : Method := { name := "law", desc := "(IIIIJJ)Z", sig := { parameters := [.int, .int, .int, .int, .long, .long], returnType := some .boolean }, accessFlags := 9, code := some k1c2 }
/-- com/example/dayflower/dayflower/filter/FilterSlabAddPinLaw -/
def k1 : Class := { plain "com/example/dayflower/dayflower/filter/FilterSlabAddPinLaw" (some 0) with
  accessFlags := 49
  interfaces := #[]
  cf := some (fileOf pool1 21 #[] #[{ accessFlags := 2, nameIndex := 5, descriptorIndex := 6, attributes := #[] }, { accessFlags := 10, nameIndex := 24, descriptorIndex := 25, attributes := #[] }, { accessFlags := 9, nameIndex := 33, descriptorIndex := 34, attributes := #[] }] 49 2 #[] #[])
  fields := #[]
  methods := #[k1m0, k1m1, k1m2]
  instanceTypes := #[]
  staticTypes := #[]
  resolved := Array.replicate 39 none
  statics := none }

def pool2 : Array CpInfo := pool [(3, .methodref 4 5), (0, .class_ 6), (0, .nameAndType 7 8), (0, u "java/lang/Object"), (0, u "<init>"), (0, u "()V"), (0, .class_ 10), (0, u "com/example/dayflower/dayflower/filter/FilterSlab"), (0, .methodref 12 13), (0, .class_ 14), (0, .nameAndType 15 16), (0, u "java/lang/Integer"), (0, u "bitCount"), (0, u "(I)I"), (9, .fieldref 9 27), (0, .nameAndType 28 29), (0, u "lanes"), (0, u "I"), (0, .methodref 12 31), (0, .nameAndType 32 16), (0, u "numberOfTrailingZeros"), (0, .fieldref 9 34), (0, .nameAndType 35 29), (0, u "laneShift"), (0, .methodref 9 37), (0, .nameAndType 38 39), (0, u "bytes"), (0, u "(II)J"), (0, .long 8), (1, .fieldref 9 43), (0, .nameAndType 44 45), (0, u "words"), (0, u "[J"), (0, .long 64), (3, u "inUse"), (0, u "J"), (6, u "dirty"), (16, u "MAX_LANES"), (2, u "(II)V"), (7, u "add"), (0, u "([IJ)V"), (0, u "word"), (0, u "(I)J")] 26

def k2c0 : Code := { maxStack := 5, maxLocals := 3, code := prog_14_method_1_code, exceptionTable := #[], attributes := #[] }
def k2m0 : Method := { name := "<init>", desc := "(II)V", sig := { parameters := [.int, .int], returnType := none }, accessFlags := 0, code := some k2c0 }
def k2c1 : Code := { maxStack := 4, maxLocals := 4, code := prog_14_method_2_code, exceptionTable := #[], attributes := #[] }
def k2m1 : Method := { name := "bytes", desc := "(II)J", sig := { parameters := [.int, .int], returnType := some .long }, accessFlags := 8, code := some k2c1 }
def k2c2 : Code := { maxStack := 8, maxLocals := 10, code := prog_14_method_4_code, exceptionTable := #[], attributes := #[] }
def k2m2 : Method := { name := "add", desc := "([IJ)V", sig := { parameters := [(.array .int), .long], returnType := none }, accessFlags := 0, code := some k2c2 }
def k2c3 : Code := { maxStack := 4, maxLocals := 2, code := prog_14_method_5_code, exceptionTable := #[], attributes := #[] }
def k2m3 : Method := { name := "word", desc := "(I)J", sig := { parameters := [.int], returnType := some .long }, accessFlags := 0, code := some k2c3 }
/-- com/example/dayflower/dayflower/filter/FilterSlab -/
def k2 : Class := { plain "com/example/dayflower/dayflower/filter/FilterSlab" (some 0) with
  accessFlags := 48
  interfaces := #[]
  cf := some (fileOf pool2 9 #[] #[{ accessFlags := 0, nameIndex := 7, descriptorIndex := 78, attributes := #[] }, { accessFlags := 8, nameIndex := 38, descriptorIndex := 39, attributes := #[] }, { accessFlags := 0, nameIndex := 86, descriptorIndex := 87, attributes := #[] }, { accessFlags := 0, nameIndex := 88, descriptorIndex := 89, attributes := #[] }] 48 4 #[] #[{ accessFlags := 24, nameIndex := 75, descriptorIndex := 29, attributes := #[] }, { accessFlags := 18, nameIndex := 28, descriptorIndex := 29, attributes := #[] }, { accessFlags := 18, nameIndex := 35, descriptorIndex := 29, attributes := #[] }, { accessFlags := 18, nameIndex := 44, descriptorIndex := 45, attributes := #[] }, { accessFlags := 2, nameIndex := 50, descriptorIndex := 51, attributes := #[] }, { accessFlags := 2, nameIndex := 58, descriptorIndex := 51, attributes := #[] }])
  fields := #[{ name := "MAX_LANES", type := .int, accessFlags := 24, slot := 0, constantValue := 0 }, { name := "lanes", type := .int, accessFlags := 18, slot := 0, constantValue := 0 }, { name := "laneShift", type := .int, accessFlags := 18, slot := 1, constantValue := 0 }, { name := "words", type := (.array .long), accessFlags := 18, slot := 2, constantValue := 0 }, { name := "inUse", type := .long, accessFlags := 2, slot := 3, constantValue := 0 }, { name := "dirty", type := .long, accessFlags := 2, slot := 4, constantValue := 0 }]
  methods := #[k2m0, k2m1, k2m2, k2m3]
  instanceTypes := #[.int, .int, (.array .long), .long, .long]
  staticTypes := #[.int]
  resolved := Array.replicate 116 none
  statics := none }

def pool3 : Array CpInfo := pool [(1, .class_ 2), (0, u "java/io/Serializable"), (0, .class_ 4), (0, u "java/lang/Object")] 2

/-- java/io/Serializable -/
def k3 : Class := { plain "java/io/Serializable" (some 0) with
  accessFlags := 1537
  interfaces := #[]
  cf := some (fileOf pool3 1 #[] #[] 1537 3 #[] #[])
  fields := #[]
  methods := #[]
  instanceTypes := #[]
  staticTypes := #[]
  resolved := Array.replicate 7 none
  statics := none }

def pool4 : Array CpInfo := pool [(2, .class_ 4), (1, u "java/lang/Object"), (0, u "<init>"), (0, u "()V"), (1, .class_ 10), (1, u "java/lang/Number"), (2, .class_ 14), (0, u "java/io/Serializable"), (0, u "serialVersionUID"), (0, u "J")] 20

def k4m0 : Method := { name := "<init>", desc := "()V", sig := { parameters := [], returnType := none }, accessFlags := 1, code := none }
/-- java/lang/Number -/
def k4 : Class := { plain "java/lang/Number" (some 0) with
  accessFlags := 1057
  interfaces := #[3]
  cf := some (fileOf pool4 8 #[] #[{ accessFlags := 1, nameIndex := 5, descriptorIndex := 6, attributes := #[] }] 1057 2 #[13] #[{ accessFlags := 26, nameIndex := 15, descriptorIndex := 16, attributes := #[] }])
  fields := #[{ name := "serialVersionUID", type := .long, accessFlags := 26, slot := 0, constantValue := 0 }]
  methods := #[k4m0]
  instanceTypes := #[]
  staticTypes := #[.long]
  resolved := Array.replicate 37 none
  statics := none }

def pool5 : Array CpInfo := pool [(1, .class_ 2), (0, u "java/lang/Comparable"), (0, .class_ 4), (0, u "java/lang/Object")] 7

/-- java/lang/Comparable -/
def k5 : Class := { plain "java/lang/Comparable" (some 0) with
  accessFlags := 1537
  interfaces := #[]
  cf := some (fileOf pool5 1 #[] #[] 1537 3 #[] #[])
  fields := #[]
  methods := #[]
  instanceTypes := #[]
  staticTypes := #[]
  resolved := Array.replicate 12 none
  statics := none }

def pool6 : Array CpInfo := pool [(1, .class_ 2), (0, u "java/lang/constant/Constable"), (0, .class_ 4), (0, u "java/lang/Object")] 6

/-- java/lang/constant/Constable -/
def k6 : Class := { plain "java/lang/constant/Constable" (some 0) with
  accessFlags := 1537
  interfaces := #[]
  cf := some (fileOf pool6 1 #[] #[] 1537 3 #[] #[])
  fields := #[]
  methods := #[]
  instanceTypes := #[]
  staticTypes := #[]
  resolved := Array.replicate 11 none
  statics := none }

def pool7 : Array CpInfo := pool [(1, .class_ 2), (0, u "java/lang/constant/ConstantDesc"), (0, .class_ 4), (0, u "java/lang/Object")] 32

/-- java/lang/constant/ConstantDesc -/
def k7 : Class := { plain "java/lang/constant/ConstantDesc" (some 0) with
  accessFlags := 1537
  interfaces := #[]
  cf := some (fileOf pool7 1 #[] #[] 1537 3 #[] #[])
  fields := #[]
  methods := #[]
  instanceTypes := #[]
  staticTypes := #[]
  resolved := Array.replicate 37 none
  statics := none }

def pool8 : Array CpInfo := pool [(1, .class_ 2), (0, u "java/lang/Integer"), (16, u "digits"), (0, u "[C"), (33, u "(I)I"), (30, u "DigitOnes"), (0, u "[B"), (2, u "DigitTens"), (99, .class_ 190), (0, u "java/lang/Integer$IntegerCache"), (3, u "I"), (8, .class_ 204), (0, u "java/lang/Number"), (2, u "value"), (56, .integer 65536), (0, .integer 1431655765), (0, .integer 858993459), (0, .integer 252645135), (34, u "TYPE"), (0, u "Ljava/lang/Class;"), (0, .class_ 305), (0, u "java/lang/Comparable"), (0, .class_ 307), (0, u "java/lang/constant/Constable"), (0, .class_ 309), (0, u "java/lang/constant/ConstantDesc"), (0, u "MIN_VALUE"), (1, u "MAX_VALUE"), (3, u "SIZE"), (1, u "BYTES"), (1, u "serialVersionUID"), (0, u "J"), (84, u "numberOfTrailingZeros"), (0, u "bitCount")] 45

def k8c0 : Code := { maxStack := 3, maxLocals := 2, code := jdk_33_method_48_code, exceptionTable := #[], attributes := #[] }
def k8m0 : Method := { name := "numberOfTrailingZeros", desc := "(I)I", sig := { parameters := [.int], returnType := some .int }, accessFlags := 9, code := some k8c0 }
def k8c1 : Code := { maxStack := 3, maxLocals := 1, code := jdk_33_method_49_code, exceptionTable := #[], attributes := #[] }
def k8m1 : Method := { name := "bitCount", desc := "(I)I", sig := { parameters := [.int], returnType := some .int }, accessFlags := 9, code := some k8c1 }
/-- java/lang/Integer -/
def k8 : Class := { plain "java/lang/Integer" (some 4) with
  accessFlags := 49
  interfaces := #[5, 6, 7]
  cf := some (fileOf pool8 1 #[.nestMembers #[189]] #[{ accessFlags := 9, nameIndex := 406, descriptorIndex := 54, attributes := #[] }, { accessFlags := 9, nameIndex := 407, descriptorIndex := 54, attributes := #[] }] 49 203 #[304, 306, 308] #[{ accessFlags := 25, nameIndex := 310, descriptorIndex := 194, attributes := #[] }, { accessFlags := 25, nameIndex := 312, descriptorIndex := 194, attributes := #[] }, { accessFlags := 25, nameIndex := 302, descriptorIndex := 303, attributes := #[] }, { accessFlags := 24, nameIndex := 19, descriptorIndex := 20, attributes := #[] }, { accessFlags := 24, nameIndex := 89, descriptorIndex := 86, attributes := #[] }, { accessFlags := 24, nameIndex := 85, descriptorIndex := 86, attributes := #[] }, { accessFlags := 18, nameIndex := 207, descriptorIndex := 194, attributes := #[] }, { accessFlags := 25, nameIndex := 316, descriptorIndex := 194, attributes := #[] }, { accessFlags := 25, nameIndex := 318, descriptorIndex := 194, attributes := #[] }, { accessFlags := 26, nameIndex := 320, descriptorIndex := 321, attributes := #[] }])
  fields := #[{ name := "MIN_VALUE", type := .int, accessFlags := 25, slot := 0, constantValue := 0 }, { name := "MAX_VALUE", type := .int, accessFlags := 25, slot := 1, constantValue := 0 }, { name := "TYPE", type := (.object "java/lang/Class"), accessFlags := 25, slot := 2, constantValue := 0 }, { name := "digits", type := (.array .char), accessFlags := 24, slot := 3, constantValue := 0 }, { name := "DigitTens", type := (.array .byte), accessFlags := 24, slot := 4, constantValue := 0 }, { name := "DigitOnes", type := (.array .byte), accessFlags := 24, slot := 5, constantValue := 0 }, { name := "value", type := .int, accessFlags := 18, slot := 0, constantValue := 0 }, { name := "SIZE", type := .int, accessFlags := 25, slot := 6, constantValue := 0 }, { name := "BYTES", type := .int, accessFlags := 25, slot := 7, constantValue := 0 }, { name := "serialVersionUID", type := .long, accessFlags := 26, slot := 8, constantValue := 0 }]
  methods := #[k8m0, k8m1]
  instanceTypes := #[.int]
  staticTypes := #[.int, .int, (.object "java/lang/Class"), (.array .char), (.array .byte), (.array .byte), .int, .int, .long]
  resolved := Array.replicate 453 none
  statics := none }

def pool9 : Array CpInfo := pool [(1, u "java/lang/Cloneable"), (0, .class_ 1), (0, u "java/lang/Object"), (0, .class_ 3)] 3

/-- java/lang/Cloneable -/
def k9 : Class := { plain "java/lang/Cloneable" (some 0) with
  accessFlags := 1537
  interfaces := #[]
  cf := some (fileOf pool9 2 #[] #[] 1537 4 #[] #[])
  fields := #[]
  methods := #[]
  instanceTypes := #[]
  staticTypes := #[]
  resolved := Array.replicate 8 none
  statics := none }

/-- the primitive byte -/
def k10 : Class := { plain "byte" none with kind := .primitive 'B', accessFlags := 0x411 }
/-- [B -/
def k11 : Class := { plain "[B" (some 0) with kind := .array 10 .byte, interfaces := #[9, 3], accessFlags := 1041 }

/-- the primitive int -/
def k12 : Class := { plain "int" none with kind := .primitive 'I', accessFlags := 0x411 }
/-- [I -/
def k13 : Class := { plain "[I" (some 0) with kind := .array 12 .int, interfaces := #[9, 3], accessFlags := 1041 }

/-- the primitive long -/
def k14 : Class := { plain "long" none with kind := .primitive 'J', accessFlags := 0x411 }
/-- [J -/
def k15 : Class := { plain "[J" (some 0) with kind := .array 14 .long, interfaces := #[9, 3], accessFlags := 1041 }

def heap : Heap := #[]
def classes : Array Class := #[k0, k1, k2, k3, k4, k5, k6, k7, k8, k9, k10, k11, k12, k13, k14, k15]
def interned : List (Array UInt16 × Addr) := []
def slotsUsed : Nat := 0
def theMethod : MethodId := ⟨1, 2⟩
def args0 : Array Value := #[.int 5, .int 7, .int 9, .int 11, .long 4, .long 6]
def aboutOver (below : List Frame) : State where
  vm := { classes := classes, interned := interned.toArray }
  heap := heap
  slotsUsed := slotsUsed
  threads := #[{ frames := .invoking theMethod args0 :: below }]
def below0 : List Frame := [.native { method := ⟨0, 0⟩, args := #[] }]
def about1 : State := aboutOver below0
def p0 : Program := .bare "" "" ""
def e0 : Env := launch0.env 0 0 0
theorem w_frames : about1.frames = Frame.invoking theMethod args0 :: below0 := rfl
set_option maxRecDepth 65536 in
theorem w_args : argsFit about1.vm theMethod args0 = true := by decide +kernel
set_option maxRecDepth 65536 in
theorem w_heap : heapFits about1 = true := by decide +kernel
set_option maxRecDepth 65536 in
theorem w_runnable : about1.curStatus? = some .runnable := by decide +kernel
set_option maxRecDepth 65536 in
theorem w_alone : about1.alone = true := by decide +kernel
set_option maxRecDepth 65536 in
theorem w_named : about1.methodNamed? x = some theMethod := by decide +kernel
set_option maxRecDepth 65536 in
theorem w_hears : about1.hears theMethod below0 = true := by decide +kernel
set_option maxRecDepth 65536 in
theorem w_ripe : about1.ripe theMethod args0 below0 = true := by decide +kernel
theorem w_running : about1.status = .running := rfl
set_option maxRecDepth 65536 in
theorem w_room : about1.hasRoom e0.platform room_1 = true :=
  launch0.hasRoom_least _ room_1 (by decide +kernel) (by decide +kernel) (by decide +kernel) (by decide +kernel) (by decide +kernel) (by decide +kernel)
theorem allAtoms_all (ts : List Jvm.Cond) (a : Array Jvm.Value) (st : Jvm.State) : (allAtoms ts).before a st = ts.all (fun c => c.before a st) := by
  induction ts with
  | nil => rfl
  | cons c t ih =>
    show (Jvm.Cond.and c (allAtoms t)).before a st = _
    rw [Jvm.Cond.before_and, ih, List.all_cons]
def words1 : List Jvm.Cond := Jvm.Cond.code x code maxLocals ret :: tables_1
/-- a 'code' word, met by the world's own term for the bytes: nothing is compared byte by byte -/
theorem code_word {y : MethodName} {bytes : ByteArray} {mx : Nat} {rt : Option FieldType} {a : Array Value} {s : State} {m : MethodId} {meth : Method} {c : Code} (h1 : s.methodNamed? y = some m) (h2 : s.vm.method? m = some meth) (h3 : meth.code = some c) (h4 : c.code = bytes)
    (h5 : (c.maxLocals == mx && c.exceptionTable.isEmpty && decide (c.maxStack ≤ mostOperands) && decide (meth.sig.returnType = rt) && !meth.locks && decide (parseMethodDescriptor y.desc = some meth.sig)) = true) : (Jvm.Cond.code y bytes mx rt).before a s = true := by
  simp only [Bool.and_eq_true, beq_iff_eq, Bool.not_eq_true', decide_eq_true_eq] at h5
  obtain ⟨⟨⟨⟨⟨g1, g2⟩, g3⟩, g4⟩, g5⟩, g6⟩ := h5
  simp [Cond.before, Cond.holds, Cond.value, h1, h2, h3, h4, g1, g2, g3, g4, g5, g6]
def isCode : Jvm.Cond → Bool
  | .code _ _ _ _ => true
  | _ => false
theorem all_split {L : List Jvm.Cond} {P : Jvm.Cond → Bool} (h1 : L.all (fun c => isCode c || P c) = true) (h2 : ∀ c ∈ L.filter isCode, P c = true) : L.all P = true := by
  refine List.all_eq_true.mpr fun c hc => ?_
  have h := List.all_eq_true.mp h1 c hc
  rcases Bool.eq_false_or_eq_true (isCode c) with hi | hi
  · exact h2 c (List.mem_filter.mpr ⟨hc, hi⟩)
  · simpa [hi] using h
set_option maxRecDepth 65536 in
theorem w_c0 : (Jvm.Cond.code x code maxLocals ret).before args0 about1 = true := code_word (m := ⟨1, 2⟩) (meth := k1m2) (c := k1c2) (by decide +kernel) rfl rfl rfl (by decide +kernel)
set_option maxRecDepth 65536 in
theorem w_c1 : (Jvm.Cond.code ({ cls := "com/example/dayflower/dayflower/filter/FilterSlab", name := "<init>", desc := "(II)V" } : Jvm.MethodName) prog_14_method_1_code (3 : Nat) (Option.none : Option Jvm.ClassFile.FieldType)).before args0 about1 = true := code_word (m := ⟨2, 0⟩) (meth := k2m0) (c := k2c0) (by decide +kernel) rfl rfl rfl (by decide +kernel)
set_option maxRecDepth 65536 in
theorem w_c2 : (Jvm.Cond.code ({ cls := "java/lang/Object", name := "<init>", desc := "()V" } : Jvm.MethodName) object_method_1_code (1 : Nat) (Option.none : Option Jvm.ClassFile.FieldType)).before args0 about1 = true := code_word (m := ⟨0, 0⟩) (meth := k0m0) (c := k0c0) (by decide +kernel) rfl rfl rfl (by decide +kernel)
set_option maxRecDepth 65536 in
theorem w_c3 : (Jvm.Cond.code ({ cls := "java/lang/Integer", name := "bitCount", desc := "(I)I" } : Jvm.MethodName) jdk_33_method_49_code (1 : Nat) (Option.some Jvm.ClassFile.FieldType.int)).before args0 about1 = true := code_word (m := ⟨8, 1⟩) (meth := k8m1) (c := k8c1) (by decide +kernel) rfl rfl rfl (by decide +kernel)
set_option maxRecDepth 65536 in
theorem w_c4 : (Jvm.Cond.code ({ cls := "java/lang/Integer", name := "numberOfTrailingZeros", desc := "(I)I" } : Jvm.MethodName) jdk_33_method_48_code (2 : Nat) (Option.some Jvm.ClassFile.FieldType.int)).before args0 about1 = true := code_word (m := ⟨8, 0⟩) (meth := k8m0) (c := k8c0) (by decide +kernel) rfl rfl rfl (by decide +kernel)
set_option maxRecDepth 65536 in
theorem w_c5 : (Jvm.Cond.code ({ cls := "com/example/dayflower/dayflower/filter/FilterSlab", name := "bytes", desc := "(II)J" } : Jvm.MethodName) prog_14_method_2_code (4 : Nat) (Option.some Jvm.ClassFile.FieldType.long)).before args0 about1 = true := code_word (m := ⟨2, 1⟩) (meth := k2m1) (c := k2c1) (by decide +kernel) rfl rfl rfl (by decide +kernel)
set_option maxRecDepth 65536 in
theorem w_c6 : (Jvm.Cond.code ({ cls := "com/example/dayflower/dayflower/filter/FilterSlab", name := "add", desc := "([IJ)V" } : Jvm.MethodName) prog_14_method_4_code (10 : Nat) (Option.none : Option Jvm.ClassFile.FieldType)).before args0 about1 = true := code_word (m := ⟨2, 2⟩) (meth := k2m2) (c := k2c2) (by decide +kernel) rfl rfl rfl (by decide +kernel)
set_option maxRecDepth 65536 in
theorem w_c7 : (Jvm.Cond.code ({ cls := "com/example/dayflower/dayflower/filter/FilterSlabAddPinLaw", name := "at", desc := "(IIIIJ)J" } : Jvm.MethodName) method_2_code (6 : Nat) (Option.some Jvm.ClassFile.FieldType.long)).before args0 about1 = true := code_word (m := ⟨1, 1⟩) (meth := k1m1) (c := k1c1) (by decide +kernel) rfl rfl rfl (by decide +kernel)
set_option maxRecDepth 65536 in
theorem w_c8 : (Jvm.Cond.code ({ cls := "com/example/dayflower/dayflower/filter/FilterSlab", name := "word", desc := "(I)J" } : Jvm.MethodName) prog_14_method_5_code (2 : Nat) (Option.some Jvm.ClassFile.FieldType.long)).before args0 about1 = true := code_word (m := ⟨2, 3⟩) (meth := k2m3) (c := k2c3) (by decide +kernel) rfl rfl rfl (by decide +kernel)
def codes1 : List Jvm.Cond := [Jvm.Cond.code x code maxLocals ret, Jvm.Cond.code ({ cls := "com/example/dayflower/dayflower/filter/FilterSlab", name := "<init>", desc := "(II)V" } : Jvm.MethodName) prog_14_method_1_code (3 : Nat) (Option.none : Option Jvm.ClassFile.FieldType), Jvm.Cond.code ({ cls := "java/lang/Object", name := "<init>", desc := "()V" } : Jvm.MethodName) object_method_1_code (1 : Nat) (Option.none : Option Jvm.ClassFile.FieldType), Jvm.Cond.code ({ cls := "java/lang/Integer", name := "bitCount", desc := "(I)I" } : Jvm.MethodName) jdk_33_method_49_code (1 : Nat) (Option.some Jvm.ClassFile.FieldType.int), Jvm.Cond.code ({ cls := "java/lang/Integer", name := "numberOfTrailingZeros", desc := "(I)I" } : Jvm.MethodName) jdk_33_method_48_code (2 : Nat) (Option.some Jvm.ClassFile.FieldType.int), Jvm.Cond.code ({ cls := "com/example/dayflower/dayflower/filter/FilterSlab", name := "bytes", desc := "(II)J" } : Jvm.MethodName) prog_14_method_2_code (4 : Nat) (Option.some Jvm.ClassFile.FieldType.long), Jvm.Cond.code ({ cls := "com/example/dayflower/dayflower/filter/FilterSlab", name := "add", desc := "([IJ)V" } : Jvm.MethodName) prog_14_method_4_code (10 : Nat) (Option.none : Option Jvm.ClassFile.FieldType), Jvm.Cond.code ({ cls := "com/example/dayflower/dayflower/filter/FilterSlabAddPinLaw", name := "at", desc := "(IIIIJ)J" } : Jvm.MethodName) method_2_code (6 : Nat) (Option.some Jvm.ClassFile.FieldType.long), Jvm.Cond.code ({ cls := "com/example/dayflower/dayflower/filter/FilterSlab", name := "word", desc := "(I)J" } : Jvm.MethodName) prog_14_method_5_code (2 : Nat) (Option.some Jvm.ClassFile.FieldType.long)]
set_option maxRecDepth 65536 in
theorem codes_eq : words1.filter isCode = codes1 := rfl
theorem w_codes : ∀ c ∈ words1.filter isCode, c.before args0 about1 = true := by
  rw [codes_eq]
  intro c hc
  simp only [codes1, List.mem_cons, List.not_mem_nil, or_false] at hc
  rcases hc with rfl | rfl | rfl | rfl | rfl | rfl | rfl | rfl | rfl
  · exact w_c0
  · exact w_c1
  · exact w_c2
  · exact w_c3
  · exact w_c4
  · exact w_c5
  · exact w_c6
  · exact w_c7
  · exact w_c8
set_option maxRecDepth 65536 in
theorem w_t1 : (words1.take 24).all (fun c => isCode c || c.before args0 about1) = true := by decide +kernel
set_option maxRecDepth 65536 in
theorem w_t2 : ((words1.drop 24).take 24).all (fun c => isCode c || c.before args0 about1) = true := by decide +kernel
set_option maxRecDepth 65536 in
theorem w_t3 : ((words1.drop 24).drop 24).all (fun c => isCode c || c.before args0 about1) = true := by decide +kernel
theorem w_tables : (allAtoms (Jvm.Cond.code x code maxLocals ret :: tables_1)).before args0 about1 = true := by
  rw [allAtoms_all]
  show words1.all (fun c => c.before args0 about1) = true
  refine all_split ?_ w_codes
  rw [← List.take_append_drop 24 words1, List.all_append, w_t1, ← List.take_append_drop 24 (words1.drop 24), List.all_append, w_t2, w_t3]
  rfl
set_option maxRecDepth 65536 in
theorem w_case : (Jvm.Cond.and given_1 narrow_1).before args0 about1 = true := by decide +kernel
theorem w_applies : (headSpec (Jvm.Cond.code x code maxLocals ret :: tables_1) room_1).applies x e0.platform about1 = true :=
  (Spec.applies_iff w_frames).mpr ⟨w_running, w_runnable, w_alone, w_named, w_hears, w_ripe, w_room, w_tables⟩
theorem atStart : AtStart classFile x code maxLocals ret World_1 tables_1 room_1 Calls_1 rest_1 Pre_1 launch0 p0 e0 about1 theMethod args0 below0 :=
  ⟨lists_1, trivial, launch0.admits_env _ _ _, launch0.least_env, fairChoices_fair.cas, fairChoices_fair.clock, w_frames, w_args, w_heap, w_applies, trivial, trivial, w_case⟩
end start1
theorem witness_1 : WitnessClaimed_1 := ⟨start1.p0, start1.e0, start1.about1, start1.theMethod, start1.args0, start1.below0, start1.atStart⟩
end Jvm.Pilot.@@N@@
