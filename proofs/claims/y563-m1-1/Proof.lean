import JvmDerived
import JvmDerived.Pilot.@@N@@Statement
import JvmDerived.Pilot.@@N@@Code
set_option linter.unusedVariables false
set_option linter.unusedSimpArgs false
namespace Jvm.Pilot.@@N@@
open Jvm Jvm.ClassFile Sem Op Lib Jvm.Free Jvm.Stand Jvm.LawKit Jvm.RoadKit Bundle Jvm.Pilot.@@N@@.Jvm.D
section OwnKit
variable {p : Program} {l : Launch} {e : Env} {R : Room} {s : State} {m : MethodId} {args : Array Value} {below : List Frame} {meth : Method} {c : Code} {T T' : State} {locs : List Loc} {cells slots kc kn : Nat} {Q : Option Value → Heap → List Loc → Prop} {f f' : JFrame} {pc q q' : Nat} {Ls Ls' : Array Slot} {st : List Value} {Z : State} {a0 : Array Value} {h : Heap} {by' : ByteArray} {ml : Nat} {own nm : String} {ret : Option FieldType}
/-- from this state, with this frame on top, the body returns as Q says -/
def Run (p : Program) (e : Env) (below : List Frame) (s : State) (kc kn : Nat) (Q : Option Value → Heap → List Loc → Prop) (T : State) (f : JFrame) : Prop :=
  ∃ t o, Steps p.tables e below (T.setTop f) t ∧ t.status = .running ∧ Ended t below o ∧ ∃ v L, o = .returned v ∧ Q v t.heap L ∧ FrameEnd s o t L kc kn
theorem Run.by (st : ∀ t, Steps p.tables e below (T'.setTop f') t → Steps p.tables e below (T.setTop f) t) (k : Run p e below s kc kn Q T' f') : Run p e below s kc kn Q T f := by
  obtain ⟨t, o, h1, r⟩ := k
  exact ⟨t, o, st t h1, r⟩
theorem Run.on (k : Run p e below s kc kn Q T' f') (st : Steps p.tables e below (T.setTop f) (T'.setTop f')) : Run p e below s kc kn Q T f := k.by fun _ h1 => st.trans h1
/-- what a walk knows of its method throughout -/
def Fx (p : Program) (s : State) (m : MethodId) (meth : Method) (c : Code) (by' : ByteArray) (ml : Nat) (own nm : String) (ret : Option FieldType) (Z : State) : Prop :=
  p.tables.exec = Jvm.exec ∧ c.code = by' ∧ c.maxLocals = ml ∧ s.vm.findClass own = some m.cls ∧ Z.Warmed39 s.vm ∧ meth.sig.returnType = ret ∧ meth.locks = false ∧ meth.name = nm
def ushrI (x k : Int32) : Int32 := (x.toUInt32 >>> (k &&& 31).toUInt32).toInt32
def shrI (x k : Int32) : Int32 := x >>> (k &&& 31)
def shlI (x k : Int32) : Int32 := x <<< (k &&& 31)
def ushrL (x : Int64) (k : Int32) : Int64 := (x.toUInt64 >>> (k &&& 0x3f).toInt64.toUInt64).toInt64
def shlL (x : Int64) (k : Int32) : Int64 := x <<< (k &&& 0x3f).toInt64
theorem k_iloadN (K : Fx p s m meth c by' ml own nm ret Z) (X : Stand p l e R s m args below meth c T locs cells slots) {k' : Fin 4} {v : Int32} (hd : decode by' pc = .ok (.iload_n k', 1)) (hl : Ls[k'.val]? = some (.val (.int v))) (hq : pc + 1 = q) (k : Run p e below s kc kn Q T (mkF m q Ls (.int v :: st))) : Run p e below s kc kn Q T (mkF m pc Ls st) := by
  subst hq; exact k.by fun t => XS.iloadN X.here K.1 rfl (hb K.2.1 hd) hl
theorem k_iload (K : Fx p s m meth c by' ml own nm ret Z) (X : Stand p l e R s m args below meth c T locs cells slots) {k' : Nat} {v : Int32} (hd : decode by' pc = .ok (.iload k', 2)) (hl : Ls[k']? = some (.val (.int v))) (hq : pc + 2 = q) (k : Run p e below s kc kn Q T (mkF m q Ls (.int v :: st))) : Run p e below s kc kn Q T (mkF m pc Ls st) := by
  subst hq; exact k.by fun t => XS.iload X.here K.1 rfl (hb K.2.1 hd) hl
theorem k_lloadN (K : Fx p s m meth c by' ml own nm ret Z) (X : Stand p l e R s m args below meth c T locs cells slots) {k' : Fin 4} {v : Int64} (hd : decode by' pc = .ok (.lload_n k', 1)) (hl : Ls[k'.val]? = some (.val (.long v))) (hq : pc + 1 = q) (k : Run p e below s kc kn Q T (mkF m q Ls (.long v :: st))) : Run p e below s kc kn Q T (mkF m pc Ls st) := by
  subst hq; exact k.by fun t => XS.lloadN X.here K.1 rfl (hb K.2.1 hd) hl
theorem k_lload (K : Fx p s m meth c by' ml own nm ret Z) (X : Stand p l e R s m args below meth c T locs cells slots) {k' : Nat} {v : Int64} (hd : decode by' pc = .ok (.lload k', 2)) (hl : Ls[k']? = some (.val (.long v))) (hq : pc + 2 = q) (k : Run p e below s kc kn Q T (mkF m q Ls (.long v :: st))) : Run p e below s kc kn Q T (mkF m pc Ls st) := by
  subst hq; exact k.by fun t => XS.lload X.here K.1 rfl (hb K.2.1 hd) hl
theorem k_aloadN (K : Fx p s m meth c by' ml own nm ret Z) (X : Stand p l e R s m args below meth c T locs cells slots) {k' : Fin 4} {v : Value} (hd : decode by' pc = .ok (.aload_n k', 1)) (hl : Ls[k'.val]? = some (.val v)) (hv : v.isRef = true) (hq : pc + 1 = q) (k : Run p e below s kc kn Q T (mkF m q Ls (v :: st))) : Run p e below s kc kn Q T (mkF m pc Ls st) := by
  subst hq; exact k.by fun t => XS.aloadN X.here K.1 rfl (hb K.2.1 hd) hl hv
theorem k_aload (K : Fx p s m meth c by' ml own nm ret Z) (X : Stand p l e R s m args below meth c T locs cells slots) {k' : Nat} {v : Value} (hd : decode by' pc = .ok (.aload k', 2)) (hl : Ls[k']? = some (.val v)) (hv : v.isRef = true) (hq : pc + 2 = q) (k : Run p e below s kc kn Q T (mkF m q Ls (v :: st))) : Run p e below s kc kn Q T (mkF m pc Ls st) := by
  subst hq; exact k.by fun t => XS.aload X.here K.1 rfl (hb K.2.1 hd) hl hv
theorem k_istoreN (K : Fx p s m meth c by' ml own nm ret Z) (X : Stand p l e R s m args below meth c T locs cells slots) {k' : Fin 4} {v x : Int32} (hd : decode by' pc = .ok (.istore_n k', 1)) (hv : x = v) (hl : storeLocals Ls k'.val (.int v) = some Ls') (hq : pc + 1 = q) (k : Run p e below s kc kn Q T (mkF m q Ls' st)) : Run p e below s kc kn Q T (mkF m pc Ls (.int x :: st)) := by
  subst hq hv; exact k.by fun t => XS.istoreN X.here K.1 rfl (hb K.2.1 hd) rfl hl
theorem k_istore (K : Fx p s m meth c by' ml own nm ret Z) (X : Stand p l e R s m args below meth c T locs cells slots) {k' : Nat} {v x : Int32} (hd : decode by' pc = .ok (.istore k', 2)) (hv : x = v) (hl : storeLocals Ls k' (.int v) = some Ls') (hq : pc + 2 = q) (k : Run p e below s kc kn Q T (mkF m q Ls' st)) : Run p e below s kc kn Q T (mkF m pc Ls (.int x :: st)) := by
  subst hq hv; exact k.by fun t => XS.istore X.here K.1 rfl (hb K.2.1 hd) rfl hl
theorem k_lstoreN (K : Fx p s m meth c by' ml own nm ret Z) (X : Stand p l e R s m args below meth c T locs cells slots) {k' : Fin 4} {v x : Int64} (hd : decode by' pc = .ok (.lstore_n k', 1)) (hv : x = v) (hl : storeLocals Ls k'.val (.long v) = some Ls') (hq : pc + 1 = q) (k : Run p e below s kc kn Q T (mkF m q Ls' st)) : Run p e below s kc kn Q T (mkF m pc Ls (.long x :: st)) := by
  subst hq hv; exact k.by fun t => XS.lstoreN X.here K.1 rfl (hb K.2.1 hd) rfl hl
theorem k_lstore (K : Fx p s m meth c by' ml own nm ret Z) (X : Stand p l e R s m args below meth c T locs cells slots) {k' : Nat} {v x : Int64} (hd : decode by' pc = .ok (.lstore k', 2)) (hv : x = v) (hl : storeLocals Ls k' (.long v) = some Ls') (hq : pc + 2 = q) (k : Run p e below s kc kn Q T (mkF m q Ls' st)) : Run p e below s kc kn Q T (mkF m pc Ls (.long x :: st)) := by
  subst hq hv; exact k.by fun t => XS.lstore X.here K.1 rfl (hb K.2.1 hd) rfl hl
theorem k_astore (K : Fx p s m meth c by' ml own nm ret Z) (X : Stand p l e R s m args below meth c T locs cells slots) {k' : Nat} {v : Value} (hd : decode by' pc = .ok (.astore k', 2)) (hv : v.isRef = true) (hl : storeLocals Ls k' v = some Ls') (hq : pc + 2 = q) (k : Run p e below s kc kn Q T (mkF m q Ls' st)) : Run p e below s kc kn Q T (mkF m pc Ls (v :: st)) := by
  subst hq; exact k.by fun t => XS.astore X.here K.1 rfl (hb K.2.1 hd) rfl hv hl
theorem k_iinc (K : Fx p s m meth c by' ml own nm ret Z) (X : Stand p l e R s m args below meth c T locs cells slots) {k' : Nat} {cst : Int} {x v : Int32} (hd : decode by' pc = .ok (.iinc k' cst, 3)) (hg : Ls[k']? = some (.val (.int x))) (hv : x + Int32.ofInt cst = v) (hl : storeLocals Ls k' (.int v) = some Ls') (hq : pc + 3 = q) (k : Run p e below s kc kn Q T (mkF m q Ls' st)) : Run p e below s kc kn Q T (mkF m pc Ls st) := by
  subst hq hv; exact k.by fun t => XS.iinc X.here K.1 rfl (hb K.2.1 hd) hg hl
theorem k_iconst (K : Fx p s m meth c by' ml own nm ret Z) (X : Stand p l e R s m args below meth c T locs cells slots) {i : Int} {v : Int32} (hd : decode by' pc = .ok (.iconst i, 1)) (hv : Int32.ofInt i = v) (hq : pc + 1 = q) (k : Run p e below s kc kn Q T (mkF m q Ls (.int v :: st))) : Run p e below s kc kn Q T (mkF m pc Ls st) := by
  subst hq hv; exact k.by fun t => XS.iconst X.here K.1 rfl (hb K.2.1 hd)
theorem k_bipush (K : Fx p s m meth c by' ml own nm ret Z) (X : Stand p l e R s m args below meth c T locs cells slots) {i : Int} {v : Int32} (hd : decode by' pc = .ok (.bipush i, 2)) (hv : (Int8.ofInt i).toInt32 = v) (hq : pc + 2 = q) (k : Run p e below s kc kn Q T (mkF m q Ls (.int v :: st))) : Run p e below s kc kn Q T (mkF m pc Ls st) := by
  subst hq hv; exact k.by fun t => XS.bipush X.here K.1 rfl (hb K.2.1 hd)
theorem k_sipush (K : Fx p s m meth c by' ml own nm ret Z) (X : Stand p l e R s m args below meth c T locs cells slots) {i : Int} {v : Int32} (hd : decode by' pc = .ok (.sipush i, 3)) (hv : (Int16.ofInt i).toInt32 = v) (hq : pc + 3 = q) (k : Run p e below s kc kn Q T (mkF m q Ls (.int v :: st))) : Run p e below s kc kn Q T (mkF m pc Ls st) := by
  subst hq hv; exact k.by fun t => XS.sipush X.here K.1 rfl (hb K.2.1 hd)
theorem k_lconst0 (K : Fx p s m meth c by' ml own nm ret Z) (X : Stand p l e R s m args below meth c T locs cells slots) (hd : decode by' pc = .ok (.lconst 0, 1)) (hq : pc + 1 = q) (k : Run p e below s kc kn Q T (mkF m q Ls (.long 0 :: st))) : Run p e below s kc kn Q T (mkF m pc Ls st) := by
  subst hq; exact k.by fun t => XS.lconst X.here K.1 rfl (hb K.2.1 hd)
theorem k_lconst1 (K : Fx p s m meth c by' ml own nm ret Z) (X : Stand p l e R s m args below meth c T locs cells slots) (hd : decode by' pc = .ok (.lconst 1, 1)) (hq : pc + 1 = q) (k : Run p e below s kc kn Q T (mkF m q Ls (.long 1 :: st))) : Run p e below s kc kn Q T (mkF m pc Ls st) := by
  subst hq; exact k.by fun t => XS.lconst X.here K.1 rfl (hb K.2.1 hd)
theorem k_iadd (K : Fx p s m meth c by' ml own nm ret Z) (X : Stand p l e R s m args below meth c T locs cells slots) {x y : Int32} (hd : decode by' pc = .ok (.iadd, 1)) (hq : pc + 1 = q) (k : Run p e below s kc kn Q T (mkF m q Ls (.int (x + y) :: st))) : Run p e below s kc kn Q T (mkF m pc Ls (.int y :: .int x :: st)) := by
  subst hq; exact k.by fun t => XS.iadd X.here K.1 rfl (hb K.2.1 hd) rfl
theorem k_ladd (K : Fx p s m meth c by' ml own nm ret Z) (X : Stand p l e R s m args below meth c T locs cells slots) {x y : Int64} (hd : decode by' pc = .ok (.ladd, 1)) (hq : pc + 1 = q) (k : Run p e below s kc kn Q T (mkF m q Ls (.long (x + y) :: st))) : Run p e below s kc kn Q T (mkF m pc Ls (.long y :: .long x :: st)) := by
  subst hq; exact k.by fun t => XS.ladd X.here K.1 rfl (hb K.2.1 hd) rfl
theorem k_isub (K : Fx p s m meth c by' ml own nm ret Z) (X : Stand p l e R s m args below meth c T locs cells slots) {x y : Int32} (hd : decode by' pc = .ok (.isub, 1)) (hq : pc + 1 = q) (k : Run p e below s kc kn Q T (mkF m q Ls (.int (x - y) :: st))) : Run p e below s kc kn Q T (mkF m pc Ls (.int y :: .int x :: st)) := by
  subst hq; exact k.by fun t => XS.isub X.here K.1 rfl (hb K.2.1 hd) rfl
theorem k_lsub (K : Fx p s m meth c by' ml own nm ret Z) (X : Stand p l e R s m args below meth c T locs cells slots) {x y : Int64} (hd : decode by' pc = .ok (.lsub, 1)) (hq : pc + 1 = q) (k : Run p e below s kc kn Q T (mkF m q Ls (.long (x - y) :: st))) : Run p e below s kc kn Q T (mkF m pc Ls (.long y :: .long x :: st)) := by
  subst hq; exact k.by fun t => XS.lsub X.here K.1 rfl (hb K.2.1 hd) rfl
theorem k_lmul (K : Fx p s m meth c by' ml own nm ret Z) (X : Stand p l e R s m args below meth c T locs cells slots) {x y : Int64} (hd : decode by' pc = .ok (.lmul, 1)) (hq : pc + 1 = q) (k : Run p e below s kc kn Q T (mkF m q Ls (.long (x * y) :: st))) : Run p e below s kc kn Q T (mkF m pc Ls (.long y :: .long x :: st)) := by
  subst hq; exact k.by fun t => XS.lmul X.here K.1 rfl (hb K.2.1 hd) rfl
theorem k_iand (K : Fx p s m meth c by' ml own nm ret Z) (X : Stand p l e R s m args below meth c T locs cells slots) {x y : Int32} (hd : decode by' pc = .ok (.iand, 1)) (hq : pc + 1 = q) (k : Run p e below s kc kn Q T (mkF m q Ls (.int (x &&& y) :: st))) : Run p e below s kc kn Q T (mkF m pc Ls (.int y :: .int x :: st)) := by
  subst hq; exact k.by fun t => XS.iand X.here K.1 rfl (hb K.2.1 hd) rfl
theorem k_land (K : Fx p s m meth c by' ml own nm ret Z) (X : Stand p l e R s m args below meth c T locs cells slots) {x y : Int64} (hd : decode by' pc = .ok (.land, 1)) (hq : pc + 1 = q) (k : Run p e below s kc kn Q T (mkF m q Ls (.long (x &&& y) :: st))) : Run p e below s kc kn Q T (mkF m pc Ls (.long y :: .long x :: st)) := by
  subst hq; exact k.by fun t => XS.land X.here K.1 rfl (hb K.2.1 hd) rfl
theorem k_lor (K : Fx p s m meth c by' ml own nm ret Z) (X : Stand p l e R s m args below meth c T locs cells slots) {x y : Int64} (hd : decode by' pc = .ok (.lor, 1)) (hq : pc + 1 = q) (k : Run p e below s kc kn Q T (mkF m q Ls (.long (x ||| y) :: st))) : Run p e below s kc kn Q T (mkF m pc Ls (.long y :: .long x :: st)) := by
  subst hq; exact k.by fun t => XS.lor X.here K.1 rfl (hb K.2.1 hd) rfl
theorem k_ixor (K : Fx p s m meth c by' ml own nm ret Z) (X : Stand p l e R s m args below meth c T locs cells slots) {x y : Int32} (hd : decode by' pc = .ok (.ixor, 1)) (hq : pc + 1 = q) (k : Run p e below s kc kn Q T (mkF m q Ls (.int (x ^^^ y) :: st))) : Run p e below s kc kn Q T (mkF m pc Ls (.int y :: .int x :: st)) := by
  subst hq; exact k.by fun t => XS.ixor X.here K.1 rfl (hb K.2.1 hd) rfl
theorem k_lxor (K : Fx p s m meth c by' ml own nm ret Z) (X : Stand p l e R s m args below meth c T locs cells slots) {x y : Int64} (hd : decode by' pc = .ok (.lxor, 1)) (hq : pc + 1 = q) (k : Run p e below s kc kn Q T (mkF m q Ls (.long (x ^^^ y) :: st))) : Run p e below s kc kn Q T (mkF m pc Ls (.long y :: .long x :: st)) := by
  subst hq; exact k.by fun t => XS.lxor X.here K.1 rfl (hb K.2.1 hd) rfl
theorem k_ishl (K : Fx p s m meth c by' ml own nm ret Z) (X : Stand p l e R s m args below meth c T locs cells slots) {x y : Int32} (hd : decode by' pc = .ok (.ishl, 1)) (hq : pc + 1 = q) (k : Run p e below s kc kn Q T (mkF m q Ls (.int (shlI x y) :: st))) : Run p e below s kc kn Q T (mkF m pc Ls (.int y :: .int x :: st)) := by
  subst hq; exact k.by fun t => XS.ishl X.here K.1 rfl (hb K.2.1 hd) rfl
theorem k_lshl (K : Fx p s m meth c by' ml own nm ret Z) (X : Stand p l e R s m args below meth c T locs cells slots) {x : Int64} {y : Int32} (hd : decode by' pc = .ok (.lshl, 1)) (hq : pc + 1 = q) (k : Run p e below s kc kn Q T (mkF m q Ls (.long (shlL x y) :: st))) : Run p e below s kc kn Q T (mkF m pc Ls (.int y :: .long x :: st)) := by
  subst hq; exact k.by fun t => XS.lshl X.here K.1 rfl (hb K.2.1 hd) rfl
theorem k_iushr (K : Fx p s m meth c by' ml own nm ret Z) (X : Stand p l e R s m args below meth c T locs cells slots) {x y : Int32} (hd : decode by' pc = .ok (.iushr, 1)) (hq : pc + 1 = q) (k : Run p e below s kc kn Q T (mkF m q Ls (.int (ushrI x y) :: st))) : Run p e below s kc kn Q T (mkF m pc Ls (.int y :: .int x :: st)) := by
  subst hq; exact k.by fun t => XS.iushr X.here K.1 rfl (hb K.2.1 hd) rfl
theorem k_lushr (K : Fx p s m meth c by' ml own nm ret Z) (X : Stand p l e R s m args below meth c T locs cells slots) {x : Int64} {y : Int32} (hd : decode by' pc = .ok (.lushr, 1)) (hq : pc + 1 = q) (k : Run p e below s kc kn Q T (mkF m q Ls (.long (ushrL x y) :: st))) : Run p e below s kc kn Q T (mkF m pc Ls (.int y :: .long x :: st)) := by
  subst hq; exact k.by fun t => XS.lushr X.here K.1 rfl (hb K.2.1 hd) rfl
theorem k_i2l (K : Fx p s m meth c by' ml own nm ret Z) (X : Stand p l e R s m args below meth c T locs cells slots) {x : Int32} (hd : decode by' pc = .ok (.i2l, 1)) (hq : pc + 1 = q) (k : Run p e below s kc kn Q T (mkF m q Ls (.long x.toInt64 :: st))) : Run p e below s kc kn Q T (mkF m pc Ls (.int x :: st)) := by
  subst hq; exact k.by fun t => XS.i2l X.here K.1 rfl (hb K.2.1 hd) rfl
theorem k_l2i (K : Fx p s m meth c by' ml own nm ret Z) (X : Stand p l e R s m args below meth c T locs cells slots) {x : Int64} (hd : decode by' pc = .ok (.l2i, 1)) (hq : pc + 1 = q) (k : Run p e below s kc kn Q T (mkF m q Ls (.int x.toInt32 :: st))) : Run p e below s kc kn Q T (mkF m pc Ls (.long x :: st)) := by
  subst hq; exact k.by fun t => XS.l2i X.here K.1 rfl (hb K.2.1 hd) rfl
theorem k_ldiv (K : Fx p s m meth c by' ml own nm ret Z) (X : Stand p l e R s m args below meth c T locs cells slots) {x y : Int64} (hd : decode by' pc = .ok (.ldiv, 1)) (hy : y ≠ 0) (hq : pc + 1 = q) (k : Run p e below s kc kn Q T (mkF m q Ls (.long (x / y) :: st))) : Run p e below s kc kn Q T (mkF m pc Ls (.long y :: .long x :: st)) := by
  subst hq; exact k.by fun t => XS.ldiv X.here K.1 rfl (hb K.2.1 hd) rfl hy
theorem k_irem (K : Fx p s m meth c by' ml own nm ret Z) (X : Stand p l e R s m args below meth c T locs cells slots) {x y : Int32} (hd : decode by' pc = .ok (.irem, 1)) (hy : y ≠ 0) (hq : pc + 1 = q) (k : Run p e below s kc kn Q T (mkF m q Ls (.int (x % y) :: st))) : Run p e below s kc kn Q T (mkF m pc Ls (.int y :: .int x :: st)) := by
  subst hq; exact k.by fun t => iremM X K.1 rfl (hb K.2.1 hd) rfl hy
theorem k_lcmp (K : Fx p s m meth c by' ml own nm ret Z) (X : Stand p l e R s m args below meth c T locs cells slots) {x y : Int64} (hd : decode by' pc = .ok (.lcmp, 1)) (hq : pc + 1 = q) (k : Run p e below s kc kn Q T (mkF m q Ls (.int (lcmpW x y) :: st))) : Run p e below s kc kn Q T (mkF m pc Ls (.long y :: .long x :: st)) := by
  subst hq; exact k.by fun t => XS.lcmp X.here K.1 rfl (hb K.2.1 hd) rfl
theorem k_dup (K : Fx p s m meth c by' ml own nm ret Z) (X : Stand p l e R s m args below meth c T locs cells slots) {v : Value} (hd : decode by' pc = .ok (.dup, 1)) (hc : v.category = 1) (hq : pc + 1 = q) (k : Run p e below s kc kn Q T (mkF m q Ls (v :: v :: st))) : Run p e below s kc kn Q T (mkF m pc Ls (v :: st)) := by
  subst hq; exact k.by fun t => XS.dup X.here K.1 rfl (hb K.2.1 hd) rfl hc
theorem k_dup2 (K : Fx p s m meth c by' ml own nm ret Z) (X : Stand p l e R s m args below meth c T locs cells slots) {v u : Value} (hd : decode by' pc = .ok (.dup2, 1)) (hc : v.category = 1) (hc' : u.category = 1) (hq : pc + 1 = q) (k : Run p e below s kc kn Q T (mkF m q Ls (v :: u :: v :: u :: st))) : Run p e below s kc kn Q T (mkF m pc Ls (v :: u :: st)) := by
  subst hq; exact k.by fun t => XT.dup2 X.here K.1 rfl (hb K.2.1 hd) rfl hc hc'
theorem k_goto (K : Fx p s m meth c by' ml own nm ret Z) (X : Stand p l e R s m args below meth c T locs cells slots) {o : Int} (hd : decode by' pc = .ok (.goto o, 3)) (ho : 0 ≤ (pc : Int) + o) (hq : ((pc : Int) + o).toNat = q) (k : Run p e below s kc kn Q T (mkF m q Ls st)) : Run p e below s kc kn Q T (mkF m pc Ls st) := k.by fun t => XS.goto X.here K.1 rfl rfl (hb K.2.1 hd) ho hq
theorem k_nameJ {x v : Int64} (hv : x = v) (k : Run p e below s kc kn Q T (mkF m pc Ls (.long v :: st))) : Run p e below s kc kn Q T (mkF m pc Ls (.long x :: st)) := by
  subst hv; exact k
theorem k_if_eq_y (K : Fx p s m meth c by' ml own nm ret Z) (X : Stand p l e R s m args below meth c T locs cells slots) {x : Int32} {o : Int} (hd : decode by' pc = .ok (.ifCond .eq o, 3)) (hc : x = 0) (ho : 0 ≤ (pc : Int) + o) (hq : ((pc : Int) + o).toNat = q) (k : Run p e below s kc kn Q T (mkF m q Ls st)) : Run p e below s kc kn Q T (mkF m pc Ls (.int x :: st)) := k.by fun t => XS.ifYes X.here K.1 rfl rfl (hb K.2.1 hd) rfl ((if0 _ _).trans (teq hc).1) ho hq
theorem k_if_eq_n (K : Fx p s m meth c by' ml own nm ret Z) (X : Stand p l e R s m args below meth c T locs cells slots) {x : Int32} {o : Int} (hd : decode by' pc = .ok (.ifCond .eq o, 3)) (hc : ¬ x = 0) (hq : pc + 3 = q) (k : Run p e below s kc kn Q T (mkF m q Ls st)) : Run p e below s kc kn Q T (mkF m pc Ls (.int x :: st)) := by
  subst hq; exact k.by fun t => XS.ifNo X.here K.1 rfl (hb K.2.1 hd) rfl ((if0 _ _).trans (feq hc).1)
theorem k_if_eq (K : Fx p s m meth c by' ml own nm ret Z) (X : Stand p l e R s m args below meth c T locs cells slots) {x : Int32} {o : Int} (hd : decode by' pc = .ok (.ifCond .eq o, 3)) (ho : 0 ≤ (pc : Int) + o) (hq : ((pc : Int) + o).toNat = q) (hq' : pc + 3 = q') (ky : x = 0 → Run p e below s kc kn Q T (mkF m q Ls st)) (kno : ¬ x = 0 → Run p e below s kc kn Q T (mkF m q' Ls st)) : Run p e below s kc kn Q T (mkF m pc Ls (.int x :: st)) := by
  by_cases hc : x = 0
  · exact k_if_eq_y K X hd hc ho hq (ky hc)
  · exact k_if_eq_n K X hd hc hq' (kno hc)
theorem k_icmp_eq_y (K : Fx p s m meth c by' ml own nm ret Z) (X : Stand p l e R s m args below meth c T locs cells slots) {x y : Int32} {o : Int} (hd : decode by' pc = .ok (.if_icmp .eq o, 3)) (hc : x = y) (ho : 0 ≤ (pc : Int) + o) (hq : ((pc : Int) + o).toNat = q) (k : Run p e below s kc kn Q T (mkF m q Ls st)) : Run p e below s kc kn Q T (mkF m pc Ls (.int y :: .int x :: st)) := k.by fun t => XS.icmpYes X.here K.1 rfl rfl (hb K.2.1 hd) rfl (teq hc).1 ho hq
theorem k_lcmp_eq_y (K : Fx p s m meth c by' ml own nm ret Z) (X : Stand p l e R s m args below meth c T locs cells slots) {x y : Int64} {o : Int} (hd : decode by' pc = .ok (.ifCond .eq o, 3)) (hc : x = y) (ho : 0 ≤ (pc : Int) + o) (hq : ((pc : Int) + o).toNat = q) (k : Run p e below s kc kn Q T (mkF m q Ls st)) : Run p e below s kc kn Q T (mkF m pc Ls (.int (lcmpW x y) :: st)) := k_if_eq_y K X hd ((lw_eq x y).mpr hc) ho hq k
theorem k_if_ne_y (K : Fx p s m meth c by' ml own nm ret Z) (X : Stand p l e R s m args below meth c T locs cells slots) {x : Int32} {o : Int} (hd : decode by' pc = .ok (.ifCond .ne o, 3)) (hc : ¬ x = 0) (ho : 0 ≤ (pc : Int) + o) (hq : ((pc : Int) + o).toNat = q) (k : Run p e below s kc kn Q T (mkF m q Ls st)) : Run p e below s kc kn Q T (mkF m pc Ls (.int x :: st)) := k.by fun t => XS.ifYes X.here K.1 rfl rfl (hb K.2.1 hd) rfl ((if0 _ _).trans (feq hc).2) ho hq
theorem k_if_ne_n (K : Fx p s m meth c by' ml own nm ret Z) (X : Stand p l e R s m args below meth c T locs cells slots) {x : Int32} {o : Int} (hd : decode by' pc = .ok (.ifCond .ne o, 3)) (hc : x = 0) (hq : pc + 3 = q) (k : Run p e below s kc kn Q T (mkF m q Ls st)) : Run p e below s kc kn Q T (mkF m pc Ls (.int x :: st)) := by
  subst hq; exact k.by fun t => XS.ifNo X.here K.1 rfl (hb K.2.1 hd) rfl ((if0 _ _).trans (teq hc).2)
theorem k_if_ne (K : Fx p s m meth c by' ml own nm ret Z) (X : Stand p l e R s m args below meth c T locs cells slots) {x : Int32} {o : Int} (hd : decode by' pc = .ok (.ifCond .ne o, 3)) (ho : 0 ≤ (pc : Int) + o) (hq : ((pc : Int) + o).toNat = q) (hq' : pc + 3 = q') (ky : ¬ x = 0 → Run p e below s kc kn Q T (mkF m q Ls st)) (kno : x = 0 → Run p e below s kc kn Q T (mkF m q' Ls st)) : Run p e below s kc kn Q T (mkF m pc Ls (.int x :: st)) := by
  by_cases hc : x = 0
  · exact k_if_ne_n K X hd hc hq' (kno hc)
  · exact k_if_ne_y K X hd hc ho hq (ky hc)
theorem k_icmp_ne_y (K : Fx p s m meth c by' ml own nm ret Z) (X : Stand p l e R s m args below meth c T locs cells slots) {x y : Int32} {o : Int} (hd : decode by' pc = .ok (.if_icmp .ne o, 3)) (hc : ¬ x = y) (ho : 0 ≤ (pc : Int) + o) (hq : ((pc : Int) + o).toNat = q) (k : Run p e below s kc kn Q T (mkF m q Ls st)) : Run p e below s kc kn Q T (mkF m pc Ls (.int y :: .int x :: st)) := k.by fun t => XS.icmpYes X.here K.1 rfl rfl (hb K.2.1 hd) rfl (feq hc).2 ho hq
theorem k_icmp_ne_n (K : Fx p s m meth c by' ml own nm ret Z) (X : Stand p l e R s m args below meth c T locs cells slots) {x y : Int32} {o : Int} (hd : decode by' pc = .ok (.if_icmp .ne o, 3)) (hc : x = y) (hq : pc + 3 = q) (k : Run p e below s kc kn Q T (mkF m q Ls st)) : Run p e below s kc kn Q T (mkF m pc Ls (.int y :: .int x :: st)) := by
  subst hq; exact k.by fun t => XS.icmpNo X.here K.1 rfl (hb K.2.1 hd) rfl (teq hc).2
theorem k_icmp_ne (K : Fx p s m meth c by' ml own nm ret Z) (X : Stand p l e R s m args below meth c T locs cells slots) {x y : Int32} {o : Int} (hd : decode by' pc = .ok (.if_icmp .ne o, 3)) (ho : 0 ≤ (pc : Int) + o) (hq : ((pc : Int) + o).toNat = q) (hq' : pc + 3 = q') (ky : ¬ x = y → Run p e below s kc kn Q T (mkF m q Ls st)) (kno : x = y → Run p e below s kc kn Q T (mkF m q' Ls st)) : Run p e below s kc kn Q T (mkF m pc Ls (.int y :: .int x :: st)) := by
  by_cases hc : x = y
  · exact k_icmp_ne_n K X hd hc hq' (kno hc)
  · exact k_icmp_ne_y K X hd hc ho hq (ky hc)
theorem k_lcmp_ne_y (K : Fx p s m meth c by' ml own nm ret Z) (X : Stand p l e R s m args below meth c T locs cells slots) {x y : Int64} {o : Int} (hd : decode by' pc = .ok (.ifCond .ne o, 3)) (hc : ¬ x = y) (ho : 0 ≤ (pc : Int) + o) (hq : ((pc : Int) + o).toNat = q) (k : Run p e below s kc kn Q T (mkF m q Ls st)) : Run p e below s kc kn Q T (mkF m pc Ls (.int (lcmpW x y) :: st)) := k_if_ne_y K X hd (fun z => hc ((lw_eq x y).mp z)) ho hq k
theorem k_lcmp_ne_n (K : Fx p s m meth c by' ml own nm ret Z) (X : Stand p l e R s m args below meth c T locs cells slots) {x y : Int64} {o : Int} (hd : decode by' pc = .ok (.ifCond .ne o, 3)) (hc : x = y) (hq : pc + 3 = q) (k : Run p e below s kc kn Q T (mkF m q Ls st)) : Run p e below s kc kn Q T (mkF m pc Ls (.int (lcmpW x y) :: st)) := k_if_ne_n K X hd ((lw_eq x y).mpr hc) hq k
theorem k_lcmp_ne (K : Fx p s m meth c by' ml own nm ret Z) (X : Stand p l e R s m args below meth c T locs cells slots) {x y : Int64} {o : Int} (hd : decode by' pc = .ok (.ifCond .ne o, 3)) (ho : 0 ≤ (pc : Int) + o) (hq : ((pc : Int) + o).toNat = q) (hq' : pc + 3 = q') (ky : ¬ x = y → Run p e below s kc kn Q T (mkF m q Ls st)) (kno : x = y → Run p e below s kc kn Q T (mkF m q' Ls st)) : Run p e below s kc kn Q T (mkF m pc Ls (.int (lcmpW x y) :: st)) := by
  by_cases hc : x = y
  · exact k_lcmp_ne_n K X hd hc hq' (kno hc)
  · exact k_lcmp_ne_y K X hd hc ho hq (ky hc)
theorem k_icmp_lt_y (K : Fx p s m meth c by' ml own nm ret Z) (X : Stand p l e R s m args below meth c T locs cells slots) {x y : Int32} {o : Int} (hd : decode by' pc = .ok (.if_icmp .lt o, 3)) (hc : x < y) (ho : 0 ≤ (pc : Int) + o) (hq : ((pc : Int) + o).toNat = q) (k : Run p e below s kc kn Q T (mkF m q Ls st)) : Run p e below s kc kn Q T (mkF m pc Ls (.int y :: .int x :: st)) := k.by fun t => XS.icmpYes X.here K.1 rfl rfl (hb K.2.1 hd) rfl (tlt hc).1 ho hq
theorem k_icmp_lt_n (K : Fx p s m meth c by' ml own nm ret Z) (X : Stand p l e R s m args below meth c T locs cells slots) {x y : Int32} {o : Int} (hd : decode by' pc = .ok (.if_icmp .lt o, 3)) (hc : ¬ x < y) (hq : pc + 3 = q) (k : Run p e below s kc kn Q T (mkF m q Ls st)) : Run p e below s kc kn Q T (mkF m pc Ls (.int y :: .int x :: st)) := by
  subst hq; exact k.by fun t => XS.icmpNo X.here K.1 rfl (hb K.2.1 hd) rfl (flt hc).1
theorem k_icmp_lt (K : Fx p s m meth c by' ml own nm ret Z) (X : Stand p l e R s m args below meth c T locs cells slots) {x y : Int32} {o : Int} (hd : decode by' pc = .ok (.if_icmp .lt o, 3)) (ho : 0 ≤ (pc : Int) + o) (hq : ((pc : Int) + o).toNat = q) (hq' : pc + 3 = q') (ky : x < y → Run p e below s kc kn Q T (mkF m q Ls st)) (kno : ¬ x < y → Run p e below s kc kn Q T (mkF m q' Ls st)) : Run p e below s kc kn Q T (mkF m pc Ls (.int y :: .int x :: st)) := by
  by_cases hc : x < y
  · exact k_icmp_lt_y K X hd hc ho hq (ky hc)
  · exact k_icmp_lt_n K X hd hc hq' (kno hc)
theorem k_icmp_ge_y (K : Fx p s m meth c by' ml own nm ret Z) (X : Stand p l e R s m args below meth c T locs cells slots) {x y : Int32} {o : Int} (hd : decode by' pc = .ok (.if_icmp .ge o, 3)) (hc : ¬ x < y) (ho : 0 ≤ (pc : Int) + o) (hq : ((pc : Int) + o).toNat = q) (k : Run p e below s kc kn Q T (mkF m q Ls st)) : Run p e below s kc kn Q T (mkF m pc Ls (.int y :: .int x :: st)) := k.by fun t => XS.icmpYes X.here K.1 rfl rfl (hb K.2.1 hd) rfl (flt hc).2.1 ho hq
theorem k_icmp_ge_n (K : Fx p s m meth c by' ml own nm ret Z) (X : Stand p l e R s m args below meth c T locs cells slots) {x y : Int32} {o : Int} (hd : decode by' pc = .ok (.if_icmp .ge o, 3)) (hc : x < y) (hq : pc + 3 = q) (k : Run p e below s kc kn Q T (mkF m q Ls st)) : Run p e below s kc kn Q T (mkF m pc Ls (.int y :: .int x :: st)) := by
  subst hq; exact k.by fun t => XS.icmpNo X.here K.1 rfl (hb K.2.1 hd) rfl (tlt hc).2.1
theorem k_if_gt_y (K : Fx p s m meth c by' ml own nm ret Z) (X : Stand p l e R s m args below meth c T locs cells slots) {x : Int32} {o : Int} (hd : decode by' pc = .ok (.ifCond .gt o, 3)) (hc : 0 < x) (ho : 0 ≤ (pc : Int) + o) (hq : ((pc : Int) + o).toNat = q) (k : Run p e below s kc kn Q T (mkF m q Ls st)) : Run p e below s kc kn Q T (mkF m pc Ls (.int x :: st)) := k.by fun t => XS.ifYes X.here K.1 rfl rfl (hb K.2.1 hd) rfl ((if0 _ _).trans (tlt hc).2.2.1) ho hq
theorem k_if_gt_n (K : Fx p s m meth c by' ml own nm ret Z) (X : Stand p l e R s m args below meth c T locs cells slots) {x : Int32} {o : Int} (hd : decode by' pc = .ok (.ifCond .gt o, 3)) (hc : ¬ 0 < x) (hq : pc + 3 = q) (k : Run p e below s kc kn Q T (mkF m q Ls st)) : Run p e below s kc kn Q T (mkF m pc Ls (.int x :: st)) := by
  subst hq; exact k.by fun t => XS.ifNo X.here K.1 rfl (hb K.2.1 hd) rfl ((if0 _ _).trans (flt hc).2.2.1)
theorem k_if_gt (K : Fx p s m meth c by' ml own nm ret Z) (X : Stand p l e R s m args below meth c T locs cells slots) {x : Int32} {o : Int} (hd : decode by' pc = .ok (.ifCond .gt o, 3)) (ho : 0 ≤ (pc : Int) + o) (hq : ((pc : Int) + o).toNat = q) (hq' : pc + 3 = q') (ky : 0 < x → Run p e below s kc kn Q T (mkF m q Ls st)) (kno : ¬ 0 < x → Run p e below s kc kn Q T (mkF m q' Ls st)) : Run p e below s kc kn Q T (mkF m pc Ls (.int x :: st)) := by
  by_cases hc : 0 < x
  · exact k_if_gt_y K X hd hc ho hq (ky hc)
  · exact k_if_gt_n K X hd hc hq' (kno hc)
theorem k_icmp_gt_n (K : Fx p s m meth c by' ml own nm ret Z) (X : Stand p l e R s m args below meth c T locs cells slots) {x y : Int32} {o : Int} (hd : decode by' pc = .ok (.if_icmp .gt o, 3)) (hc : ¬ y < x) (hq : pc + 3 = q) (k : Run p e below s kc kn Q T (mkF m q Ls st)) : Run p e below s kc kn Q T (mkF m pc Ls (.int y :: .int x :: st)) := by
  subst hq; exact k.by fun t => XS.icmpNo X.here K.1 rfl (hb K.2.1 hd) rfl (flt hc).2.2.1
theorem k_icmp_le_y (K : Fx p s m meth c by' ml own nm ret Z) (X : Stand p l e R s m args below meth c T locs cells slots) {x y : Int32} {o : Int} (hd : decode by' pc = .ok (.if_icmp .le o, 3)) (hc : ¬ y < x) (ho : 0 ≤ (pc : Int) + o) (hq : ((pc : Int) + o).toNat = q) (k : Run p e below s kc kn Q T (mkF m q Ls st)) : Run p e below s kc kn Q T (mkF m pc Ls (.int y :: .int x :: st)) := k.by fun t => XS.icmpYes X.here K.1 rfl rfl (hb K.2.1 hd) rfl (flt hc).2.2.2 ho hq
theorem k_icmp_le_n (K : Fx p s m meth c by' ml own nm ret Z) (X : Stand p l e R s m args below meth c T locs cells slots) {x y : Int32} {o : Int} (hd : decode by' pc = .ok (.if_icmp .le o, 3)) (hc : y < x) (hq : pc + 3 = q) (k : Run p e below s kc kn Q T (mkF m q Ls st)) : Run p e below s kc kn Q T (mkF m pc Ls (.int y :: .int x :: st)) := by
  subst hq; exact k.by fun t => XS.icmpNo X.here K.1 rfl (hb K.2.1 hd) rfl (tlt hc).2.2.2
theorem k_icmp_le (K : Fx p s m meth c by' ml own nm ret Z) (X : Stand p l e R s m args below meth c T locs cells slots) {x y : Int32} {o : Int} (hd : decode by' pc = .ok (.if_icmp .le o, 3)) (ho : 0 ≤ (pc : Int) + o) (hq : ((pc : Int) + o).toNat = q) (hq' : pc + 3 = q') (ky : ¬ y < x → Run p e below s kc kn Q T (mkF m q Ls st)) (kno : y < x → Run p e below s kc kn Q T (mkF m q' Ls st)) : Run p e below s kc kn Q T (mkF m pc Ls (.int y :: .int x :: st)) := by
  by_cases hc : y < x
  · exact k_icmp_le_n K X hd hc hq' (kno hc)
  · exact k_icmp_le_y K X hd hc ho hq (ky hc)
theorem k_ldc (K : Fx p s m meth c by' ml own nm ret Z) (X : Stand p l e R s m args below meth c T locs cells slots) {i : Nat} {v : Int32} (hd : decode by' pc = .ok (.ldc i, 2)) (w : (Cond.constant own i v).before a0 Z = true) (hq : pc + 2 = q) (k : Run p e below s kc kn Q T (mkF m q Ls (.int v :: st))) : Run p e below s kc kn Q T (mkF m pc Ls st) := by
  subst hq; exact k.by fun t => X.ldcInt K.1 K.2.2.2.1 (mvT K.2.2.2.2.1 w) (g := mkF m pc Ls st) rfl (hb K.2.1 hd) t
theorem k_ldc_w (K : Fx p s m meth c by' ml own nm ret Z) (X : Stand p l e R s m args below meth c T locs cells slots) {i : Nat} {v : Int32} (hd : decode by' pc = .ok (.ldc_w i, 3)) (w : (Cond.constant own i v).before a0 Z = true) (hq : pc + 3 = q) (k : Run p e below s kc kn Q T (mkF m q Ls (.int v :: st))) : Run p e below s kc kn Q T (mkF m pc Ls st) := by
  subst hq; exact k.by fun t => X.ldcwInt K.1 K.2.2.2.1 (mvT K.2.2.2.2.1 w) (g := mkF m pc Ls st) rfl (hb K.2.1 hd) t
theorem k_ldc2 (K : Fx p s m meth c by' ml own nm ret Z) (X : Stand p l e R s m args below meth c T locs cells slots) {i : Nat} {v : Int64} (hd : decode by' pc = .ok (.ldc2_w i, 3)) (w : (Cond.constantLong own i v).before a0 Z = true) (hq : pc + 3 = q) (k : Run p e below s kc kn Q T (mkF m q Ls (.long v :: st))) : Run p e below s kc kn Q T (mkF m pc Ls st) := by
  subst hq; exact k.by fun t => X.ldc2Long K.1 K.2.2.2.1 (mvT K.2.2.2.2.1 w) (g := mkF m pc Ls st) rfl (hb K.2.1 hd) t
theorem k_reti (K : Fx p s m meth c by' ml own nm (some .int) Z) (X : Stand p l e R s m args below meth c T locs cells slots) {x : Int32} (eT : T.heap = h) (hd : decode by' pc = .ok (.ireturn, 1)) (hc : cells ≤ kc) (hn : slots ≤ kn) (hQ : Q (some (.int x)) h locs) : Run p e below s kc kn Q T (mkF m pc Ls [.int x]) := by
  subst eT
  have hlk := K.2.2.2.2.2.2.1
  obtain ⟨fs, hr, hrun, hended, hW, hsame⟩ := X.leave (v := (some (.int x))) (fun z => by rw [K.2.2.2.2.2.1] at z; cases z)
  exact ⟨_, _, X.ireturnOut K.1 K.2.2.2.2.2.1 rfl (Or.inl rfl) (hb K.2.1 hd) hr, hrun, hended, _, _, rfl, hQ, ⟨_, rfl⟩, hW, hsame.mono hc hn⟩
theorem k_retz (K : Fx p s m meth c by' ml own nm (some .boolean) Z) (X : Stand p l e R s m args below meth c T locs cells slots) {x : Int32} (eT : T.heap = h) (hd : decode by' pc = .ok (.ireturn, 1)) (hc : cells ≤ kc) (hn : slots ≤ kn) (hQ : Q (some (.int (nar .boolean x))) h locs) : Run p e below s kc kn Q T (mkF m pc Ls [.int x]) := by
  subst eT
  have hlk := K.2.2.2.2.2.2.1
  obtain ⟨fs, hr, hrun, hended, hW, hsame⟩ := X.leave (v := (some (.int (nar .boolean x)))) (fun z => by rw [K.2.2.2.2.2.1] at z; cases z)
  exact ⟨_, _, retN X K.1 K.2.2.2.2.2.1 (by simp) (hb K.2.1 hd) hr, hrun, hended, _, _, rfl, hQ, ⟨_, rfl⟩, hW, hsame.mono hc hn⟩
theorem k_retl (K : Fx p s m meth c by' ml own nm (some .long) Z) (X : Stand p l e R s m args below meth c T locs cells slots) {x : Int64} (eT : T.heap = h) (hd : decode by' pc = .ok (.lreturn, 1)) (hc : cells ≤ kc) (hn : slots ≤ kn) (hQ : Q (some (.long x)) h locs) : Run p e below s kc kn Q T (mkF m pc Ls [.long x]) := by
  subst eT
  have hlk := K.2.2.2.2.2.2.1
  obtain ⟨fs, hr, hrun, hended, hW, hsame⟩ := X.leave (v := (some (.long x))) (fun z => by rw [K.2.2.2.2.2.1] at z; cases z)
  exact ⟨_, _, X.lreturnOut K.1 K.2.2.2.2.2.1 (hb K.2.1 hd) hr, hrun, hended, _, _, rfl, hQ, ⟨_, rfl⟩, hW, hsame.mono hc hn⟩
theorem k_retv (K : Fx p s m meth c by' ml own nm none Z) (X : Stand p l e R s m args below meth c T locs cells slots)  (eT : T.heap = h) (hd : decode by' pc = .ok (.return_, 1)) (hc : cells ≤ kc) (hn : slots ≤ kn) (hQ : Q none h locs) : Run p e below s kc kn Q T (mkF m pc Ls []) := by
  subst eT
  have hlk := K.2.2.2.2.2.2.1
  obtain ⟨fs, hr, hrun, hended, hW, hsame⟩ := X.leave (v := none) (fun _ => rfl)
  exact ⟨_, _, X.returnOut K.1 K.2.2.2.2.2.1 (hb K.2.1 hd) hr, hrun, hended, _, _, rfl, hQ, ⟨_, rfl⟩, hW, hsame.mono hc hn⟩
/-- a contract: with these arguments over this heap the body returns as Q says, within the room -/
abbrev Met (l : Launch) (y : MethodName) (bytes : ByteArray) (maxL : Nat) (ret : Option FieldType) (ws : List Jvm.Cond) (rm : Room) (Z : State) (as' : Array Value) (h0 : Heap) (Q : Option Value → Heap → List Loc → Prop) : Prop :=
  MetFree l y (head1 (Jvm.Cond.code y bytes maxL ret :: ws) rm) (fun a U => a = as' ∧ Z.Warmed39 U.vm ∧ U.heap = h0) (fun _ _ _ _ _ => True) (fun _ U o U' => ∃ v L, o = .returned v ∧ Q v U'.heap L ∧ FrameEnd U o U' L rm.cells rm.slots)
theorem enter {y : MethodName} {bytes : ByteArray} {maxL : Nat} {ws : List Jvm.Cond} {rm : Room} {as' : Array Value} {h0 : Heap} (hpl : plainFor y = true) (hef : ∀ m, entryFrame m as' maxL = mkF m 0 Ls [])
    (body : ∀ p e s m below meth c T kc kn Q', rm.cells ≤ kc → rm.slots ≤ kn → (∀ v h L, Q v h L → Q' v h L) → Fx p s m meth c bytes maxL y.cls y.name ret Z → Stand p l e rm s m as' below meth c T [] 0 0 → T.heap = h0 → Run p e below s kc kn Q' T (mkF m 0 Ls [])) : Met l y bytes maxL ret ws rm Z as' h0 Q := by
  refine MetFree.of_bodySF hpl hisR ?_
  intro p e s m args below meth c s₁ Bd hml0 hP hK
  obtain ⟨rfl, hZ, hh⟩ := hP
  obtain ⟨t, o, h1, h2, h3, v, L, h4, h5, h6⟩ := body p e s m below meth c s₁ _ _ Q (Nat.le_refl _) (Nat.le_refl _) (fun _ _ _ z => z) ⟨Bd.exec, Bd.bytes, hml0, findClass_of_methodNamed Bd.named, hZ, Bd.returns, BodyLoose.notSynchronized Bd, (name_of_methodNamed Bd.named Bd.method).1⟩ (Stand.of_body Bd) (by rw [← hh, Bd.state]; rfl)
  exact ⟨t, o, castTop (hef m) h1, h2, h3, v, L, h4, h5, h6⟩
theorem k_static (K : Fx p s m meth c by' ml own nm ret Z) (X : Stand p l e R s m args below meth c T locs cells slots) (eT : T.heap = h) {y : MethodName} {bytes : ByteArray} {maxL i W : Nat} {rt : Option FieldType} {rm : Room} {as' : Array Value} {Q' : Option Value → Heap → List Loc → Prop}
    (hd : decode by' pc = .ok (.invokestatic i, 3)) (w1 : (Cond.methodLink own i y).before a0 Z = true) (w2 : (Cond.static y).before a0 Z = true) (w3 : (Cond.initialized y.cls).before a0 Z = true) (w4 : (Cond.code y bytes maxL rt).before a0 Z = true) (hy : y.cls ≠ "java/lang/invoke/MethodHandle" ∧ y.cls ≠ "java/lang/invoke/VarHandle")
    (hM : Met l y bytes maxL rt [] rm Z as' h Q') (hf : rm.frames + 1 ≤ R.frames) (hl : W + (maxL + 11) + rm.locals ≤ R.locals) (hc : cells + rm.cells ≤ R.cells) (hn : slots + rm.slots ≤ R.slots) (hsz : Ls.size = ml)
    {sig : MethodDescriptor} (hdesc : parseMethodDescriptor y.desc = some sig) {argsL rest : List Value} (ha : as' = argsL.toArray) (hlen : argsL.length = sig.parameters.length) (hst : st = argsL.reverse ++ rest) (hW : (rest.map fun v => v.category).sum ≤ W) (hq : pc + 3 = q)
    (k : ∀ v T' L, Stand p l e R s m args below meth c T' (locs ++ L) (cells + rm.cells) (slots + rm.slots) → Q' v T'.heap L → Run p e below s kc kn Q T' (mkF m q Ls (v.toList ++ rest))) : Run p e below s kc kn Q T (mkF m pc Ls st) := by
  have hZ := K.2.2.2.2.1
  subst hq
  obtain ⟨v, _, ⟨T2, L2, k2, n2⟩, -, X2, ⟨Lc, hQ2, l2, y2, z2⟩, st2⟩ := Jvm.LawKit.callS X K.1 (y := y) K.2.2.2.1 (mvT hZ w1) (mvT hZ w2) (mvT hZ w3) (mvT hZ w4) hy (backOf (W := W) hM hZ w4 w3 hf hl) (g := mkF m pc Ls st) rfl (by rw [K.2.2.1]; exact hsz) (argsL := argsL) (rest := rest) (fun sg hs => by cases hdesc.symm.trans hs; exact hlen) hst (by show 2 * 0 + _ ≤ _; omega) (hb K.2.1 hd) (fun _ _ => ⟨ha.symm, eT, hc, hn⟩)
  dsimp only [Pt.U, Pt.locs, Pt.cells, Pt.slots] at X2 l2 y2 z2 st2 hQ2
  subst l2 y2 z2
  exact (k v T2 Lc X2 hQ2).by st2
/-- a static callee that leaves the heap as it was -/
theorem k_staticP (K : Fx p s m meth c by' ml own nm ret Z) (X : Stand p l e R s m args below meth c T locs cells slots) (eT : T.heap = h) {y : MethodName} {bytes : ByteArray} {maxL i W fr lo : Nat} {rt : Option FieldType} {as' : Array Value} {w : Value}
    (hd : decode by' pc = .ok (.invokestatic i, 3)) (w1 : (Cond.methodLink own i y).before a0 Z = true) (w2 : (Cond.static y).before a0 Z = true) (w3 : (Cond.initialized y.cls).before a0 Z = true) (w4 : (Cond.code y bytes maxL rt).before a0 Z = true) (hy : y.cls ≠ "java/lang/invoke/MethodHandle" ∧ y.cls ≠ "java/lang/invoke/VarHandle")
    (hM : Met l y bytes maxL rt [] { frames := fr, cells := 0, slots := 0, locals := lo } Z as' h (fun v h' L => v = some w ∧ h' = h ∧ L = [])) (hf : fr + 1 ≤ R.frames) (hl : W + (maxL + 11) + lo ≤ R.locals) (hc : cells ≤ R.cells) (hn : slots ≤ R.slots) (hsz : Ls.size = ml)
    {sig : MethodDescriptor} (hdesc : parseMethodDescriptor y.desc = some sig) {argsL rest : List Value} (ha : as' = argsL.toArray) (hlen : argsL.length = sig.parameters.length) (hst : st = argsL.reverse ++ rest) (hW : (rest.map fun v => v.category).sum ≤ W) (hq : pc + 3 = q)
    (k : ∀ T', Stand p l e R s m args below meth c T' locs cells slots → T'.heap = h → Run p e below s kc kn Q T' (mkF m q Ls (w :: rest))) : Run p e below s kc kn Q T (mkF m pc Ls st) := by
  refine k_static K X eT hd w1 w2 w3 w4 hy hM hf hl hc hn hsz hdesc ha hlen hst hW hq ?_
  rintro v T' L X' ⟨rfl, h2, rfl⟩
  rw [List.append_nil] at X'
  exact k T' X' h2
theorem k_special (K : Fx p s m meth c by' ml own nm ret Z) (X : Stand p l e R s m args below meth c T locs cells slots) (eT : T.heap = h) {y : MethodName} {bytes : ByteArray} {maxL i W : Nat} {rm : Room} {as' : Array Value} {Q' : Option Value → Heap → List Loc → Prop} {a : Addr}
    (hd : decode by' pc = .ok (.invokespecial i, 3)) (hy1 : y.name = "<init>") (w1 : (Cond.methodLink own i y).before a0 Z = true) (w2 : (Cond.instanceMethod y).before a0 Z = true) (w3 : (Cond.initialized y.cls).before a0 Z = true) (w4 : (Cond.code y bytes maxL none).before a0 Z = true) (hy : y.cls ≠ "java/lang/invoke/MethodHandle" ∧ y.cls ≠ "java/lang/invoke/VarHandle")
    (hM : Met l y bytes maxL none [] rm Z as' h Q') (hf : rm.frames + 1 ≤ R.frames) (hl : W + (maxL + 11) + rm.locals ≤ R.locals) (hc : cells + rm.cells ≤ R.cells) (hn : slots + rm.slots ≤ R.slots) (hsz : Ls.size = ml)
    {sig : MethodDescriptor} (hdesc : parseMethodDescriptor y.desc = some sig) {argsL rest : List Value} (ha : as' = (.ref a :: argsL).toArray) (hlen : argsL.length = sig.parameters.length) (hst : st = argsL.reverse ++ .ref a :: rest) (hW : (rest.map fun v => v.category).sum ≤ W) (hq : pc + 3 = q)
    (k : ∀ v T' L, Stand p l e R s m args below meth c T' (locs ++ L) (cells + rm.cells) (slots + rm.slots) → Q' v T'.heap L → Run p e below s kc kn Q T' (mkF m q Ls (v.toList ++ rest))) : Run p e below s kc kn Q T (mkF m pc Ls st) := by
  have hZ := K.2.2.2.2.1
  subst hq
  obtain ⟨v, _, ⟨T2, L2, k2, n2⟩, -, X2, ⟨Lc, hQ2, l2, y2, z2⟩, st2⟩ := X.specialBack K.1 (y := y) hy1 K.2.2.2.1 (mvT hZ w1) (mvT hZ w2) (mvT hZ w4) hy (backOf (W := W) hM hZ w4 w3 hf hl) (g := mkF m pc Ls st) rfl (by rw [K.2.2.1]; exact hsz) (Steps.refl _) (a := a) (argsL := argsL) (rest := rest) (fun sg hs => by cases hdesc.symm.trans hs; exact hlen) hst (by show 2 * 0 + _ ≤ _; omega) (hb K.2.1 hd) (fun _ _ => ⟨ha.symm, eT, hc, hn⟩)
  dsimp only [Pt.U, Pt.locs, Pt.cells, Pt.slots] at X2 l2 y2 z2 st2 hQ2
  subst l2 y2 z2
  exact (k v T2 Lc X2 hQ2).on st2
theorem k_virtual (K : Fx p s m meth c by' ml own nm ret Z) (X : Stand p l e R s m args below meth c T locs cells slots) (eT : T.heap = h) {y : MethodName} {bytes : ByteArray} {maxL i W : Nat} {rt : Option FieldType} {rm : Room} {as' : Array Value} {Q' : Option Value → Heap → List Loc → Prop} {a : Addr}
    (hd : decode by' pc = .ok (.invokevirtual i, 3)) (w1 : (Cond.methodLink own i y).before a0 Z = true) (w2 : (Cond.declares y).before a0 Z = true) (w5 : (Cond.selects y.cls y y).before a0 Z = true) (w6 : (Cond.instanceMethod y).before a0 Z = true) (w3 : (Cond.initialized y.cls).before a0 Z = true) (w4 : (Cond.code y bytes maxL rt).before a0 Z = true) (hy : y.cls ≠ "java/lang/invoke/MethodHandle" ∧ y.cls ≠ "java/lang/invoke/VarHandle")
    (hE : Exa Z h a y.cls) (hM : Met l y bytes maxL rt [] rm Z as' h Q') (hf : rm.frames + 1 ≤ R.frames) (hl : W + (maxL + 11) + rm.locals ≤ R.locals) (hc : cells + rm.cells ≤ R.cells) (hn : slots + rm.slots ≤ R.slots) (hsz : Ls.size = ml)
    {sig : MethodDescriptor} (hdesc : parseMethodDescriptor y.desc = some sig) {argsL rest : List Value} (ha : as' = (.ref a :: argsL).toArray) (hlen : argsL.length = sig.parameters.length) (hst : st = argsL.reverse ++ .ref a :: rest) (hW : (rest.map fun v => v.category).sum ≤ W) (hq : pc + 3 = q)
    (k : ∀ v T' L, Stand p l e R s m args below meth c T' (locs ++ L) (cells + rm.cells) (slots + rm.slots) → Q' v T'.heap L → Run p e below s kc kn Q T' (mkF m q Ls (v.toList ++ rest))) : Run p e below s kc kn Q T (mkF m pc Ls st) := by
  have hZ := K.2.2.2.2.1
  subst hq
  obtain ⟨cq, kq, qa, qb, qc⟩ := isOf hZ eT hE
  obtain ⟨v, _, ⟨T2, L2, k2, n2⟩, -, X2, ⟨Lc, hQ2, l2, y2, z2⟩, st2⟩ := X.virtualBack K.1 (y := y) (z := y) K.2.2.2.1 (mvT hZ w1) (mvT hZ w2) (notFace_of_selects (args := #[]) (mvT hZ w5)) (mvT hZ w5) (mvT hZ w6) hy (backOf (W := W) hM hZ w4 w3 hf hl) qa qc (g := mkF m pc Ls st) rfl (by rw [K.2.2.1]; exact hsz) (Steps.refl _) (argsL := argsL) (rest := rest) (fun sg hs => by cases hdesc.symm.trans hs; exact hlen) hst (by show 2 * 0 + _ ≤ _; omega) (hb K.2.1 hd) (fun _ _ => ⟨ha.symm, eT, hc, hn⟩)
  dsimp only [Pt.U, Pt.locs, Pt.cells, Pt.slots] at X2 l2 y2 z2 st2 hQ2
  subst l2 y2 z2
  exact (k v T2 Lc X2 hQ2).on st2
theorem k_initO (K : Fx p s m meth c by' ml own nm ret Z) (X : Stand p l e R s m args below meth c T locs cells slots) (eT : T.heap = h) {i W : Nat} {a : Addr} (hd : decode by' pc = .ok (.invokespecial i, 3)) (w1 : (Cond.methodLink own i Lib.objectInit).before a0 Z = true) (w2 : (Cond.instanceMethod Lib.objectInit).before a0 Z = true) (w3 : (Cond.code Lib.objectInit ⟨#[0xb1]⟩ 1 none).before a0 Z = true)
    (hsz : Ls.size = ml) (hf : 1 ≤ R.frames) (hW : (st.map fun v => v.category).sum ≤ W) (hl : W + 12 ≤ R.locals) (hq : pc + 3 = q)
    (k : ∀ T', Stand p l e R s m args below meth c T' locs cells slots → T'.heap = h → Run p e below s kc kn Q T' (mkF m q Ls st)) : Run p e below s kc kn Q T (mkF m pc Ls (.ref a :: st)) := by
  subst hq
  obtain ⟨T2, X2, e2, st2⟩ := initO X K.1 K.2.2.2.2.1 K.2.2.2.1 w1 w2 w3 eT (g := mkF m pc Ls (.ref a :: st)) rfl (by rw [K.2.2.1]; exact hsz) rfl (hb K.2.1 hd) hf (W := W) (by show 2 * 0 + _ ≤ _; omega) hl
  exact (k T2 X2 e2).by st2
theorem k_new (K : Fx p s m meth c by' ml own nm ret Z) (X : Stand p l e R s m args below meth c T locs cells slots) (eT : T.heap = h) {i n : Nat} {C : String} (hd : decode by' pc = .ok (.new i, 3)) (w1 : (Cond.classLink own i C).before a0 Z = true) (w2 : (Cond.instantiable C n).before a0 Z = true) (w3 : (Cond.initialized C).before a0 Z = true) (hc : cells + 1 ≤ R.cells) (hn : slots + n ≤ R.slots) (hq : pc + 3 = q)
    (k : ∀ T' h' a, Stand p l e R s m args below meth c T' locs (cells + 1) (slots + n) → T'.heap = h' → a = h.size → Ext h h' → Exa Z h' a C → (∀ {O fn d : String} {ty : FieldType}, Laid Z a0 C O fn d → parseFieldDescriptor d = some ty → Fld Z h' a O fn d (defaultValue ty)) → Run p e below s kc kn Q T' (mkF m q Ls (.ref a :: st))) : Run p e below s kc kn Q T (mkF m pc Ls st) := by
  subst hq
  obtain ⟨T2, h2, X2, e2, E2, A2, D2, -, st2⟩ := newO X K.1 K.2.2.2.2.1 K.2.2.2.1 w1 w2 w3 eT (g := mkF m pc Ls st) rfl (hb K.2.1 hd) hc hn
  exact (k T2 h2 h.size X2 e2 rfl E2 A2 D2).by st2
theorem k_getfield (K : Fx p s m meth c by' ml own nm ret Z) (X : Stand p l e R s m args below meth c T locs cells slots) (eT : T.heap = h) {i : Nat} {O fn d : String} {a : Addr} {v : Value} (hd : decode by' pc = .ok (.getfield i, 3)) (w : (Cond.fieldLink own i O fn d).before a0 Z = true) (F : Fld Z h a O fn d v) (hq : pc + 3 = q)
    (k : ∀ T', Stand p l e R s m args below meth c T' locs cells slots → T'.heap = h → Run p e below s kc kn Q T' (mkF m q Ls (v :: st))) : Run p e below s kc kn Q T (mkF m pc Ls (.ref a :: st)) := by
  subst hq
  obtain ⟨T2, X2, e2, st2⟩ := getF X K.1 K.2.2.2.2.1 K.2.2.2.1 (host := "") (Or.inl w) Via.refl eT F (g := mkF m pc Ls (.ref a :: st)) rfl rfl (hb K.2.1 hd)
  exact (k T2 X2 e2).by st2
theorem k_putfield (K : Fx p s m meth c by' ml own nm ret Z) (X : Stand p l e R s m args below meth c T locs cells slots) (eT : T.heap = h) {i n : Nat} {O C fn d : String} {ty : FieldType} {a : Addr} {v old : Value} (hd : decode by' pc = .ok (.putfield i, 3)) (w : (Cond.fieldLink own i O fn d).before a0 Z = true) (F : Fld Z h a O fn d old) (E : Exa Z h a C) (L : (Cond.lays C O fn d).before a0 Z = true ∨ ((Cond.laysFinal C O fn d).before a0 Z = true ∧ own = O ∧ nm = "<init>")) (wi : (Cond.instantiable C n).before a0 Z = true)
    (hty : parseFieldDescriptor d = some ty) (hnar : narrow ty v = v) (hfit : fits ty v = true) (hq : pc + 3 = q)
    (k : ∀ T' h', Stand p l e R s m args below meth c T' (locs ++ [⟨a, Jvm.RoadKit.slotOf Z O fn d⟩]) cells slots → T'.heap = h' → Wr h h' a (Jvm.RoadKit.slotOf Z O fn d) v → Run p e below s kc kn Q T' (mkF m q Ls st)) : Run p e below s kc kn Q T (mkF m pc Ls (v :: .ref a :: st)) := by
  subst hq
  obtain ⟨T2, h2, X2, e2, W2, st2⟩ := putF X K.1 K.2.2.2.2.1 K.2.2.2.1 (host := "") (Or.inl w) Via.refl eT F E (L.imp id fun z => ⟨z.1, z.2.1, K.2.2.2.2.2.2.2.trans z.2.2⟩) wi hty hnar hfit (g := mkF m pc Ls (v :: .ref a :: st)) rfl rfl (hb K.2.1 hd)
  exact (k T2 h2 X2 e2 W2).by st2
/-- an instance method that leaves the heap as it was -/
theorem k_virtualP (K : Fx p s m meth c by' ml own nm ret Z) (X : Stand p l e R s m args below meth c T locs cells slots) (eT : T.heap = h) {y : MethodName} {bytes : ByteArray} {maxL i W fr lo : Nat} {rt : Option FieldType} {as' : Array Value} {w : Value} {a : Addr}
    (hd : decode by' pc = .ok (.invokevirtual i, 3)) (w1 : (Cond.methodLink own i y).before a0 Z = true) (w2 : (Cond.declares y).before a0 Z = true) (w5 : (Cond.selects y.cls y y).before a0 Z = true) (w6 : (Cond.instanceMethod y).before a0 Z = true) (w3 : (Cond.initialized y.cls).before a0 Z = true) (w4 : (Cond.code y bytes maxL rt).before a0 Z = true) (hy : y.cls ≠ "java/lang/invoke/MethodHandle" ∧ y.cls ≠ "java/lang/invoke/VarHandle")
    (hE : Exa Z h a y.cls) (hM : Met l y bytes maxL rt [] { frames := fr, cells := 0, slots := 0, locals := lo } Z as' h (fun v h' L => v = some w ∧ h' = h ∧ L = [])) (hf : fr + 1 ≤ R.frames) (hl : W + (maxL + 11) + lo ≤ R.locals) (hc : cells ≤ R.cells) (hn : slots ≤ R.slots) (hsz : Ls.size = ml)
    {sig : MethodDescriptor} (hdesc : parseMethodDescriptor y.desc = some sig) {argsL rest : List Value} (ha : as' = (.ref a :: argsL).toArray) (hlen : argsL.length = sig.parameters.length) (hst : st = argsL.reverse ++ .ref a :: rest) (hW : (rest.map fun v => v.category).sum ≤ W) (hq : pc + 3 = q)
    (k : ∀ T', Stand p l e R s m args below meth c T' locs cells slots → T'.heap = h → Run p e below s kc kn Q T' (mkF m q Ls (w :: rest))) : Run p e below s kc kn Q T (mkF m pc Ls st) := by
  refine k_virtual K X eT hd w1 w2 w5 w6 w3 w4 hy hE hM hf hl hc hn hsz hdesc ha hlen hst hW hq ?_
  rintro v T' L X' ⟨rfl, h2, rfl⟩
  rw [List.append_nil] at X'
  exact k T' X' h2
theorem setD {α β : Type} (f : α → β) (L : List α) (k : Nat) (x d : α) (hk : k < L.length) (i : Nat) : (if i = k then f x else f (L.getD i d)) = f ((L.set k x).getD i d) := by
  simp only [List.getD_eq_getElem?_getD]
  by_cases q : i = k
  · subst q; simp [hk]
  · rw [if_neg q, List.getElem?_set_ne (Ne.symm q)]
def upd {α : Type} (g : Nat → α) (i : Nat) (v : α) : Nat → α := fun k => if k = i then v else g k
/-- an array of n places; place i holds g i -/
def Ary (Z : State) (h : Heap) (a : Addr) (ty : FieldType) (n : Nat) (g : Nat → Value) : Prop := ∃ c : Cell, Arr Z h a c ty ∧ c.slots.size = n ∧ n < 2147483648 ∧ (∀ i, i < n → c.slots[i]? = some (g i)) ∧ ∀ i, i < n → fits ty (g i) = true
theorem Ary.lt {a : Addr} {ty : FieldType} {n : Nat} {g : Nat → Value} (F : Ary Z h a ty n g) : a < h.size := by obtain ⟨c, A, -⟩ := F; exact A.lt
theorem Ary.ext {h' : Heap} {a : Addr} {ty : FieldType} {n : Nat} {g : Nat → Value} (F : Ary Z h a ty n g) (E : Ext h h') : Ary Z h' a ty n g := by obtain ⟨c, A, r⟩ := F; exact ⟨c, A.ext E, r⟩
theorem Ary.other {h' : Heap} {a b : Addr} {ty : FieldType} {n sl : Nat} {v : Value} {g : Nat → Value} (F : Ary Z h b ty n g) (W : Wr h h' a sl v) (q : b ≠ a) : Ary Z h' b ty n g := by obtain ⟨c, A, r⟩ := F; exact ⟨c, A.other W q, r⟩
theorem Ary.keep {h' : Heap} {a : Addr} {ty : FieldType} {n : Nat} {g : Nat → Value} {ws : List Addr} (F : Ary Z h a ty n g) (K : Keep h h' ws) (q : a ∉ ws) : Ary Z h' a ty n g := by obtain ⟨c, A, r⟩ := F; exact ⟨c, ⟨K.2.1 a c A.1 q, A.2⟩, r⟩
theorem Ary.eqv {a : Addr} {ty : FieldType} {n : Nat} {g g' : Nat → Value} (F : Ary Z h a ty n g) (q : ∀ i, i < n → g i = g' i) : Ary Z h a ty n g' := by
  obtain ⟨c, A, r1, r2, r3, r4⟩ := F; exact ⟨c, A, r1, r2, fun i hi => by rw [← q i hi]; exact r3 i hi, fun i hi => by rw [← q i hi]; exact r4 i hi⟩
theorem Ary.set {h' : Heap} {a : Addr} {ty : FieldType} {n i : Nat} {v : Value} {g : Nat → Value} (F : Ary Z h a ty n g) (W : Wr h h' a i v) (hv : fits ty v = true) : Ary Z h' a ty n (fun k => if k = i then v else g k) := by
  obtain ⟨c, A, r1, r2, r3, r4⟩ := F
  obtain ⟨c', w1, w2, w3, w4⟩ := W
  cases A.1.symm.trans w1
  refine ⟨_, A.same ⟨c, w1, w2, w3, w4⟩, by rw [sz_set]; exact r1, r2, fun k hk => ?_, fun k hk => ?_⟩
  · show (c.setSlot i v).slots[k]? = some (if k = i then v else g k)
    by_cases q : k = i
    · subst q; simp [Cell.setSlot, w3]
    · rw [if_neg q]
      show (c.slots.setIfInBounds i v)[k]? = _
      rw [Array.getElem?_setIfInBounds_ne (Ne.symm q)]; exact r3 k hk
  · show fits ty (if k = i then v else g k) = true
    by_cases q : k = i
    · rw [if_pos q]; exact hv
    · rw [if_neg q]; exact r4 k hk
/-- the int j is the place i -/
abbrev Ix (j : Int32) (i : Nat) : Prop := ¬ j < 0 ∧ j.toNatClampNeg = i
theorem Ix.of {j : Int32} {i : Nat} (h : j.toInt = i) : Ix j i := by
  refine ⟨?_, ?_⟩
  · rw [Int32.lt_iff_toInt_lt, h]; have : (0 : Int32).toInt = 0 := rfl
    omega
  · simp only [Int32.toNatClampNeg, h]; omega
theorem Ix.inb {j : Int32} {i n : Nat} (hi : Ix j i) (hn : i < n) {cl : Cell} (hs : cl.slots.size = n) : ¬ (j < 0 ∨ cl.slots.size ≤ j.toNatClampNeg) := fun z => z.elim hi.1 fun z => by rw [hs, hi.2] at z; omega
theorem k_iaload (K : Fx p s m meth c by' ml own nm ret Z) (X : Stand p l e R s m args below meth c T locs cells slots) (eT : T.heap = h) {a : Addr} {n i : Nat} {g : Nat → Value} {j : Int32} {v : Value} (hd : decode by' pc = .ok (.iaload, 1)) (A : Ary Z h a .int n g) (hi : Ix j i) (hn : i < n) (hg : g i = v) (hq : pc + 1 = q) (k : Run p e below s kc kn Q T (mkF m q Ls (v :: st))) : Run p e below s kc kn Q T (mkF m pc Ls (.int j :: .ref a :: st)) := by
  subst hq hg
  obtain ⟨c', A, r1, r2, r3, -⟩ := A
  exact k.by fun t => X.iaload K.1 (j := j) (v := g i) (by rw [eT]; exact A.1) (State.isArrayOf_alike K.2.2.2.2.1.alike A.2.1) A.2.2 (hi.inb hn r1) (by rw [hi.2]; exact r3 i hn) (g := mkF m pc Ls (.int j :: .ref a :: st)) rfl rfl (hb K.2.1 hd) t
theorem k_laload (K : Fx p s m meth c by' ml own nm ret Z) (X : Stand p l e R s m args below meth c T locs cells slots) (eT : T.heap = h) {a : Addr} {n i : Nat} {g : Nat → Value} {j : Int32} {v : Value} (hd : decode by' pc = .ok (.laload, 1)) (A : Ary Z h a .long n g) (hi : Ix j i) (hn : i < n) (hg : g i = v) (hq : pc + 1 = q) (k : Run p e below s kc kn Q T (mkF m q Ls (v :: st))) : Run p e below s kc kn Q T (mkF m pc Ls (.int j :: .ref a :: st)) := by
  subst hq hg
  obtain ⟨c', A, r1, r2, r3, -⟩ := A
  exact k.by fun t => X.laload K.1 (j := j) (v := g i) (by rw [eT]; exact A.1) (State.isArrayOf_alike K.2.2.2.2.1.alike A.2.1) A.2.2 (hi.inb hn r1) (by rw [hi.2]; exact r3 i hn) (g := mkF m pc Ls (.int j :: .ref a :: st)) rfl rfl (hb K.2.1 hd) t
theorem k_iastore (K : Fx p s m meth c by' ml own nm ret Z) (X : Stand p l e R s m args below meth c T locs cells slots) (eT : T.heap = h) {a : Addr} {n i : Nat} {g : Nat → Value} {j : Int32} {x : Int32} (hd : decode by' pc = .ok (.iastore, 1)) (A : Ary Z h a .int n g) (hi : Ix j i) (hn : i < n) (hq : pc + 1 = q)
    (k : ∀ T' h', Stand p l e R s m args below meth c T' (locs ++ [⟨a, i⟩]) cells slots → T'.heap = h' → Wr h h' a i (.int x) → Ary Z h' a .int n (fun k => if k = i then .int x else g k) → Run p e below s kc kn Q T' (mkF m q Ls st)) : Run p e below s kc kn Q T (mkF m pc Ls (.int x :: .int j :: .ref a :: st)) := by
  subst hq
  have A0 := A
  obtain ⟨c', A, r1, r2, r3, -⟩ := A
  obtain ⟨T2, h2, X2, e2, W2, st2⟩ := stI X K.1 K.2.2.2.2.1 eT A (j := j) (hi.inb hn r1) (g := mkF m pc Ls (.int x :: .int j :: .ref a :: st)) rfl rfl (hb K.2.1 hd)
  rw [hi.2] at X2 W2
  exact (k T2 h2 X2 e2 W2 (A0.set W2 (rfl))).by st2
theorem k_lastore (K : Fx p s m meth c by' ml own nm ret Z) (X : Stand p l e R s m args below meth c T locs cells slots) (eT : T.heap = h) {a : Addr} {n i : Nat} {g : Nat → Value} {j : Int32} {x : Int64} (hd : decode by' pc = .ok (.lastore, 1)) (A : Ary Z h a .long n g) (hi : Ix j i) (hn : i < n) (hq : pc + 1 = q)
    (k : ∀ T' h', Stand p l e R s m args below meth c T' (locs ++ [⟨a, i⟩]) cells slots → T'.heap = h' → Wr h h' a i (.long x) → Ary Z h' a .long n (fun k => if k = i then .long x else g k) → Run p e below s kc kn Q T' (mkF m q Ls st)) : Run p e below s kc kn Q T (mkF m pc Ls (.long x :: .int j :: .ref a :: st)) := by
  subst hq
  have A0 := A
  obtain ⟨c', A, r1, r2, r3, -⟩ := A
  obtain ⟨T2, h2, X2, e2, W2, st2⟩ := stJ X K.1 K.2.2.2.2.1 eT A (j := j) (hi.inb hn r1) (g := mkF m pc Ls (.long x :: .int j :: .ref a :: st)) rfl rfl (hb K.2.1 hd)
  rw [hi.2] at X2 W2
  exact (k T2 h2 X2 e2 W2 (A0.set W2 (rfl))).by st2
theorem k_arraylength (K : Fx p s m meth c by' ml own nm ret Z) (X : Stand p l e R s m args below meth c T locs cells slots) (eT : T.heap = h) {a : Addr} {ty : FieldType} {n : Nat} {g : Nat → Value} {v : Int32} (hd : decode by' pc = .ok (.arraylength, 1)) (A : Ary Z h a ty n g) (hv : n.toInt32 = v) (hq : pc + 1 = q) (k : Run p e below s kc kn Q T (mkF m q Ls (.int v :: st))) : Run p e below s kc kn Q T (mkF m pc Ls (.ref a :: st)) := by
  subst hq hv
  obtain ⟨c', A, r1, r2, r3, -⟩ := A
  subst r1
  exact k.by fun t => X.arraylength K.1 (by rw [eT]; exact A.1) (State.isArrayOf_alike K.2.2.2.2.1.alike A.2.1) (g := mkF m pc Ls (.ref a :: st)) rfl rfl (hb K.2.1 hd) t
theorem k_newarray (K : Fx p s m meth c by' ml own nm ret Z) (X : Stand p l e R s m args below meth c T locs cells slots) (eT : T.heap = h) {aty : ArrayType} {ty : FieldType} {z : Int32} {n cap : Nat} (hd : decode by' pc = .ok (.newarray aty, 2)) (hty : newarray.typeOf aty = ty) (w : (Cond.arrayClass ty).before a0 Z = true) (hz : Ix z n) (hcap : n ≤ cap) (h8 : cap * 8 ≤ 536870912) (hc : cells + 1 ≤ R.cells) (hn : slots + cap ≤ R.slots) (hq : pc + 2 = q)
    (k : ∀ T' h' a, Stand p l e R s m args below meth c T' locs (cells + 1) (slots + cap) → T'.heap = h' → a = h.size → Ext h h' → Ary Z h' a ty n (fun _ => defaultValue ty) → Run p e below s kc kn Q T' (mkF m q Ls (.ref a :: st))) : Run p e below s kc kn Q T (mkF m pc Ls (.int z :: st)) := by
  subst hq hty
  obtain ⟨T2, h2, cA, X2, e2, E2, A2, st2⟩ := newP X K.1 K.2.2.2.2.1 w eT (g := mkF m pc Ls (.int z :: st)) rfl (hb K.2.1 hd) rfl hz.1 (cap := cap) (by rw [hz.2]; exact hcap) h8 hc hn
  refine (k T2 h2 h.size X2 e2 rfl E2 ⟨_, A2, (sz_new _ _ _).trans hz.2, by omega, fun i hi => ?_, fun i _ => ?_⟩).by st2
  · rw [← hz.2] at hi; simp [newA, hi]
  · cases aty <;> rfl
end OwnKit

theorem wd {Z : State} {az : Array Value} (hw : ∀ d ∈ tables_1, d.before az Z = true) (k : Nat) {d : Jvm.Cond} (h : tables_1[k]? = some d) : d.before az Z = true := hw _ (List.mem_of_getElem? h)
theorem d1_0 : decode method_2_code 0 = .ok (.iload_n 0, 1) := by decide +kernel
theorem d1_1 : decode method_2_code 1 = .ok (.ifCond .ne 5, 3) := by decide +kernel
theorem d1_6 : decode method_2_code 6 = .ok (.iload_n 0, 1) := by decide +kernel
theorem d1_7 : decode method_2_code 7 = .ok (.iconst 1, 1) := by decide +kernel
theorem d1_8 : decode method_2_code 8 = .ok (.if_icmp .ne 5, 3) := by decide +kernel
theorem d1_13 : decode method_2_code 13 = .ok (.iload_n 3, 1) := by decide +kernel
theorem d1_14 : decode method_2_code 14 = .ok (.ireturn, 1) := by decide +kernel
theorem d1_11 : decode method_2_code 11 = .ok (.iload_n 2, 1) := by decide +kernel
theorem d1_12 : decode method_2_code 12 = .ok (.ireturn, 1) := by decide +kernel
theorem d1_4 : decode method_2_code 4 = .ok (.iload_n 1, 1) := by decide +kernel
theorem d1_5 : decode method_2_code 5 = .ok (.ireturn, 1) := by decide +kernel
theorem ef_1 (p0 : Int32) (p1 : Int32) (p2 : Int32) (p3 : Int32) : ∀ m : MethodId, entryFrame m #[(.int p0), (.int p1), (.int p2), (.int p3)] 4 = mkF m 0 #[.val (.int p0), .val (.int p1), .val (.int p2), .val (.int p3)] [] := by intro m; first | (simp [entryFrame, mkF, argsToLocals, Value.category]; done) | rfl
theorem pn_0 : plainName "com/example/dayflower/dayflower/filter/FilterSlabHoldingPinLaw" = true := by first | (simp [plainName, overriddenIn]; done) | decide +kernel
def F_pick (p0 : Int32) (p1 : Int32) (p2 : Int32) (p3 : Int32) : Int32 :=
  if p0 = (0 : Int32) then
    p1
  else
    if p0 = (1 : Int32) then
      p2
    else
      p3
set_option maxRecDepth 65536 in
set_option maxHeartbeats 40000000 in
theorem rm1 (l : Launch) (Z : State) (az : Array Value) (hw : ∀ d ∈ tables_1, d.before az Z = true) (ws : List Jvm.Cond) (p0 : Int32) (p1 : Int32) (p2 : Int32) (p3 : Int32) (h0 : Heap) :
    Met l (⟨"com/example/dayflower/dayflower/filter/FilterSlabHoldingPinLaw", "pick", "(IIII)I"⟩ : MethodName) method_2_code 4 (some .int) ws ({ frames := 0, cells := 0, slots := 0, locals := 0 } : Room) Z #[(.int p0), (.int p1), (.int p2), (.int p3)] h0 (fun v h' L => v = some (Value.int (F_pick p0 p1 p2 p3)) ∧ h' = h0 ∧ L = []) := by
  refine enter (plainFor_of_name pn_0) (ef_1 p0 p1 p2 p3) ?_
  intro p e s m below meth c T0 kc kn Q hkc hkn hQ K' X0 e0
  have K : Fx p s m meth c method_2_code 4 "com/example/dayflower/dayflower/filter/FilterSlabHoldingPinLaw" "pick" (some .int) Z := K'
  refine k_iloadN K X0 d1_0 rfl (q := 1) rfl ?_
  refine k_if_ne K X0 d1_1 (by decide) (q := 6) rfl (q' := 4) rfl ?_ ?_
  · intro hc1
    refine k_iloadN K X0 d1_6 rfl (q := 7) rfl ?_
    refine k_iconst K X0 d1_7 (v := (1 : Int32)) rfl (q := 8) rfl ?_
    refine k_icmp_ne K X0 d1_8 (by decide) (q := 13) rfl (q' := 11) rfl ?_ ?_
    · intro hc2
      refine k_iloadN K X0 d1_13 rfl (q := 14) rfl ?_
      exact k_reti K X0 e0 d1_14 (Nat.le_trans (by decide) hkc) (Nat.le_trans (by decide) hkn) (hQ _ _ _ ⟨(by show some (Value.int p3) = some (Value.int (F_pick p0 p1 p2 p3)); first | (simp only [F_pick, if_neg hc1, if_neg hc2]; done) | (simp only [F_pick, if_neg hc1, if_neg hc2])), rfl, rfl⟩)
    · intro hc2
      refine k_iloadN K X0 d1_11 rfl (q := 12) rfl ?_
      exact k_reti K X0 e0 d1_12 (Nat.le_trans (by decide) hkc) (Nat.le_trans (by decide) hkn) (hQ _ _ _ ⟨(by show some (Value.int p2) = some (Value.int (F_pick p0 p1 p2 p3)); first | (simp only [F_pick, if_neg hc1, if_pos hc2]; done) | (simp only [F_pick, if_neg hc1, if_pos hc2])), rfl, rfl⟩)
  · intro hc1
    refine k_iloadN K X0 d1_4 rfl (q := 5) rfl ?_
    exact k_reti K X0 e0 d1_5 (Nat.le_trans (by decide) hkc) (Nat.le_trans (by decide) hkn) (hQ _ _ _ ⟨(by show some (Value.int p1) = some (Value.int (F_pick p0 p1 p2 p3)); first | (simp only [F_pick, if_pos hc1]; done) | (simp only [F_pick, if_pos hc1])), rfl, rfl⟩)
theorem d4_0 : decode jdk_33_method_49_code 0 = .ok (.iload_n 0, 1) := by decide +kernel
theorem d4_1 : decode jdk_33_method_49_code 1 = .ok (.iload_n 0, 1) := by decide +kernel
theorem d4_2 : decode jdk_33_method_49_code 2 = .ok (.iconst 1, 1) := by decide +kernel
theorem d4_3 : decode jdk_33_method_49_code 3 = .ok (.iushr, 1) := by decide +kernel
theorem d4_4 : decode jdk_33_method_49_code 4 = .ok (.ldc_w 265, 3) := by decide +kernel
theorem d4_7 : decode jdk_33_method_49_code 7 = .ok (.iand, 1) := by decide +kernel
theorem d4_8 : decode jdk_33_method_49_code 8 = .ok (.isub, 1) := by decide +kernel
theorem d4_9 : decode jdk_33_method_49_code 9 = .ok (.istore_n 0, 1) := by decide +kernel
theorem d4_10 : decode jdk_33_method_49_code 10 = .ok (.iload_n 0, 1) := by decide +kernel
theorem d4_11 : decode jdk_33_method_49_code 11 = .ok (.ldc_w 266, 3) := by decide +kernel
theorem d4_14 : decode jdk_33_method_49_code 14 = .ok (.iand, 1) := by decide +kernel
theorem d4_15 : decode jdk_33_method_49_code 15 = .ok (.iload_n 0, 1) := by decide +kernel
theorem d4_16 : decode jdk_33_method_49_code 16 = .ok (.iconst 2, 1) := by decide +kernel
theorem d4_17 : decode jdk_33_method_49_code 17 = .ok (.iushr, 1) := by decide +kernel
theorem d4_18 : decode jdk_33_method_49_code 18 = .ok (.ldc_w 266, 3) := by decide +kernel
theorem d4_21 : decode jdk_33_method_49_code 21 = .ok (.iand, 1) := by decide +kernel
theorem d4_22 : decode jdk_33_method_49_code 22 = .ok (.iadd, 1) := by decide +kernel
theorem d4_23 : decode jdk_33_method_49_code 23 = .ok (.istore_n 0, 1) := by decide +kernel
theorem d4_24 : decode jdk_33_method_49_code 24 = .ok (.iload_n 0, 1) := by decide +kernel
theorem d4_25 : decode jdk_33_method_49_code 25 = .ok (.iload_n 0, 1) := by decide +kernel
theorem d4_26 : decode jdk_33_method_49_code 26 = .ok (.iconst 4, 1) := by decide +kernel
theorem d4_27 : decode jdk_33_method_49_code 27 = .ok (.iushr, 1) := by decide +kernel
theorem d4_28 : decode jdk_33_method_49_code 28 = .ok (.iadd, 1) := by decide +kernel
theorem d4_29 : decode jdk_33_method_49_code 29 = .ok (.ldc_w 267, 3) := by decide +kernel
theorem d4_32 : decode jdk_33_method_49_code 32 = .ok (.iand, 1) := by decide +kernel
theorem d4_33 : decode jdk_33_method_49_code 33 = .ok (.istore_n 0, 1) := by decide +kernel
theorem d4_34 : decode jdk_33_method_49_code 34 = .ok (.iload_n 0, 1) := by decide +kernel
theorem d4_35 : decode jdk_33_method_49_code 35 = .ok (.iload_n 0, 1) := by decide +kernel
theorem d4_36 : decode jdk_33_method_49_code 36 = .ok (.bipush 8, 2) := by decide +kernel
theorem d4_38 : decode jdk_33_method_49_code 38 = .ok (.iushr, 1) := by decide +kernel
theorem d4_39 : decode jdk_33_method_49_code 39 = .ok (.iadd, 1) := by decide +kernel
theorem d4_40 : decode jdk_33_method_49_code 40 = .ok (.istore_n 0, 1) := by decide +kernel
theorem d4_41 : decode jdk_33_method_49_code 41 = .ok (.iload_n 0, 1) := by decide +kernel
theorem d4_42 : decode jdk_33_method_49_code 42 = .ok (.iload_n 0, 1) := by decide +kernel
theorem d4_43 : decode jdk_33_method_49_code 43 = .ok (.bipush 16, 2) := by decide +kernel
theorem d4_45 : decode jdk_33_method_49_code 45 = .ok (.iushr, 1) := by decide +kernel
theorem d4_46 : decode jdk_33_method_49_code 46 = .ok (.iadd, 1) := by decide +kernel
theorem d4_47 : decode jdk_33_method_49_code 47 = .ok (.istore_n 0, 1) := by decide +kernel
theorem d4_48 : decode jdk_33_method_49_code 48 = .ok (.iload_n 0, 1) := by decide +kernel
theorem d4_49 : decode jdk_33_method_49_code 49 = .ok (.bipush 63, 2) := by decide +kernel
theorem d4_51 : decode jdk_33_method_49_code 51 = .ok (.iand, 1) := by decide +kernel
theorem d4_52 : decode jdk_33_method_49_code 52 = .ok (.ireturn, 1) := by decide +kernel
theorem ef_4 (p0 : Int32) : ∀ m : MethodId, entryFrame m #[(.int p0)] 1 = mkF m 0 #[.val (.int p0)] [] := by intro m; first | (simp [entryFrame, mkF, argsToLocals, Value.category]; done) | rfl
theorem pn_1 : plainName "java/lang/Integer" = true := by first | (simp [plainName, overriddenIn]; done) | decide +kernel
def F_bitCount (p0 : Int32) : Int32 :=
  let v3 : Int32 := (p0 - ((ushrI p0 (1 : Int32)) &&& (1431655765 : Int32)))
  let v4 : Int32 := ((v3 &&& (858993459 : Int32)) + ((ushrI v3 (2 : Int32)) &&& (858993459 : Int32)))
  let v5 : Int32 := ((v4 + (ushrI v4 (4 : Int32))) &&& (252645135 : Int32))
  let v6 : Int32 := (v5 + (ushrI v5 (8 : Int32)))
  let v7 : Int32 := (v6 + (ushrI v6 (16 : Int32)))
  (v7 &&& (63 : Int32))
set_option maxRecDepth 65536 in
set_option maxHeartbeats 40000000 in
theorem rm4 (l : Launch) (Z : State) (az : Array Value) (hw : ∀ d ∈ tables_1, d.before az Z = true) (ws : List Jvm.Cond) (p0 : Int32) (h0 : Heap) :
    Met l (⟨"java/lang/Integer", "bitCount", "(I)I"⟩ : MethodName) jdk_33_method_49_code 1 (some .int) ws ({ frames := 0, cells := 0, slots := 0, locals := 0 } : Room) Z #[(.int p0)] h0 (fun v h' L => v = some (Value.int (F_bitCount p0)) ∧ h' = h0 ∧ L = []) := by
  refine enter (plainFor_of_name pn_1) (ef_4 p0) ?_
  intro p e s m below meth c T0 kc kn Q hkc hkn hQ K' X0 e0
  have K : Fx p s m meth c jdk_33_method_49_code 1 "java/lang/Integer" "bitCount" (some .int) Z := K'
  refine k_iloadN K X0 d4_0 rfl (q := 1) rfl ?_
  refine k_iloadN K X0 d4_1 rfl (q := 2) rfl ?_
  refine k_iconst K X0 d4_2 (v := (1 : Int32)) rfl (q := 3) rfl ?_
  refine k_iushr K X0 d4_3 (q := 4) rfl ?_
  refine k_ldc_w K X0 d4_4 (wd hw 19 rfl) (q := 7) rfl ?_
  refine k_iand K X0 d4_7 (q := 8) rfl ?_
  refine k_isub K X0 d4_8 (q := 9) rfl ?_
  obtain ⟨v3, hv_v3⟩ : ∃ z : Int32, (p0 - ((ushrI p0 (1 : Int32)) &&& (1431655765 : Int32))) = z := ⟨_, rfl⟩
  refine k_istoreN K X0 d4_9 hv_v3 (Ls' := #[.val (.int v3)]) rfl (q := 10) rfl ?_
  refine k_iloadN K X0 d4_10 rfl (q := 11) rfl ?_
  refine k_ldc_w K X0 d4_11 (wd hw 20 rfl) (q := 14) rfl ?_
  refine k_iand K X0 d4_14 (q := 15) rfl ?_
  refine k_iloadN K X0 d4_15 rfl (q := 16) rfl ?_
  refine k_iconst K X0 d4_16 (v := (2 : Int32)) rfl (q := 17) rfl ?_
  refine k_iushr K X0 d4_17 (q := 18) rfl ?_
  refine k_ldc_w K X0 d4_18 (wd hw 20 rfl) (q := 21) rfl ?_
  refine k_iand K X0 d4_21 (q := 22) rfl ?_
  refine k_iadd K X0 d4_22 (q := 23) rfl ?_
  obtain ⟨v4, hv_v4⟩ : ∃ z : Int32, ((v3 &&& (858993459 : Int32)) + ((ushrI v3 (2 : Int32)) &&& (858993459 : Int32))) = z := ⟨_, rfl⟩
  refine k_istoreN K X0 d4_23 hv_v4 (Ls' := #[.val (.int v4)]) rfl (q := 24) rfl ?_
  refine k_iloadN K X0 d4_24 rfl (q := 25) rfl ?_
  refine k_iloadN K X0 d4_25 rfl (q := 26) rfl ?_
  refine k_iconst K X0 d4_26 (v := (4 : Int32)) rfl (q := 27) rfl ?_
  refine k_iushr K X0 d4_27 (q := 28) rfl ?_
  refine k_iadd K X0 d4_28 (q := 29) rfl ?_
  refine k_ldc_w K X0 d4_29 (wd hw 21 rfl) (q := 32) rfl ?_
  refine k_iand K X0 d4_32 (q := 33) rfl ?_
  obtain ⟨v5, hv_v5⟩ : ∃ z : Int32, ((v4 + (ushrI v4 (4 : Int32))) &&& (252645135 : Int32)) = z := ⟨_, rfl⟩
  refine k_istoreN K X0 d4_33 hv_v5 (Ls' := #[.val (.int v5)]) rfl (q := 34) rfl ?_
  refine k_iloadN K X0 d4_34 rfl (q := 35) rfl ?_
  refine k_iloadN K X0 d4_35 rfl (q := 36) rfl ?_
  refine k_bipush K X0 d4_36 (v := (8 : Int32)) rfl (q := 38) rfl ?_
  refine k_iushr K X0 d4_38 (q := 39) rfl ?_
  refine k_iadd K X0 d4_39 (q := 40) rfl ?_
  obtain ⟨v6, hv_v6⟩ : ∃ z : Int32, (v5 + (ushrI v5 (8 : Int32))) = z := ⟨_, rfl⟩
  refine k_istoreN K X0 d4_40 hv_v6 (Ls' := #[.val (.int v6)]) rfl (q := 41) rfl ?_
  refine k_iloadN K X0 d4_41 rfl (q := 42) rfl ?_
  refine k_iloadN K X0 d4_42 rfl (q := 43) rfl ?_
  refine k_bipush K X0 d4_43 (v := (16 : Int32)) rfl (q := 45) rfl ?_
  refine k_iushr K X0 d4_45 (q := 46) rfl ?_
  refine k_iadd K X0 d4_46 (q := 47) rfl ?_
  obtain ⟨v7, hv_v7⟩ : ∃ z : Int32, (v6 + (ushrI v6 (16 : Int32))) = z := ⟨_, rfl⟩
  refine k_istoreN K X0 d4_47 hv_v7 (Ls' := #[.val (.int v7)]) rfl (q := 48) rfl ?_
  refine k_iloadN K X0 d4_48 rfl (q := 49) rfl ?_
  refine k_bipush K X0 d4_49 (v := (63 : Int32)) rfl (q := 51) rfl ?_
  refine k_iand K X0 d4_51 (q := 52) rfl ?_
  exact k_reti K X0 e0 d4_52 (Nat.le_trans (by decide) hkc) (Nat.le_trans (by decide) hkn) (hQ _ _ _ ⟨(by show some (Value.int (v7 &&& (63 : Int32))) = some (Value.int (F_bitCount p0)); first | (simp only [F_bitCount, hv_v3, hv_v4, hv_v5, hv_v6, hv_v7]; done) | (subst hv_v3; subst hv_v4; subst hv_v5; subst hv_v6; subst hv_v7; simp only [F_bitCount])), rfl, rfl⟩)
theorem d5_0 : decode jdk_33_method_48_code 0 = .ok (.iload_n 0, 1) := by decide +kernel
theorem d5_1 : decode jdk_33_method_48_code 1 = .ok (.iconst (-1), 1) := by decide +kernel
theorem d5_2 : decode jdk_33_method_48_code 2 = .ok (.ixor, 1) := by decide +kernel
theorem d5_3 : decode jdk_33_method_48_code 3 = .ok (.iload_n 0, 1) := by decide +kernel
theorem d5_4 : decode jdk_33_method_48_code 4 = .ok (.iconst 1, 1) := by decide +kernel
theorem d5_5 : decode jdk_33_method_48_code 5 = .ok (.isub, 1) := by decide +kernel
theorem d5_6 : decode jdk_33_method_48_code 6 = .ok (.iand, 1) := by decide +kernel
theorem d5_7 : decode jdk_33_method_48_code 7 = .ok (.istore_n 0, 1) := by decide +kernel
theorem d5_8 : decode jdk_33_method_48_code 8 = .ok (.iload_n 0, 1) := by decide +kernel
theorem d5_9 : decode jdk_33_method_48_code 9 = .ok (.ifCond .gt 8, 3) := by decide +kernel
theorem d5_17 : decode jdk_33_method_48_code 17 = .ok (.iconst 1, 1) := by decide +kernel
theorem d5_18 : decode jdk_33_method_48_code 18 = .ok (.istore_n 1, 1) := by decide +kernel
theorem d5_19 : decode jdk_33_method_48_code 19 = .ok (.iload_n 0, 1) := by decide +kernel
theorem d5_20 : decode jdk_33_method_48_code 20 = .ok (.ldc_w 264, 3) := by decide +kernel
theorem d5_23 : decode jdk_33_method_48_code 23 = .ok (.if_icmp .le 11, 3) := by decide +kernel
theorem d5_34 : decode jdk_33_method_48_code 34 = .ok (.iload_n 0, 1) := by decide +kernel
theorem d5_35 : decode jdk_33_method_48_code 35 = .ok (.sipush 256, 3) := by decide +kernel
theorem d5_38 : decode jdk_33_method_48_code 38 = .ok (.if_icmp .le 11, 3) := by decide +kernel
theorem d5_49 : decode jdk_33_method_48_code 49 = .ok (.iload_n 0, 1) := by decide +kernel
theorem d5_50 : decode jdk_33_method_48_code 50 = .ok (.bipush 16, 2) := by decide +kernel
theorem d5_52 : decode jdk_33_method_48_code 52 = .ok (.if_icmp .le 10, 3) := by decide +kernel
theorem d5_62 : decode jdk_33_method_48_code 62 = .ok (.iload_n 0, 1) := by decide +kernel
theorem d5_63 : decode jdk_33_method_48_code 63 = .ok (.iconst 4, 1) := by decide +kernel
theorem d5_64 : decode jdk_33_method_48_code 64 = .ok (.if_icmp .le 10, 3) := by decide +kernel
theorem d5_74 : decode jdk_33_method_48_code 74 = .ok (.iload_n 1, 1) := by decide +kernel
theorem d5_75 : decode jdk_33_method_48_code 75 = .ok (.iload_n 0, 1) := by decide +kernel
theorem d5_76 : decode jdk_33_method_48_code 76 = .ok (.iconst 1, 1) := by decide +kernel
theorem d5_77 : decode jdk_33_method_48_code 77 = .ok (.iushr, 1) := by decide +kernel
theorem d5_78 : decode jdk_33_method_48_code 78 = .ok (.iadd, 1) := by decide +kernel
theorem d5_79 : decode jdk_33_method_48_code 79 = .ok (.ireturn, 1) := by decide +kernel
theorem d5_67 : decode jdk_33_method_48_code 67 = .ok (.iinc 1 2, 3) := by decide +kernel
theorem d5_70 : decode jdk_33_method_48_code 70 = .ok (.iload_n 0, 1) := by decide +kernel
theorem d5_71 : decode jdk_33_method_48_code 71 = .ok (.iconst 2, 1) := by decide +kernel
theorem d5_72 : decode jdk_33_method_48_code 72 = .ok (.iushr, 1) := by decide +kernel
theorem d5_73 : decode jdk_33_method_48_code 73 = .ok (.istore_n 0, 1) := by decide +kernel
theorem d5_55 : decode jdk_33_method_48_code 55 = .ok (.iinc 1 4, 3) := by decide +kernel
theorem d5_58 : decode jdk_33_method_48_code 58 = .ok (.iload_n 0, 1) := by decide +kernel
theorem d5_59 : decode jdk_33_method_48_code 59 = .ok (.iconst 4, 1) := by decide +kernel
theorem d5_60 : decode jdk_33_method_48_code 60 = .ok (.iushr, 1) := by decide +kernel
theorem d5_61 : decode jdk_33_method_48_code 61 = .ok (.istore_n 0, 1) := by decide +kernel
theorem d5_41 : decode jdk_33_method_48_code 41 = .ok (.iinc 1 8, 3) := by decide +kernel
theorem d5_44 : decode jdk_33_method_48_code 44 = .ok (.iload_n 0, 1) := by decide +kernel
theorem d5_45 : decode jdk_33_method_48_code 45 = .ok (.bipush 8, 2) := by decide +kernel
theorem d5_47 : decode jdk_33_method_48_code 47 = .ok (.iushr, 1) := by decide +kernel
theorem d5_48 : decode jdk_33_method_48_code 48 = .ok (.istore_n 0, 1) := by decide +kernel
theorem d5_26 : decode jdk_33_method_48_code 26 = .ok (.iinc 1 16, 3) := by decide +kernel
theorem d5_29 : decode jdk_33_method_48_code 29 = .ok (.iload_n 0, 1) := by decide +kernel
theorem d5_30 : decode jdk_33_method_48_code 30 = .ok (.bipush 16, 2) := by decide +kernel
theorem d5_32 : decode jdk_33_method_48_code 32 = .ok (.iushr, 1) := by decide +kernel
theorem d5_33 : decode jdk_33_method_48_code 33 = .ok (.istore_n 0, 1) := by decide +kernel
theorem d5_12 : decode jdk_33_method_48_code 12 = .ok (.iload_n 0, 1) := by decide +kernel
theorem d5_13 : decode jdk_33_method_48_code 13 = .ok (.bipush 32, 2) := by decide +kernel
theorem d5_15 : decode jdk_33_method_48_code 15 = .ok (.iand, 1) := by decide +kernel
theorem d5_16 : decode jdk_33_method_48_code 16 = .ok (.ireturn, 1) := by decide +kernel
theorem ef_5 (p0 : Int32) : ∀ m : MethodId, entryFrame m #[(.int p0)] 2 = mkF m 0 #[.val (.int p0), .unset] [] := by intro m; first | (simp [entryFrame, mkF, argsToLocals, Value.category]; done) | rfl
def F_numberOfTrailingZeros (p0 : Int32) : Int32 :=
  let v8 : Int32 := ((p0 ^^^ (-1 : Int32)) &&& (p0 - (1 : Int32)))
  if (0 : Int32) < v8 then
    let d11 : Int32 := (if (65536 : Int32) < v8 then (ushrI v8 (16 : Int32)) else v8)
    let d12 : Int32 := (if (65536 : Int32) < v8 then (17 : Int32) else (1 : Int32))
    let d15 : Int32 := (if (256 : Int32) < d11 then (ushrI d11 (8 : Int32)) else d11)
    let d16 : Int32 := (if (256 : Int32) < d11 then (d12 + (8 : Int32)) else d12)
    let d19 : Int32 := (if (16 : Int32) < d15 then (ushrI d15 (4 : Int32)) else d15)
    let d20 : Int32 := (if (16 : Int32) < d15 then (d16 + (4 : Int32)) else d16)
    let d23 : Int32 := (if (4 : Int32) < d19 then (ushrI d19 (2 : Int32)) else d19)
    let d24 : Int32 := (if (4 : Int32) < d19 then (d20 + (2 : Int32)) else d20)
    (d24 + (ushrI d23 (1 : Int32)))
  else
    (v8 &&& (32 : Int32))
set_option maxRecDepth 65536 in
set_option maxHeartbeats 40000000 in
theorem rm5 (l : Launch) (Z : State) (az : Array Value) (hw : ∀ d ∈ tables_1, d.before az Z = true) (ws : List Jvm.Cond) (p0 : Int32) (h0 : Heap) :
    Met l (⟨"java/lang/Integer", "numberOfTrailingZeros", "(I)I"⟩ : MethodName) jdk_33_method_48_code 2 (some .int) ws ({ frames := 0, cells := 0, slots := 0, locals := 0 } : Room) Z #[(.int p0)] h0 (fun v h' L => v = some (Value.int (F_numberOfTrailingZeros p0)) ∧ h' = h0 ∧ L = []) := by
  refine enter (plainFor_of_name pn_1) (ef_5 p0) ?_
  intro p e s m below meth c T0 kc kn Q hkc hkn hQ K' X0 e0
  have K : Fx p s m meth c jdk_33_method_48_code 2 "java/lang/Integer" "numberOfTrailingZeros" (some .int) Z := K'
  refine k_iloadN K X0 d5_0 rfl (q := 1) rfl ?_
  refine k_iconst K X0 d5_1 (v := (-1 : Int32)) rfl (q := 2) rfl ?_
  refine k_ixor K X0 d5_2 (q := 3) rfl ?_
  refine k_iloadN K X0 d5_3 rfl (q := 4) rfl ?_
  refine k_iconst K X0 d5_4 (v := (1 : Int32)) rfl (q := 5) rfl ?_
  refine k_isub K X0 d5_5 (q := 6) rfl ?_
  refine k_iand K X0 d5_6 (q := 7) rfl ?_
  obtain ⟨v8, hv_v8⟩ : ∃ z : Int32, ((p0 ^^^ (-1 : Int32)) &&& (p0 - (1 : Int32))) = z := ⟨_, rfl⟩
  refine k_istoreN K X0 d5_7 hv_v8 (Ls' := #[.val (.int v8), .unset]) rfl (q := 8) rfl ?_
  refine k_iloadN K X0 d5_8 rfl (q := 9) rfl ?_
  refine k_if_gt K X0 d5_9 (by decide) (q := 17) rfl (q' := 12) rfl ?_ ?_
  · intro hc9
    refine k_iconst K X0 d5_17 (v := (1 : Int32)) rfl (q := 18) rfl ?_
    refine k_istoreN K X0 d5_18 rfl (Ls' := #[.val (.int v8), .val (.int (1 : Int32))]) rfl (q := 19) rfl ?_
    refine k_iloadN K X0 d5_19 rfl (q := 20) rfl ?_
    refine k_ldc_w K X0 d5_20 (wd hw 63 rfl) (q := 23) rfl ?_
    have J13 : ∀ (d11 : Int32) (d12 : Int32), (if (65536 : Int32) < v8 then (ushrI v8 (16 : Int32)) else v8) = d11 → (if (65536 : Int32) < v8 then (17 : Int32) else (1 : Int32)) = d12 → Run p e below s kc kn Q T0 (mkF m 34 #[.val (.int d11), .val (.int d12)] []) := by
      intro d11 d12 hv_d11 hv_d12
      refine k_iloadN K X0 d5_34 rfl (q := 35) rfl ?_
      refine k_sipush K X0 d5_35 (v := (256 : Int32)) rfl (q := 38) rfl ?_
      have J17 : ∀ (d15 : Int32) (d16 : Int32), (if (256 : Int32) < d11 then (ushrI d11 (8 : Int32)) else d11) = d15 → (if (256 : Int32) < d11 then (d12 + (8 : Int32)) else d12) = d16 → Run p e below s kc kn Q T0 (mkF m 49 #[.val (.int d15), .val (.int d16)] []) := by
        intro d15 d16 hv_d15 hv_d16
        refine k_iloadN K X0 d5_49 rfl (q := 50) rfl ?_
        refine k_bipush K X0 d5_50 (v := (16 : Int32)) rfl (q := 52) rfl ?_
        have J21 : ∀ (d19 : Int32) (d20 : Int32), (if (16 : Int32) < d15 then (ushrI d15 (4 : Int32)) else d15) = d19 → (if (16 : Int32) < d15 then (d16 + (4 : Int32)) else d16) = d20 → Run p e below s kc kn Q T0 (mkF m 62 #[.val (.int d19), .val (.int d20)] []) := by
          intro d19 d20 hv_d19 hv_d20
          refine k_iloadN K X0 d5_62 rfl (q := 63) rfl ?_
          refine k_iconst K X0 d5_63 (v := (4 : Int32)) rfl (q := 64) rfl ?_
          have J25 : ∀ (d23 : Int32) (d24 : Int32), (if (4 : Int32) < d19 then (ushrI d19 (2 : Int32)) else d19) = d23 → (if (4 : Int32) < d19 then (d20 + (2 : Int32)) else d20) = d24 → Run p e below s kc kn Q T0 (mkF m 74 #[.val (.int d23), .val (.int d24)] []) := by
            intro d23 d24 hv_d23 hv_d24
            refine k_iloadN K X0 d5_74 rfl (q := 75) rfl ?_
            refine k_iloadN K X0 d5_75 rfl (q := 76) rfl ?_
            refine k_iconst K X0 d5_76 (v := (1 : Int32)) rfl (q := 77) rfl ?_
            refine k_iushr K X0 d5_77 (q := 78) rfl ?_
            refine k_iadd K X0 d5_78 (q := 79) rfl ?_
            exact k_reti K X0 e0 d5_79 (Nat.le_trans (by decide) hkc) (Nat.le_trans (by decide) hkn) (hQ _ _ _ ⟨(by show some (Value.int (d24 + (ushrI d23 (1 : Int32)))) = some (Value.int (F_numberOfTrailingZeros p0)); first | (simp only [F_numberOfTrailingZeros, hv_v8, hv_d11, hv_d12, hv_d15, hv_d16, hv_d19, hv_d20, hv_d23, hv_d24, if_pos hc9]; done) | (subst hv_v8; subst hv_d11; subst hv_d12; subst hv_d15; subst hv_d16; subst hv_d19; subst hv_d20; subst hv_d23; subst hv_d24; simp only [F_numberOfTrailingZeros, if_pos hc9])), rfl, rfl⟩)
          refine k_icmp_le K X0 d5_64 (by decide) (q := 74) rfl (q' := 67) rfl ?_ ?_
          · intro hc26
            exact J25 _ _ (by first | (simp only [if_neg hc26]; done) | rfl) (by first | (simp only [if_neg hc26]; done) | rfl)
          · intro hc26
            refine k_iinc K X0 d5_67 rfl rfl (Ls' := #[.val (.int d19), .val (.int (d20 + (2 : Int32)))]) rfl (q := 70) rfl ?_
            refine k_iloadN K X0 d5_70 rfl (q := 71) rfl ?_
            refine k_iconst K X0 d5_71 (v := (2 : Int32)) rfl (q := 72) rfl ?_
            refine k_iushr K X0 d5_72 (q := 73) rfl ?_
            refine k_istoreN K X0 d5_73 rfl (Ls' := #[.val (.int (ushrI d19 (2 : Int32))), .val (.int (d20 + (2 : Int32)))]) rfl (q := 74) rfl ?_
            exact J25 _ _ (by first | (simp only [if_pos hc26]; done) | rfl) (by first | (simp only [if_pos hc26]; done) | rfl)
        refine k_icmp_le K X0 d5_52 (by decide) (q := 62) rfl (q' := 55) rfl ?_ ?_
        · intro hc27
          exact J21 _ _ (by first | (simp only [if_neg hc27]; done) | rfl) (by first | (simp only [if_neg hc27]; done) | rfl)
        · intro hc27
          refine k_iinc K X0 d5_55 rfl rfl (Ls' := #[.val (.int d15), .val (.int (d16 + (4 : Int32)))]) rfl (q := 58) rfl ?_
          refine k_iloadN K X0 d5_58 rfl (q := 59) rfl ?_
          refine k_iconst K X0 d5_59 (v := (4 : Int32)) rfl (q := 60) rfl ?_
          refine k_iushr K X0 d5_60 (q := 61) rfl ?_
          refine k_istoreN K X0 d5_61 rfl (Ls' := #[.val (.int (ushrI d15 (4 : Int32))), .val (.int (d16 + (4 : Int32)))]) rfl (q := 62) rfl ?_
          exact J21 _ _ (by first | (simp only [if_pos hc27]; done) | rfl) (by first | (simp only [if_pos hc27]; done) | rfl)
      refine k_icmp_le K X0 d5_38 (by decide) (q := 49) rfl (q' := 41) rfl ?_ ?_
      · intro hc28
        exact J17 _ _ (by first | (simp only [if_neg hc28]; done) | rfl) (by first | (simp only [if_neg hc28]; done) | rfl)
      · intro hc28
        refine k_iinc K X0 d5_41 rfl rfl (Ls' := #[.val (.int d11), .val (.int (d12 + (8 : Int32)))]) rfl (q := 44) rfl ?_
        refine k_iloadN K X0 d5_44 rfl (q := 45) rfl ?_
        refine k_bipush K X0 d5_45 (v := (8 : Int32)) rfl (q := 47) rfl ?_
        refine k_iushr K X0 d5_47 (q := 48) rfl ?_
        refine k_istoreN K X0 d5_48 rfl (Ls' := #[.val (.int (ushrI d11 (8 : Int32))), .val (.int (d12 + (8 : Int32)))]) rfl (q := 49) rfl ?_
        exact J17 _ _ (by first | (simp only [if_pos hc28]; done) | rfl) (by first | (simp only [if_pos hc28]; done) | rfl)
    refine k_icmp_le K X0 d5_23 (by decide) (q := 34) rfl (q' := 26) rfl ?_ ?_
    · intro hc29
      exact J13 _ _ (by first | (simp only [if_neg hc29]; done) | rfl) (by first | (simp only [if_neg hc29]; done) | rfl)
    · intro hc29
      refine k_iinc K X0 d5_26 rfl (by decide) (Ls' := #[.val (.int v8), .val (.int (17 : Int32))]) rfl (q := 29) rfl ?_
      refine k_iloadN K X0 d5_29 rfl (q := 30) rfl ?_
      refine k_bipush K X0 d5_30 (v := (16 : Int32)) rfl (q := 32) rfl ?_
      refine k_iushr K X0 d5_32 (q := 33) rfl ?_
      refine k_istoreN K X0 d5_33 rfl (Ls' := #[.val (.int (ushrI v8 (16 : Int32))), .val (.int (17 : Int32))]) rfl (q := 34) rfl ?_
      exact J13 _ _ (by first | (simp only [if_pos hc29]; done) | rfl) (by first | (simp only [if_pos hc29]; done) | rfl)
  · intro hc9
    refine k_iloadN K X0 d5_12 rfl (q := 13) rfl ?_
    refine k_bipush K X0 d5_13 (v := (32 : Int32)) rfl (q := 15) rfl ?_
    refine k_iand K X0 d5_15 (q := 16) rfl ?_
    exact k_reti K X0 e0 d5_16 (Nat.le_trans (by decide) hkc) (Nat.le_trans (by decide) hkn) (hQ _ _ _ ⟨(by show some (Value.int (v8 &&& (32 : Int32))) = some (Value.int (F_numberOfTrailingZeros p0)); first | (simp only [F_numberOfTrailingZeros, hv_v8, if_neg hc9]; done) | (subst hv_v8; simp only [F_numberOfTrailingZeros, if_neg hc9])), rfl, rfl⟩)
theorem d6_0 : decode prog_14_method_2_code 0 = .ok (.iload_n 0, 1) := by decide +kernel
theorem d6_1 : decode prog_14_method_2_code 1 = .ok (.i2l, 1) := by decide +kernel
theorem d6_2 : decode prog_14_method_2_code 2 = .ok (.iload_n 1, 1) := by decide +kernel
theorem d6_3 : decode prog_14_method_2_code 3 = .ok (.i2l, 1) := by decide +kernel
theorem d6_4 : decode prog_14_method_2_code 4 = .ok (.lmul, 1) := by decide +kernel
theorem d6_5 : decode prog_14_method_2_code 5 = .ok (.ldc2_w 46, 3) := by decide +kernel
theorem d6_8 : decode prog_14_method_2_code 8 = .ok (.ladd, 1) := by decide +kernel
theorem d6_9 : decode prog_14_method_2_code 9 = .ok (.lconst 1, 1) := by decide +kernel
theorem d6_10 : decode prog_14_method_2_code 10 = .ok (.lsub, 1) := by decide +kernel
theorem d6_11 : decode prog_14_method_2_code 11 = .ok (.ldc2_w 46, 3) := by decide +kernel
theorem d6_14 : decode prog_14_method_2_code 14 = .ok (.ldiv, 1) := by decide +kernel
theorem d6_15 : decode prog_14_method_2_code 15 = .ok (.lstore_n 2, 1) := by decide +kernel
theorem d6_16 : decode prog_14_method_2_code 16 = .ok (.lload_n 2, 1) := by decide +kernel
theorem d6_17 : decode prog_14_method_2_code 17 = .ok (.ldc2_w 40, 3) := by decide +kernel
theorem d6_20 : decode prog_14_method_2_code 20 = .ok (.lmul, 1) := by decide +kernel
theorem d6_21 : decode prog_14_method_2_code 21 = .ok (.lreturn, 1) := by decide +kernel
theorem ef_6 (p0 : Int32) (p1 : Int32) : ∀ m : MethodId, entryFrame m #[(.int p0), (.int p1)] 4 = mkF m 0 #[.val (.int p0), .val (.int p1), .unset, .unset] [] := by intro m; first | (simp [entryFrame, mkF, argsToLocals, Value.category]; done) | rfl
theorem pn_2 : plainName "com/example/dayflower/dayflower/filter/FilterSlab" = true := by first | (simp [plainName, overriddenIn]; done) | decide +kernel
def F_bytes (p0 : Int32) (p1 : Int32) : Int64 :=
  let v30 : Int64 := (((((Int32.toInt64 p0) * (Int32.toInt64 p1)) + (64 : Int64)) - (1 : Int64)) / (64 : Int64))
  (v30 * (8 : Int64))
set_option maxRecDepth 65536 in
set_option maxHeartbeats 40000000 in
theorem rm6 (l : Launch) (Z : State) (az : Array Value) (hw : ∀ d ∈ tables_1, d.before az Z = true) (ws : List Jvm.Cond) (p0 : Int32) (p1 : Int32) (h0 : Heap) :
    Met l (⟨"com/example/dayflower/dayflower/filter/FilterSlab", "bytes", "(II)J"⟩ : MethodName) prog_14_method_2_code 4 (some .long) ws ({ frames := 0, cells := 0, slots := 0, locals := 0 } : Room) Z #[(.int p0), (.int p1)] h0 (fun v h' L => v = some (Value.long (F_bytes p0 p1)) ∧ h' = h0 ∧ L = []) := by
  refine enter (plainFor_of_name pn_2) (ef_6 p0 p1) ?_
  intro p e s m below meth c T0 kc kn Q hkc hkn hQ K' X0 e0
  have K : Fx p s m meth c prog_14_method_2_code 4 "com/example/dayflower/dayflower/filter/FilterSlab" "bytes" (some .long) Z := K'
  refine k_iloadN K X0 d6_0 rfl (q := 1) rfl ?_
  refine k_i2l K X0 d6_1 (q := 2) rfl ?_
  refine k_iloadN K X0 d6_2 rfl (q := 3) rfl ?_
  refine k_i2l K X0 d6_3 (q := 4) rfl ?_
  refine k_lmul K X0 d6_4 (q := 5) rfl ?_
  refine k_ldc2 K X0 d6_5 (wd hw 32 rfl) (q := 8) rfl ?_
  refine k_ladd K X0 d6_8 (q := 9) rfl ?_
  refine k_lconst1 K X0 d6_9 (q := 10) rfl ?_
  refine k_lsub K X0 d6_10 (q := 11) rfl ?_
  refine k_ldc2 K X0 d6_11 (wd hw 32 rfl) (q := 14) rfl ?_
  refine k_ldiv K X0 d6_14 (by decide) (q := 15) rfl ?_
  obtain ⟨v30, hv_v30⟩ : ∃ z : Int64, (((((Int32.toInt64 p0) * (Int32.toInt64 p1)) + (64 : Int64)) - (1 : Int64)) / (64 : Int64)) = z := ⟨_, rfl⟩
  refine k_lstoreN K X0 d6_15 hv_v30 (Ls' := #[.val (.int p0), .val (.int p1), .val (.long v30), .second]) rfl (q := 16) rfl ?_
  refine k_lloadN K X0 d6_16 rfl (q := 17) rfl ?_
  refine k_ldc2 K X0 d6_17 (wd hw 33 rfl) (q := 20) rfl ?_
  refine k_lmul K X0 d6_20 (q := 21) rfl ?_
  exact k_retl K X0 e0 d6_21 (Nat.le_trans (by decide) hkc) (Nat.le_trans (by decide) hkn) (hQ _ _ _ ⟨(by show some (Value.long (v30 * (8 : Int64))) = some (Value.long (F_bytes p0 p1)); first | (simp only [F_bytes, hv_v30]; done) | (subst hv_v30; simp only [F_bytes])), rfl, rfl⟩)
theorem d11_0 : decode method_3_code 0 = .ok (.lconst 0, 1) := by decide +kernel
theorem d11_1 : decode method_3_code 1 = .ok (.lstore 7, 2) := by decide +kernel
theorem d11_3 : decode method_3_code 3 = .ok (.iload_n 0, 1) := by decide +kernel
theorem d11_4 : decode method_3_code 4 = .ok (.iload_n 1, 1) := by decide +kernel
theorem d11_5 : decode method_3_code 5 = .ok (.if_icmp .ne 9, 3) := by decide +kernel
theorem d11_14 : decode method_3_code 14 = .ok (.iload_n 0, 1) := by decide +kernel
theorem d11_15 : decode method_3_code 15 = .ok (.iload 4, 2) := by decide +kernel
theorem d11_17 : decode method_3_code 17 = .ok (.if_icmp .ne 10, 3) := by decide +kernel
theorem d11_27 : decode method_3_code 27 = .ok (.lload 7, 2) := by decide +kernel
theorem d11_29 : decode method_3_code 29 = .ok (.lreturn, 1) := by decide +kernel
theorem d11_20 : decode method_3_code 20 = .ok (.lload 7, 2) := by decide +kernel
theorem d11_22 : decode method_3_code 22 = .ok (.lload 5, 2) := by decide +kernel
theorem d11_24 : decode method_3_code 24 = .ok (.lor, 1) := by decide +kernel
theorem d11_25 : decode method_3_code 25 = .ok (.lstore 7, 2) := by decide +kernel
theorem d11_8 : decode method_3_code 8 = .ok (.lload 7, 2) := by decide +kernel
theorem d11_10 : decode method_3_code 10 = .ok (.lload_n 2, 1) := by decide +kernel
theorem d11_11 : decode method_3_code 11 = .ok (.lor, 1) := by decide +kernel
theorem d11_12 : decode method_3_code 12 = .ok (.lstore 7, 2) := by decide +kernel
theorem ef_11 (p0 : Int32) (p1 : Int32) (q2 : Int64) (p3 : Int32) (q4 : Int64) : ∀ m : MethodId, entryFrame m #[(.int p0), (.int p1), (.long q2), (.int p3), (.long q4)] 9 = mkF m 0 #[.val (.int p0), .val (.int p1), .val (.long q2), .second, .val (.int p3), .val (.long q4), .second, .unset, .unset] [] := by intro m; first | (simp [entryFrame, mkF, argsToLocals, Value.category]; done) | rfl
def F_lanesAt (p0 : Int32) (p1 : Int32) (q2 : Int64) (p3 : Int32) (q4 : Int64) : Int64 :=
  let d32 : Int64 := (if p0 = p1 then ((0 : Int64) ||| q2) else (0 : Int64))
  let d35 : Int64 := (if p0 = p3 then (d32 ||| q4) else d32)
  d35
set_option maxRecDepth 65536 in
set_option maxHeartbeats 40000000 in
theorem rm11 (l : Launch) (Z : State) (az : Array Value) (hw : ∀ d ∈ tables_1, d.before az Z = true) (ws : List Jvm.Cond) (p0 : Int32) (p1 : Int32) (q2 : Int64) (p3 : Int32) (q4 : Int64) (h0 : Heap) :
    Met l (⟨"com/example/dayflower/dayflower/filter/FilterSlabHoldingPinLaw", "lanesAt", "(IIJIJ)J"⟩ : MethodName) method_3_code 9 (some .long) ws ({ frames := 0, cells := 0, slots := 0, locals := 0 } : Room) Z #[(.int p0), (.int p1), (.long q2), (.int p3), (.long q4)] h0 (fun v h' L => v = some (Value.long (F_lanesAt p0 p1 q2 p3 q4)) ∧ h' = h0 ∧ L = []) := by
  refine enter (plainFor_of_name pn_0) (ef_11 p0 p1 q2 p3 q4) ?_
  intro p e s m below meth c T0 kc kn Q hkc hkn hQ K' X0 e0
  have K : Fx p s m meth c method_3_code 9 "com/example/dayflower/dayflower/filter/FilterSlabHoldingPinLaw" "lanesAt" (some .long) Z := K'
  refine k_lconst0 K X0 d11_0 (q := 1) rfl ?_
  refine k_lstore K X0 d11_1 rfl (Ls' := #[.val (.int p0), .val (.int p1), .val (.long q2), .second, .val (.int p3), .val (.long q4), .second, .val (.long (0 : Int64)), .second]) rfl (q := 3) rfl ?_
  refine k_iloadN K X0 d11_3 rfl (q := 4) rfl ?_
  refine k_iloadN K X0 d11_4 rfl (q := 5) rfl ?_
  have J33 : ∀ (d32 : Int64), (if p0 = p1 then ((0 : Int64) ||| q2) else (0 : Int64)) = d32 → Run p e below s kc kn Q T0 (mkF m 14 #[.val (.int p0), .val (.int p1), .val (.long q2), .second, .val (.int p3), .val (.long q4), .second, .val (.long d32), .second] []) := by
    intro d32 hv_d32
    refine k_iloadN K X0 d11_14 rfl (q := 15) rfl ?_
    refine k_iload K X0 d11_15 rfl (q := 17) rfl ?_
    have J36 : ∀ (d35 : Int64), (if p0 = p3 then (d32 ||| q4) else d32) = d35 → Run p e below s kc kn Q T0 (mkF m 27 #[.val (.int p0), .val (.int p1), .val (.long q2), .second, .val (.int p3), .val (.long q4), .second, .val (.long d35), .second] []) := by
      intro d35 hv_d35
      refine k_lload K X0 d11_27 rfl (q := 29) rfl ?_
      exact k_retl K X0 e0 d11_29 (Nat.le_trans (by decide) hkc) (Nat.le_trans (by decide) hkn) (hQ _ _ _ ⟨(by show some (Value.long d35) = some (Value.long (F_lanesAt p0 p1 q2 p3 q4)); first | (simp only [F_lanesAt, hv_d32, hv_d35]; done) | (subst hv_d32; subst hv_d35; simp only [F_lanesAt])), rfl, rfl⟩)
    refine k_icmp_ne K X0 d11_17 (by decide) (q := 27) rfl (q' := 20) rfl ?_ ?_
    · intro hc37
      exact J36 _ (by first | (simp only [if_neg hc37]; done) | rfl)
    · intro hc37
      refine k_lload K X0 d11_20 rfl (q := 22) rfl ?_
      refine k_lload K X0 d11_22 rfl (q := 24) rfl ?_
      refine k_lor K X0 d11_24 (q := 25) rfl ?_
      refine k_lstore K X0 d11_25 rfl (Ls' := #[.val (.int p0), .val (.int p1), .val (.long q2), .second, .val (.int p3), .val (.long q4), .second, .val (.long (d32 ||| q4)), .second]) rfl (q := 27) rfl ?_
      exact J36 _ (by first | (simp only [if_pos hc37]; done) | rfl)
  refine k_icmp_ne K X0 d11_5 (by decide) (q := 14) rfl (q' := 8) rfl ?_ ?_
  · intro hc38
    exact J33 _ (by first | (simp only [if_neg hc38]; done) | rfl)
  · intro hc38
    refine k_lload K X0 d11_8 rfl (q := 10) rfl ?_
    refine k_lloadN K X0 d11_10 rfl (q := 11) rfl ?_
    refine k_lor K X0 d11_11 (q := 12) rfl ?_
    refine k_lstore K X0 d11_12 rfl (Ls' := #[.val (.int p0), .val (.int p1), .val (.long q2), .second, .val (.int p3), .val (.long q4), .second, .val (.long ((0 : Int64) ||| q2)), .second]) rfl (q := 14) rfl ?_
    exact J33 _ (by first | (simp only [if_pos hc38]; done) | rfl)
theorem d2_0 : decode prog_14_method_1_code 0 = .ok (.aload_n 0, 1) := by decide +kernel
theorem d2_1 : decode prog_14_method_1_code 1 = .ok (.invokespecial 3, 3) := by decide +kernel
theorem d2_4 : decode prog_14_method_1_code 4 = .ok (.iload_n 2, 1) := by decide +kernel
theorem d2_5 : decode prog_14_method_1_code 5 = .ok (.iconst 1, 1) := by decide +kernel
theorem d2_6 : decode prog_14_method_1_code 6 = .ok (.if_icmp .lt 17, 3) := by decide +kernel
theorem d2_9 : decode prog_14_method_1_code 9 = .ok (.iload_n 2, 1) := by decide +kernel
theorem d2_10 : decode prog_14_method_1_code 10 = .ok (.bipush 64, 2) := by decide +kernel
theorem d2_12 : decode prog_14_method_1_code 12 = .ok (.if_icmp .gt 11, 3) := by decide +kernel
theorem d2_15 : decode prog_14_method_1_code 15 = .ok (.iload_n 2, 1) := by decide +kernel
theorem d2_16 : decode prog_14_method_1_code 16 = .ok (.invokestatic 11, 3) := by decide +kernel
theorem pd_0 : parseMethodDescriptor "(I)I" = some ⟨[.int], some .int⟩ := by decide +kernel
theorem d2_19 : decode prog_14_method_1_code 19 = .ok (.iconst 1, 1) := by decide +kernel
theorem d2_20 : decode prog_14_method_1_code 20 = .ok (.if_icmp .eq 17, 3) := by decide +kernel
theorem d2_37 : decode prog_14_method_1_code 37 = .ok (.aload_n 0, 1) := by decide +kernel
theorem d2_38 : decode prog_14_method_1_code 38 = .ok (.iload_n 2, 1) := by decide +kernel
theorem d2_39 : decode prog_14_method_1_code 39 = .ok (.putfield 26, 3) := by decide +kernel
theorem d2_42 : decode prog_14_method_1_code 42 = .ok (.aload_n 0, 1) := by decide +kernel
theorem d2_43 : decode prog_14_method_1_code 43 = .ok (.iload_n 2, 1) := by decide +kernel
theorem d2_44 : decode prog_14_method_1_code 44 = .ok (.invokestatic 30, 3) := by decide +kernel
theorem d2_47 : decode prog_14_method_1_code 47 = .ok (.putfield 33, 3) := by decide +kernel
theorem d2_50 : decode prog_14_method_1_code 50 = .ok (.aload_n 0, 1) := by decide +kernel
theorem d2_51 : decode prog_14_method_1_code 51 = .ok (.iload_n 1, 1) := by decide +kernel
theorem d2_52 : decode prog_14_method_1_code 52 = .ok (.iload_n 2, 1) := by decide +kernel
theorem d2_53 : decode prog_14_method_1_code 53 = .ok (.invokestatic 36, 3) := by decide +kernel
theorem pd_1 : parseMethodDescriptor "(II)J" = some ⟨[.int, .int], some .long⟩ := by decide +kernel
theorem d2_56 : decode prog_14_method_1_code 56 = .ok (.ldc2_w 40, 3) := by decide +kernel
theorem d2_59 : decode prog_14_method_1_code 59 = .ok (.ldiv, 1) := by decide +kernel
theorem d2_60 : decode prog_14_method_1_code 60 = .ok (.l2i, 1) := by decide +kernel
theorem d2_61 : decode prog_14_method_1_code 61 = .ok (.newarray .long, 2) := by decide +kernel
theorem d2_63 : decode prog_14_method_1_code 63 = .ok (.putfield 42, 3) := by decide +kernel
theorem d2_66 : decode prog_14_method_1_code 66 = .ok (.return_, 1) := by decide +kernel
theorem ef_2 (a0 : Addr) (p1 : Int32) (p2 : Int32) : ∀ m : MethodId, entryFrame m #[(.ref a0), (.int p1), (.int p2)] 3 = mkF m 0 #[.val (.ref a0), .val (.int p1), .val (.int p2)] [] := by intro m; first | (simp [entryFrame, mkF, argsToLocals, Value.category]; done) | rfl
set_option maxRecDepth 65536 in
set_option maxHeartbeats 40000000 in
theorem rm2 (l : Launch) (Z : State) (az : Array Value) (hw : ∀ d ∈ tables_1, d.before az Z = true) (ws : List Jvm.Cond) (a0 : Addr) (p1 : Int32) (p2 : Int32) (w_a0_lanes : Int32) (w_a0_laneShift : Int32) (w_a0_words : Value) (w_a0_inUse : Int64) (w_a0_dirty : Int64) (h0 : Heap) (n0 : Nat) (Z0 : n0 ≤ h0.size) (E_a0 : Exa Z h0 a0 "com/example/dayflower/dayflower/filter/FilterSlab") (F_a0_lanes : Fld Z h0 a0 "com/example/dayflower/dayflower/filter/FilterSlab" "lanes" "I" (.int w_a0_lanes)) (ge_a0 : n0 ≤ a0) (F_a0_laneShift : Fld Z h0 a0 "com/example/dayflower/dayflower/filter/FilterSlab" "laneShift" "I" (.int w_a0_laneShift)) (F_a0_words : Fld Z h0 a0 "com/example/dayflower/dayflower/filter/FilterSlab" "words" "[J" w_a0_words) (F_a0_inUse : Fld Z h0 a0 "com/example/dayflower/dayflower/filter/FilterSlab" "inUse" "J" (.long w_a0_inUse)) (F_a0_dirty : Fld Z h0 a0 "com/example/dayflower/dayflower/filter/FilterSlab" "dirty" "J" (.long w_a0_dirty)) (ob_0 : ¬ (p2 < (1 : Int32))) (ob_1 : ¬ ((64 : Int32) < p2)) (ob_2 : (F_bitCount p2) = (1 : Int32)) (ob_3 : ¬ (Int64.toInt32 ((F_bytes p1 p2) / (8 : Int64))) < (0 : Int32) ∧ (Int32.toNatClampNeg (Int64.toInt32 ((F_bytes p1 p2) / (8 : Int64)))) ≤ 4096) :
    Met l (⟨"com/example/dayflower/dayflower/filter/FilterSlab", "<init>", "(II)V"⟩ : MethodName) prog_14_method_1_code 3 none ws ({ frames := 1, cells := 1, slots := 4096, locals := 16 } : Room) Z #[(.ref a0), (.int p1), (.int p2)] h0 (fun v h' L => ∃ b307 : Addr, n0 ≤ b307 ∧ h0.size ≤ b307 ∧ v = none ∧ Fr n0 L ∧ Keep h0 h' [a0] ∧ Fld Z h' a0 "com/example/dayflower/dayflower/filter/FilterSlab" "dirty" "J" (.long w_a0_dirty) ∧ Fld Z h' a0 "com/example/dayflower/dayflower/filter/FilterSlab" "inUse" "J" (.long w_a0_inUse) ∧ Fld Z h' a0 "com/example/dayflower/dayflower/filter/FilterSlab" "laneShift" "I" (.int (F_numberOfTrailingZeros p2)) ∧ Fld Z h' a0 "com/example/dayflower/dayflower/filter/FilterSlab" "lanes" "I" (.int p2) ∧ Fld Z h' a0 "com/example/dayflower/dayflower/filter/FilterSlab" "words" "[J" (.ref b307) ∧ Ary Z h' b307 .long (Int32.toNatClampNeg (Int64.toInt32 ((F_bytes p1 p2) / (8 : Int64)))) (fun i => Value.long ((fun _ => (0 : Int64)) i))) := by
  refine enter (plainFor_of_name pn_2) (ef_2 a0 p1 p2) ?_
  intro p e s m below meth c T0 kc kn Q hkc hkn hQ K' X0 e0
  have K : Fx p s m meth c prog_14_method_1_code 3 "com/example/dayflower/dayflower/filter/FilterSlab" "<init>" none Z := K'
  have N0 := Fr.nil n0
  have K0 : Keep h0 h0 [a0] := Keep.refl _ _
  refine k_aloadN K X0 d2_0 rfl rfl (q := 1) rfl ?_
  refine k_initO K X0 e0 d2_1 (wd hw 12 rfl) (wd hw 13 rfl) (wd hw 14 rfl) rfl (by decide) (W := 0) (Nat.le_of_eq rfl) (by decide) (q := 4) rfl ?_
  intro T265 X266 e267
  refine k_iloadN K X266 d2_4 rfl (q := 5) rfl ?_
  refine k_iconst K X266 d2_5 (v := (1 : Int32)) rfl (q := 6) rfl ?_
  refine k_icmp_lt_n K X266 d2_6 (ob_0) (q := 9) rfl ?_
  refine k_iloadN K X266 d2_9 rfl (q := 10) rfl ?_
  refine k_bipush K X266 d2_10 (v := (64 : Int32)) rfl (q := 12) rfl ?_
  refine k_icmp_gt_n K X266 d2_12 (ob_1) (q := 15) rfl ?_
  refine k_iloadN K X266 d2_15 rfl (q := 16) rfl ?_
  refine k_staticP K X266 e267 d2_16 (wd hw 15 rfl) (wd hw 16 rfl) (wd hw 17 rfl) (wd hw 18 rfl) (by decide) (rm4 l Z az hw [] p2 h0) (W := 0) (by decide) (by decide) (by decide) (by decide) rfl pd_0 (argsL := [(.int p2)]) (rest := []) rfl rfl rfl (Nat.le_of_eq rfl) (q := 19) rfl ?_
  intro T268 X269 e270
  refine k_iconst K X269 d2_19 (v := (1 : Int32)) rfl (q := 20) rfl ?_
  refine k_icmp_eq_y K X269 d2_20 (ob_2) (by decide) (q := 37) rfl ?_
  refine k_aloadN K X269 d2_37 rfl rfl (q := 38) rfl ?_
  refine k_iloadN K X269 d2_38 rfl (q := 39) rfl ?_
  refine k_putfield K X269 e270 d2_39 (wd hw 22 rfl) F_a0_lanes E_a0 (Or.inr ⟨(wd hw 23 rfl), rfl, rfl⟩) (wd hw 7 rfl) (ty := .int) (by decide) rfl rfl (q := 42) rfl ?_
  intro T271 h272 X273 e274 W275
  have f276 := Fld.same W275 F_a0_lanes
  have f277 := Exa.wr W275 E_a0
  have f278 := Fld.other W275 F_a0_laneShift (Or.inr (slot_ne (Or.inr (wd hw 28 rfl)) (Or.inr (wd hw 23 rfl)) (by decide) (t := .int) (t' := .int) (by decide) (by decide)))
  have f279 := Fld.other W275 F_a0_words (Or.inr (slot_ne (Or.inr (wd hw 36 rfl)) (Or.inr (wd hw 23 rfl)) (by decide) (t := (.array .long)) (t' := .int) (by decide) (by decide)))
  have f280 := Fld.other W275 F_a0_inUse (Or.inr (slot_ne (Or.inl (wd hw 43 rfl)) (Or.inr (wd hw 23 rfl)) (by decide) (t := .long) (t' := .int) (by decide) (by decide)))
  have f281 := Fld.other W275 F_a0_dirty (Or.inr (slot_ne (Or.inl (wd hw 45 rfl)) (Or.inr (wd hw 23 rfl)) (by decide) (t := .long) (t' := .int) (by decide) (by decide)))
  have N282 := Fr.snoc X273 N0 ge_a0
  have K283 := Keep.wr K0 W275 (Or.inl (List.mem_of_getElem? (i := 0) rfl))
  have Z284 := Nat.le_trans Z0 (Nat.le_of_eq (Wr.size W275).symm)
  refine k_aloadN K X273 d2_42 rfl rfl (q := 43) rfl ?_
  refine k_iloadN K X273 d2_43 rfl (q := 44) rfl ?_
  refine k_staticP K X273 e274 d2_44 (wd hw 24 rfl) (wd hw 25 rfl) (wd hw 17 rfl) (wd hw 26 rfl) (by decide) (rm5 l Z az hw [] p2 h272) (W := 1) (by decide) (by decide) (by decide) (by decide) rfl pd_0 (argsL := [(.int p2)]) (rest := [(.ref a0)]) rfl rfl rfl (Nat.le_of_eq rfl) (q := 47) rfl ?_
  intro T285 X286 e287
  refine k_putfield K X286 e287 d2_47 (wd hw 27 rfl) f278 f277 (Or.inr ⟨(wd hw 28 rfl), rfl, rfl⟩) (wd hw 7 rfl) (ty := .int) (by decide) rfl rfl (q := 50) rfl ?_
  intro T288 h289 X290 e291 W292
  have f293 := Fld.same W292 f278
  have f294 := Exa.wr W292 f277
  have f295 := Fld.other W292 f279 (Or.inr (slot_ne (Or.inr (wd hw 36 rfl)) (Or.inr (wd hw 28 rfl)) (by decide) (t := (.array .long)) (t' := .int) (by decide) (by decide)))
  have f296 := Fld.other W292 f280 (Or.inr (slot_ne (Or.inl (wd hw 43 rfl)) (Or.inr (wd hw 28 rfl)) (by decide) (t := .long) (t' := .int) (by decide) (by decide)))
  have f297 := Fld.other W292 f281 (Or.inr (slot_ne (Or.inl (wd hw 45 rfl)) (Or.inr (wd hw 28 rfl)) (by decide) (t := .long) (t' := .int) (by decide) (by decide)))
  have f298 := Fld.other W292 f276 (Or.inr (slot_ne (Or.inr (wd hw 23 rfl)) (Or.inr (wd hw 28 rfl)) (by decide) (t := .int) (t' := .int) (by decide) (by decide)))
  have N299 := Fr.snoc X290 N282 ge_a0
  have K300 := Keep.wr K283 W292 (Or.inl (List.mem_of_getElem? (i := 0) rfl))
  have Z301 := Nat.le_trans Z284 (Nat.le_of_eq (Wr.size W292).symm)
  refine k_aloadN K X290 d2_50 rfl rfl (q := 51) rfl ?_
  refine k_iloadN K X290 d2_51 rfl (q := 52) rfl ?_
  refine k_iloadN K X290 d2_52 rfl (q := 53) rfl ?_
  refine k_staticP K X290 e291 d2_53 (wd hw 29 rfl) (wd hw 30 rfl) (wd hw 8 rfl) (wd hw 31 rfl) (by decide) (rm6 l Z az hw [] p1 p2 h289) (W := 1) (by decide) (by decide) (by decide) (by decide) rfl pd_1 (argsL := [(.int p1), (.int p2)]) (rest := [(.ref a0)]) rfl rfl rfl (Nat.le_of_eq rfl) (q := 56) rfl ?_
  intro T302 X303 e304
  refine k_ldc2 K X303 d2_56 (wd hw 33 rfl) (q := 59) rfl ?_
  refine k_ldiv K X303 d2_59 (by decide) (q := 60) rfl ?_
  refine k_l2i K X303 d2_60 (q := 61) rfl ?_
  refine k_newarray K X303 e304 d2_61 (ty := .long) rfl (wd hw 34 rfl) (n := (Int32.toNatClampNeg (Int64.toInt32 ((F_bytes p1 p2) / (8 : Int64))))) (cap := 4096) ⟨((ob_3)).1, rfl⟩ ((ob_3)).2 (by decide) (by decide) (by decide) (q := 63) rfl ?_
  intro T305 h306 b307 X308 e309 g310 E311 A312 
  have ne313 : a0 ≠ b307 := Nat.ne_of_lt (Nat.lt_of_lt_of_eq (f294).lt g310.symm)
  have ge314 : n0 ≤ b307 := Nat.le_trans Z301 (Nat.le_of_eq g310.symm)
  have bn315 : h0.size ≤ b307 := Nat.le_trans K300.1 (Nat.le_of_eq g310.symm)
  have f316 := Exa.ext E311 f294
  have f317 := Fld.ext E311 f295
  have f318 := Fld.ext E311 f296
  have f319 := Fld.ext E311 f297
  have f320 := Fld.ext E311 f298
  have f321 := Fld.ext E311 f293
  have K322 := Keep.ext K300 E311
  have Z323 := Nat.le_trans Z301 E311.1
  have f324 : Ary Z h306 b307 .long (Int32.toNatClampNeg (Int64.toInt32 ((F_bytes p1 p2) / (8 : Int64)))) (fun i => Value.long ((fun _ => (0 : Int64)) i)) := A312
  refine k_putfield K X308 e309 d2_63 (wd hw 35 rfl) f317 f316 (Or.inr ⟨(wd hw 36 rfl), rfl, rfl⟩) (wd hw 7 rfl) (ty := (.array .long)) (by decide) rfl rfl (q := 66) rfl ?_
  intro T325 h326 X327 e328 W329
  have f330 := Fld.same W329 f317
  have f331 := Exa.wr W329 f316
  have f332 := Fld.other W329 f318 (Or.inr (slot_ne (Or.inl (wd hw 43 rfl)) (Or.inr (wd hw 36 rfl)) (by decide) (t := .long) (t' := (.array .long)) (by decide) (by decide)))
  have f333 := Fld.other W329 f319 (Or.inr (slot_ne (Or.inl (wd hw 45 rfl)) (Or.inr (wd hw 36 rfl)) (by decide) (t := .long) (t' := (.array .long)) (by decide) (by decide)))
  have f334 := Fld.other W329 f320 (Or.inr (slot_ne (Or.inr (wd hw 23 rfl)) (Or.inr (wd hw 36 rfl)) (by decide) (t := .int) (t' := (.array .long)) (by decide) (by decide)))
  have f335 := Fld.other W329 f321 (Or.inr (slot_ne (Or.inr (wd hw 28 rfl)) (Or.inr (wd hw 36 rfl)) (by decide) (t := .int) (t' := (.array .long)) (by decide) (by decide)))
  have f336 := Ary.other f324 W329 (Ne.symm ne313)
  have N337 := Fr.snoc X327 N299 ge_a0
  have K338 := Keep.wr K322 W329 (Or.inl (List.mem_of_getElem? (i := 0) rfl))
  have Z339 := Nat.le_trans Z323 (Nat.le_of_eq (Wr.size W329).symm)
  exact k_retv K X327 e328 d2_66 (Nat.le_trans (by decide) hkc) (Nat.le_trans (by decide) hkn) (hQ _ _ _ ⟨b307, ge314, bn315, rfl, N337, K338, f333, f332, f335, f334, f330, f336⟩)
theorem d7_0 : decode prog_14_method_6_code 0 = .ok (.lconst 1, 1) := by decide +kernel
theorem d7_1 : decode prog_14_method_6_code 1 = .ok (.iload_n 1, 1) := by decide +kernel
theorem d7_2 : decode prog_14_method_6_code 2 = .ok (.lshl, 1) := by decide +kernel
theorem d7_3 : decode prog_14_method_6_code 3 = .ok (.lstore_n 2, 1) := by decide +kernel
theorem d7_4 : decode prog_14_method_6_code 4 = .ok (.aload_n 0, 1) := by decide +kernel
theorem d7_5 : decode prog_14_method_6_code 5 = .ok (.getfield 48, 3) := by decide +kernel
theorem d7_8 : decode prog_14_method_6_code 8 = .ok (.lload_n 2, 1) := by decide +kernel
theorem d7_9 : decode prog_14_method_6_code 9 = .ok (.land, 1) := by decide +kernel
theorem d7_10 : decode prog_14_method_6_code 10 = .ok (.lconst 0, 1) := by decide +kernel
theorem d7_11 : decode prog_14_method_6_code 11 = .ok (.lcmp, 1) := by decide +kernel
theorem d7_12 : decode prog_14_method_6_code 12 = .ok (.ifCond .eq 17, 3) := by decide +kernel
theorem d7_29 : decode prog_14_method_6_code 29 = .ok (.aload_n 0, 1) := by decide +kernel
theorem d7_30 : decode prog_14_method_6_code 30 = .ok (.getfield 56, 3) := by decide +kernel
theorem d7_33 : decode prog_14_method_6_code 33 = .ok (.lload_n 2, 1) := by decide +kernel
theorem d7_34 : decode prog_14_method_6_code 34 = .ok (.land, 1) := by decide +kernel
theorem d7_35 : decode prog_14_method_6_code 35 = .ok (.lconst 0, 1) := by decide +kernel
theorem d7_36 : decode prog_14_method_6_code 36 = .ok (.lcmp, 1) := by decide +kernel
theorem d7_37 : decode prog_14_method_6_code 37 = .ok (.ifCond .eq 53, 3) := by decide +kernel
theorem d7_90 : decode prog_14_method_6_code 90 = .ok (.aload_n 0, 1) := by decide +kernel
theorem d7_91 : decode prog_14_method_6_code 91 = .ok (.dup, 1) := by decide +kernel
theorem d7_92 : decode prog_14_method_6_code 92 = .ok (.getfield 48, 3) := by decide +kernel
theorem d7_95 : decode prog_14_method_6_code 95 = .ok (.lload_n 2, 1) := by decide +kernel
theorem d7_96 : decode prog_14_method_6_code 96 = .ok (.lor, 1) := by decide +kernel
theorem d7_97 : decode prog_14_method_6_code 97 = .ok (.putfield 48, 3) := by decide +kernel
theorem d7_100 : decode prog_14_method_6_code 100 = .ok (.return_, 1) := by decide +kernel
theorem ef_7 (a0 : Addr) (p1 : Int32) : ∀ m : MethodId, entryFrame m #[(.ref a0), (.int p1)] 7 = mkF m 0 #[.val (.ref a0), .val (.int p1), .unset, .unset, .unset, .unset, .unset] [] := by intro m; first | (simp [entryFrame, mkF, argsToLocals, Value.category]; done) | rfl
def F_take_a0_inUse (p1 : Int32) (w_a0_inUse : Int64) (w_a0_dirty : Int64) (w_a0_lanes : Int32) (w_a0_laneShift : Int32) : Int64 :=
  let v431 : Int64 := (shlL (1 : Int64) p1)
  (w_a0_inUse ||| v431)
set_option maxRecDepth 65536 in
set_option maxHeartbeats 40000000 in
theorem rm7 (l : Launch) (Z : State) (az : Array Value) (hw : ∀ d ∈ tables_1, d.before az Z = true) (ws : List Jvm.Cond) (a0 : Addr) (p1 : Int32) (w_a0_inUse : Int64) (w_a0_dirty : Int64) (w_a0_lanes : Int32) (w_a0_laneShift : Int32) (w_a0_words : Value) (h0 : Heap) (n0 : Nat) (Z0 : n0 ≤ h0.size) (F_a0_inUse : Fld Z h0 a0 "com/example/dayflower/dayflower/filter/FilterSlab" "inUse" "J" (.long w_a0_inUse)) (F_a0_dirty : Fld Z h0 a0 "com/example/dayflower/dayflower/filter/FilterSlab" "dirty" "J" (.long w_a0_dirty)) (E_a0 : Exa Z h0 a0 "com/example/dayflower/dayflower/filter/FilterSlab") (ge_a0 : n0 ≤ a0) (F_a0_lanes : Fld Z h0 a0 "com/example/dayflower/dayflower/filter/FilterSlab" "lanes" "I" (.int w_a0_lanes)) (F_a0_laneShift : Fld Z h0 a0 "com/example/dayflower/dayflower/filter/FilterSlab" "laneShift" "I" (.int w_a0_laneShift)) (F_a0_words : Fld Z h0 a0 "com/example/dayflower/dayflower/filter/FilterSlab" "words" "[J" w_a0_words) (ob_0 : ∀ (v431 : Int64), (shlL (1 : Int64) p1) = v431 → (w_a0_inUse &&& v431) = (0 : Int64)) (ob_1 : ∀ (v431 : Int64), (shlL (1 : Int64) p1) = v431 → (w_a0_dirty &&& v431) = (0 : Int64)) :
    Met l (⟨"com/example/dayflower/dayflower/filter/FilterSlab", "take", "(I)V"⟩ : MethodName) prog_14_method_6_code 7 none ws ({ frames := 0, cells := 0, slots := 0, locals := 0 } : Room) Z #[(.ref a0), (.int p1)] h0 (fun v h' L => v = none ∧ Fr n0 L ∧ Keep h0 h' [a0] ∧ Fld Z h' a0 "com/example/dayflower/dayflower/filter/FilterSlab" "dirty" "J" (.long w_a0_dirty) ∧ Fld Z h' a0 "com/example/dayflower/dayflower/filter/FilterSlab" "inUse" "J" (.long (F_take_a0_inUse p1 w_a0_inUse w_a0_dirty w_a0_lanes w_a0_laneShift)) ∧ Fld Z h' a0 "com/example/dayflower/dayflower/filter/FilterSlab" "laneShift" "I" (.int w_a0_laneShift) ∧ Fld Z h' a0 "com/example/dayflower/dayflower/filter/FilterSlab" "lanes" "I" (.int w_a0_lanes) ∧ Fld Z h' a0 "com/example/dayflower/dayflower/filter/FilterSlab" "words" "[J" w_a0_words) := by
  refine enter (plainFor_of_name pn_2) (ef_7 a0 p1) ?_
  intro p e s m below meth c T0 kc kn Q hkc hkn hQ K' X0 e0
  have K : Fx p s m meth c prog_14_method_6_code 7 "com/example/dayflower/dayflower/filter/FilterSlab" "take" none Z := K'
  have N0 := Fr.nil n0
  have K0 : Keep h0 h0 [a0] := Keep.refl _ _
  refine k_lconst1 K X0 d7_0 (q := 1) rfl ?_
  refine k_iloadN K X0 d7_1 rfl (q := 2) rfl ?_
  refine k_lshl K X0 d7_2 (q := 3) rfl ?_
  obtain ⟨v431, hv_v431⟩ : ∃ z : Int64, (shlL (1 : Int64) p1) = z := ⟨_, rfl⟩
  refine k_lstoreN K X0 d7_3 hv_v431 (Ls' := #[.val (.ref a0), .val (.int p1), .val (.long v431), .second, .unset, .unset, .unset]) rfl (q := 4) rfl ?_
  refine k_aloadN K X0 d7_4 rfl rfl (q := 5) rfl ?_
  refine k_getfield K X0 e0 d7_5 (wd hw 42 rfl) F_a0_inUse (q := 8) rfl ?_
  intro T432 X433 e434
  refine k_lloadN K X433 d7_8 rfl (q := 9) rfl ?_
  refine k_land K X433 d7_9 (q := 10) rfl ?_
  refine k_lconst0 K X433 d7_10 (q := 11) rfl ?_
  refine k_lcmp K X433 d7_11 (q := 12) rfl ?_
  refine k_lcmp_eq_y K X433 d7_12 (ob_0 v431 hv_v431) (by decide) (q := 29) rfl ?_
  refine k_aloadN K X433 d7_29 rfl rfl (q := 30) rfl ?_
  refine k_getfield K X433 e434 d7_30 (wd hw 44 rfl) F_a0_dirty (q := 33) rfl ?_
  intro T435 X436 e437
  refine k_lloadN K X436 d7_33 rfl (q := 34) rfl ?_
  refine k_land K X436 d7_34 (q := 35) rfl ?_
  refine k_lconst0 K X436 d7_35 (q := 36) rfl ?_
  refine k_lcmp K X436 d7_36 (q := 37) rfl ?_
  refine k_lcmp_eq_y K X436 d7_37 (ob_1 v431 hv_v431) (by decide) (q := 90) rfl ?_
  refine k_aloadN K X436 d7_90 rfl rfl (q := 91) rfl ?_
  refine k_dup K X436 d7_91 rfl (q := 92) rfl ?_
  refine k_getfield K X436 e437 d7_92 (wd hw 42 rfl) F_a0_inUse (q := 95) rfl ?_
  intro T438 X439 e440
  refine k_lloadN K X439 d7_95 rfl (q := 96) rfl ?_
  refine k_lor K X439 d7_96 (q := 97) rfl ?_
  refine k_putfield K X439 e440 d7_97 (wd hw 42 rfl) F_a0_inUse E_a0 (Or.inl (wd hw 43 rfl)) (wd hw 7 rfl) (ty := .long) (by decide) rfl rfl (q := 100) rfl ?_
  intro T441 h442 X443 e444 W445
  have f446 := Fld.same W445 F_a0_inUse
  have f447 := Fld.other W445 F_a0_dirty (Or.inr (slot_ne (Or.inl (wd hw 45 rfl)) (Or.inl (wd hw 43 rfl)) (by decide) (t := .long) (t' := .long) (by decide) (by decide)))
  have f448 := Exa.wr W445 E_a0
  have f449 := Fld.other W445 F_a0_lanes (Or.inr (slot_ne (Or.inr (wd hw 23 rfl)) (Or.inl (wd hw 43 rfl)) (by decide) (t := .int) (t' := .long) (by decide) (by decide)))
  have f450 := Fld.other W445 F_a0_laneShift (Or.inr (slot_ne (Or.inr (wd hw 28 rfl)) (Or.inl (wd hw 43 rfl)) (by decide) (t := .int) (t' := .long) (by decide) (by decide)))
  have f451 := Fld.other W445 F_a0_words (Or.inr (slot_ne (Or.inr (wd hw 36 rfl)) (Or.inl (wd hw 43 rfl)) (by decide) (t := (.array .long)) (t' := .long) (by decide) (by decide)))
  have N452 := Fr.snoc X443 N0 ge_a0
  have K453 := Keep.wr K0 W445 (Or.inl (List.mem_of_getElem? (i := 0) rfl))
  have Z454 := Nat.le_trans Z0 (Nat.le_of_eq (Wr.size W445).symm)
  exact k_retv K X443 e444 d7_100 (Nat.le_trans (by decide) hkc) (Nat.le_trans (by decide) hkn) (hQ _ _ _ ⟨rfl, N452, K453, f447, (by rw [(show F_take_a0_inUse p1 w_a0_inUse w_a0_dirty w_a0_lanes w_a0_laneShift = (w_a0_inUse ||| v431) from by first | (simp only [F_take_a0_inUse, hv_v431]; done) | (subst hv_v431; simp only [F_take_a0_inUse]))]; exact f446), f450, f449, f451⟩)
theorem d8_0 : decode prog_14_method_4_code 0 = .ok (.aload_n 1, 1) := by decide +kernel
theorem d8_1 : decode prog_14_method_4_code 1 = .ok (.astore 4, 2) := by decide +kernel
theorem d8_3 : decode prog_14_method_4_code 3 = .ok (.aload 4, 2) := by decide +kernel
theorem d8_5 : decode prog_14_method_4_code 5 = .ok (.arraylength, 1) := by decide +kernel
theorem d8_6 : decode prog_14_method_4_code 6 = .ok (.istore 5, 2) := by decide +kernel
theorem d8_8 : decode prog_14_method_4_code 8 = .ok (.iconst 0, 1) := by decide +kernel
theorem d8_9 : decode prog_14_method_4_code 9 = .ok (.istore 6, 2) := by decide +kernel
theorem d8_11 : decode prog_14_method_4_code 11 = .ok (.iload 6, 2) := by decide +kernel
theorem d8_13 : decode prog_14_method_4_code 13 = .ok (.iload 5, 2) := by decide +kernel
theorem d8_15 : decode prog_14_method_4_code 15 = .ok (.if_icmp .ge 45, 3) := by decide +kernel
theorem d8_18 : decode prog_14_method_4_code 18 = .ok (.aload 4, 2) := by decide +kernel
theorem d8_20 : decode prog_14_method_4_code 20 = .ok (.iload 6, 2) := by decide +kernel
theorem d8_22 : decode prog_14_method_4_code 22 = .ok (.iaload, 1) := by decide +kernel
theorem d8_23 : decode prog_14_method_4_code 23 = .ok (.istore 7, 2) := by decide +kernel
theorem d8_25 : decode prog_14_method_4_code 25 = .ok (.iload 7, 2) := by decide +kernel
theorem d8_27 : decode prog_14_method_4_code 27 = .ok (.i2l, 1) := by decide +kernel
theorem d8_28 : decode prog_14_method_4_code 28 = .ok (.aload_n 0, 1) := by decide +kernel
theorem d8_29 : decode prog_14_method_4_code 29 = .ok (.getfield 33, 3) := by decide +kernel
theorem d8_32 : decode prog_14_method_4_code 32 = .ok (.lshl, 1) := by decide +kernel
theorem d8_33 : decode prog_14_method_4_code 33 = .ok (.lstore 8, 2) := by decide +kernel
theorem d8_35 : decode prog_14_method_4_code 35 = .ok (.aload_n 0, 1) := by decide +kernel
theorem d8_36 : decode prog_14_method_4_code 36 = .ok (.getfield 42, 3) := by decide +kernel
theorem d8_39 : decode prog_14_method_4_code 39 = .ok (.lload 8, 2) := by decide +kernel
theorem d8_41 : decode prog_14_method_4_code 41 = .ok (.bipush 6, 2) := by decide +kernel
theorem d8_43 : decode prog_14_method_4_code 43 = .ok (.lushr, 1) := by decide +kernel
theorem d8_44 : decode prog_14_method_4_code 44 = .ok (.l2i, 1) := by decide +kernel
theorem d8_45 : decode prog_14_method_4_code 45 = .ok (.dup2, 1) := by decide +kernel
theorem d8_46 : decode prog_14_method_4_code 46 = .ok (.laload, 1) := by decide +kernel
theorem d8_47 : decode prog_14_method_4_code 47 = .ok (.lload_n 2, 1) := by decide +kernel
theorem d8_48 : decode prog_14_method_4_code 48 = .ok (.lload 8, 2) := by decide +kernel
theorem d8_50 : decode prog_14_method_4_code 50 = .ok (.l2i, 1) := by decide +kernel
theorem d8_51 : decode prog_14_method_4_code 51 = .ok (.lshl, 1) := by decide +kernel
theorem d8_52 : decode prog_14_method_4_code 52 = .ok (.lor, 1) := by decide +kernel
theorem d8_53 : decode prog_14_method_4_code 53 = .ok (.lastore, 1) := by decide +kernel
theorem d8_54 : decode prog_14_method_4_code 54 = .ok (.iinc 6 1, 3) := by decide +kernel
theorem d8_57 : decode prog_14_method_4_code 57 = .ok (.goto (-46), 3) := by decide +kernel
theorem d8_60 : decode prog_14_method_4_code 60 = .ok (.return_, 1) := by decide +kernel
theorem ef_81 (a0 : Addr) (a1 : Addr) (q2 : Int64) : ∀ m : MethodId, entryFrame m #[(.ref a0), (.ref a1), (.long q2)] 10 = mkF m 0 #[.val (.ref a0), .val (.ref a1), .val (.long q2), .second, .unset, .unset, .unset, .unset, .unset, .unset] [] := by intro m; first | (simp [entryFrame, mkF, argsToLocals, Value.category]; done) | rfl
def F_add1_w_a0_words_g (q2 : Int64) (s_a1_0 : Int32) (w_a0_laneShift : Int32) (n_w_a0_words : Nat) (g_w_a0_words : Nat → Int64) : Nat → Int64 :=
  let v510 : Int64 := (shlL (Int32.toInt64 s_a1_0) w_a0_laneShift)
  let v514 : Int64 := (g_w_a0_words (Int32.toNatClampNeg (Int64.toInt32 (ushrL v510 (6 : Int32)))))
  let v515 : Nat → Int64 := (upd g_w_a0_words (Int32.toNatClampNeg (Int64.toInt32 (ushrL v510 (6 : Int32)))) (v514 ||| (shlL q2 (Int64.toInt32 v510))))
  v515
set_option maxRecDepth 65536 in
set_option maxHeartbeats 40000000 in
theorem rm81 (l : Launch) (Z : State) (az : Array Value) (hw : ∀ d ∈ tables_1, d.before az Z = true) (ws : List Jvm.Cond) (a0 : Addr) (a1 : Addr) (q2 : Int64) (s_a1_0 : Int32) (w_a0_laneShift : Int32) (w_a0_words : Addr) (n_w_a0_words : Nat) (g_w_a0_words : Nat → Int64) (h0 : Heap) (n0 : Nat) (Z0 : n0 ≤ h0.size) (A_a1 : Ary Z h0 a1 .int 1 (fun i => Value.int (List.getD [s_a1_0] i 0))) (F_a0_laneShift : Fld Z h0 a0 "com/example/dayflower/dayflower/filter/FilterSlab" "laneShift" "I" (.int w_a0_laneShift)) (F_a0_words : Fld Z h0 a0 "com/example/dayflower/dayflower/filter/FilterSlab" "words" "[J" (.ref w_a0_words)) (A_w_a0_words : Ary Z h0 w_a0_words .long n_w_a0_words (fun i => Value.long (g_w_a0_words i))) (ge_w_a0_words : n0 ≤ w_a0_words) (ne_a1_w_a0_words : a1 ≠ w_a0_words) (ne_a0_w_a0_words : a0 ≠ w_a0_words) (ob_0 : ∀ (v510 : Int64), (shlL (Int32.toInt64 s_a1_0) w_a0_laneShift) = v510 → ¬ (Int64.toInt32 (ushrL v510 (6 : Int32))) < (0 : Int32) ∧ Int32.toNatClampNeg (Int64.toInt32 (ushrL v510 (6 : Int32))) < n_w_a0_words) :
    Met l (⟨"com/example/dayflower/dayflower/filter/FilterSlab", "add", "([IJ)V"⟩ : MethodName) prog_14_method_4_code 10 none ws ({ frames := 0, cells := 0, slots := 0, locals := 0 } : Room) Z #[(.ref a0), (.ref a1), (.long q2)] h0 (fun v h' L => v = none ∧ Fr n0 L ∧ Keep h0 h' [w_a0_words] ∧ Ary Z h' w_a0_words .long n_w_a0_words (fun i => Value.long ((F_add1_w_a0_words_g q2 s_a1_0 w_a0_laneShift n_w_a0_words g_w_a0_words) i))) := by
  refine enter (plainFor_of_name pn_2) (ef_81 a0 a1 q2) ?_
  intro p e s m below meth c T0 kc kn Q hkc hkn hQ K' X0 e0
  have K : Fx p s m meth c prog_14_method_4_code 10 "com/example/dayflower/dayflower/filter/FilterSlab" "add" none Z := K'
  have N0 := Fr.nil n0
  have K0 : Keep h0 h0 [w_a0_words] := Keep.refl _ _
  refine k_aloadN K X0 d8_0 rfl rfl (q := 1) rfl ?_
  refine k_astore K X0 d8_1 rfl (Ls' := #[.val (.ref a0), .val (.ref a1), .val (.long q2), .second, .val (.ref a1), .unset, .unset, .unset, .unset, .unset]) rfl (q := 3) rfl ?_
  refine k_aload K X0 d8_3 rfl rfl (q := 5) rfl ?_
  refine k_arraylength K X0 e0 d8_5 A_a1 (v := (1 : Int32)) rfl (q := 6) rfl ?_
  refine k_istore K X0 d8_6 rfl (Ls' := #[.val (.ref a0), .val (.ref a1), .val (.long q2), .second, .val (.ref a1), .val (.int (1 : Int32)), .unset, .unset, .unset, .unset]) rfl (q := 8) rfl ?_
  refine k_iconst K X0 d8_8 (v := (0 : Int32)) rfl (q := 9) rfl ?_
  refine k_istore K X0 d8_9 rfl (Ls' := #[.val (.ref a0), .val (.ref a1), .val (.long q2), .second, .val (.ref a1), .val (.int (1 : Int32)), .val (.int (0 : Int32)), .unset, .unset, .unset]) rfl (q := 11) rfl ?_
  refine k_iload K X0 d8_11 rfl (q := 13) rfl ?_
  refine k_iload K X0 d8_13 rfl (q := 15) rfl ?_
  refine k_icmp_ge_n K X0 d8_15 (by decide) (q := 18) rfl ?_
  refine k_aload K X0 d8_18 rfl rfl (q := 20) rfl ?_
  refine k_iload K X0 d8_20 rfl (q := 22) rfl ?_
  refine k_iaload K X0 e0 d8_22 A_a1 (i := 0) (v := (.int s_a1_0)) (by decide) (by decide) rfl (q := 23) rfl ?_
  refine k_istore K X0 d8_23 rfl (Ls' := #[.val (.ref a0), .val (.ref a1), .val (.long q2), .second, .val (.ref a1), .val (.int (1 : Int32)), .val (.int (0 : Int32)), .val (.int s_a1_0), .unset, .unset]) rfl (q := 25) rfl ?_
  refine k_iload K X0 d8_25 rfl (q := 27) rfl ?_
  refine k_i2l K X0 d8_27 (q := 28) rfl ?_
  refine k_aloadN K X0 d8_28 rfl rfl (q := 29) rfl ?_
  refine k_getfield K X0 e0 d8_29 (wd hw 27 rfl) F_a0_laneShift (q := 32) rfl ?_
  intro T507 X508 e509
  refine k_lshl K X508 d8_32 (q := 33) rfl ?_
  obtain ⟨v510, hv_v510⟩ : ∃ z : Int64, (shlL (Int32.toInt64 s_a1_0) w_a0_laneShift) = z := ⟨_, rfl⟩
  refine k_lstore K X508 d8_33 hv_v510 (Ls' := #[.val (.ref a0), .val (.ref a1), .val (.long q2), .second, .val (.ref a1), .val (.int (1 : Int32)), .val (.int (0 : Int32)), .val (.int s_a1_0), .val (.long v510), .second]) rfl (q := 35) rfl ?_
  refine k_aloadN K X508 d8_35 rfl rfl (q := 36) rfl ?_
  refine k_getfield K X508 e509 d8_36 (wd hw 35 rfl) F_a0_words (q := 39) rfl ?_
  intro T511 X512 e513
  refine k_lload K X512 d8_39 rfl (q := 41) rfl ?_
  refine k_bipush K X512 d8_41 (v := (6 : Int32)) rfl (q := 43) rfl ?_
  refine k_lushr K X512 d8_43 (q := 44) rfl ?_
  refine k_l2i K X512 d8_44 (q := 45) rfl ?_
  refine k_dup2 K X512 d8_45 rfl rfl (q := 46) rfl ?_
  refine k_laload K X512 e513 d8_46 A_w_a0_words (i := (Int32.toNatClampNeg (Int64.toInt32 (ushrL v510 (6 : Int32))))) (v := (.long (g_w_a0_words (Int32.toNatClampNeg (Int64.toInt32 (ushrL v510 (6 : Int32))))))) ⟨((ob_0 v510 hv_v510)).1, rfl⟩ ((ob_0 v510 hv_v510)).2 rfl (q := 47) rfl ?_
  obtain ⟨v514, hv_v514⟩ : ∃ z : Int64, (g_w_a0_words (Int32.toNatClampNeg (Int64.toInt32 (ushrL v510 (6 : Int32))))) = z := ⟨_, rfl⟩
  refine k_nameJ hv_v514 ?_
  refine k_lloadN K X512 d8_47 rfl (q := 48) rfl ?_
  refine k_lload K X512 d8_48 rfl (q := 50) rfl ?_
  refine k_l2i K X512 d8_50 (q := 51) rfl ?_
  refine k_lshl K X512 d8_51 (q := 52) rfl ?_
  refine k_lor K X512 d8_52 (q := 53) rfl ?_
  obtain ⟨v515, hv_v515⟩ : ∃ z : Nat → Int64, (upd g_w_a0_words (Int32.toNatClampNeg (Int64.toInt32 (ushrL v510 (6 : Int32)))) (v514 ||| (shlL q2 (Int64.toInt32 v510)))) = z := ⟨_, rfl⟩
  refine k_lastore K X512 e513 d8_53 A_w_a0_words (i := (Int32.toNatClampNeg (Int64.toInt32 (ushrL v510 (6 : Int32))))) ⟨((ob_0 v510 hv_v510)).1, rfl⟩ ((ob_0 v510 hv_v510)).2 (q := 54) rfl ?_
  intro T516 h517 X518 e519 W520 A521
  have f522 : Ary Z h517 w_a0_words .long n_w_a0_words (fun i => Value.long (v515 i)) := Ary.eqv A521 (fun k _ => by rw [← hv_v515]; show (if k = (Int32.toNatClampNeg (Int64.toInt32 (ushrL v510 (6 : Int32)))) then _ else _) = _; unfold upd; split <;> rfl)
  have f523 := Ary.other A_a1 W520 ne_a1_w_a0_words
  have f524 := Fld.other W520 F_a0_laneShift (Or.inl ne_a0_w_a0_words)
  have f525 := Fld.other W520 F_a0_words (Or.inl ne_a0_w_a0_words)
  have N526 := Fr.snoc X518 N0 ge_w_a0_words
  have K527 := Keep.wr K0 W520 (Or.inl (List.mem_of_getElem? (i := 0) rfl))
  have Z528 := Nat.le_trans Z0 (Nat.le_of_eq (Wr.size W520).symm)
  refine k_iinc K X518 d8_54 rfl (by decide) (Ls' := #[.val (.ref a0), .val (.ref a1), .val (.long q2), .second, .val (.ref a1), .val (.int (1 : Int32)), .val (.int (1 : Int32)), .val (.int s_a1_0), .val (.long v510), .second]) rfl (q := 57) rfl ?_
  refine k_goto K X518 d8_57 (by decide) (q := 11) rfl ?_
  refine k_iload K X518 d8_11 rfl (q := 13) rfl ?_
  refine k_iload K X518 d8_13 rfl (q := 15) rfl ?_
  refine k_icmp_ge_y K X518 d8_15 (by decide) (by decide) (q := 60) rfl ?_
  exact k_retv K X518 e519 d8_60 (Nat.le_trans (by decide) hkc) (Nat.le_trans (by decide) hkn) (hQ _ _ _ ⟨rfl, N526, K527, (by rw [(show F_add1_w_a0_words_g q2 s_a1_0 w_a0_laneShift n_w_a0_words g_w_a0_words = v515 from by first | (simp only [F_add1_w_a0_words_g, hv_v510, hv_v514, hv_v515]; done) | (subst hv_v510; subst hv_v514; subst hv_v515; simp only [F_add1_w_a0_words_g]))]; exact f522)⟩)
theorem d9_0 : decode prog_14_method_3_code 0 = .ok (.aload_n 0, 1) := by decide +kernel
theorem d9_1 : decode prog_14_method_3_code 1 = .ok (.getfield 48, 3) := by decide +kernel
theorem d9_4 : decode prog_14_method_3_code 4 = .ok (.lstore_n 2, 1) := by decide +kernel
theorem d9_5 : decode prog_14_method_3_code 5 = .ok (.aload_n 1, 1) := by decide +kernel
theorem d9_6 : decode prog_14_method_3_code 6 = .ok (.astore 4, 2) := by decide +kernel
theorem d9_8 : decode prog_14_method_3_code 8 = .ok (.aload 4, 2) := by decide +kernel
theorem d9_10 : decode prog_14_method_3_code 10 = .ok (.arraylength, 1) := by decide +kernel
theorem d9_11 : decode prog_14_method_3_code 11 = .ok (.istore 5, 2) := by decide +kernel
theorem d9_13 : decode prog_14_method_3_code 13 = .ok (.iconst 0, 1) := by decide +kernel
theorem d9_14 : decode prog_14_method_3_code 14 = .ok (.istore 6, 2) := by decide +kernel
theorem d9_16 : decode prog_14_method_3_code 16 = .ok (.iload 6, 2) := by decide +kernel
theorem d9_18 : decode prog_14_method_3_code 18 = .ok (.iload 5, 2) := by decide +kernel
theorem d9_20 : decode prog_14_method_3_code 20 = .ok (.if_icmp .ge 53, 3) := by decide +kernel
theorem d9_73 : decode prog_14_method_3_code 73 = .ok (.lload_n 2, 1) := by decide +kernel
theorem d9_74 : decode prog_14_method_3_code 74 = .ok (.lreturn, 1) := by decide +kernel
theorem ef_90 (a0 : Addr) (a1 : Addr) : ∀ m : MethodId, entryFrame m #[(.ref a0), (.ref a1)] 10 = mkF m 0 #[.val (.ref a0), .val (.ref a1), .unset, .unset, .unset, .unset, .unset, .unset, .unset, .unset] [] := by intro m; first | (simp [entryFrame, mkF, argsToLocals, Value.category]; done) | rfl
def F_holding0 (w_a0_inUse : Int64) : Int64 :=
  w_a0_inUse
set_option maxRecDepth 65536 in
set_option maxHeartbeats 40000000 in
theorem rm90 (l : Launch) (Z : State) (az : Array Value) (hw : ∀ d ∈ tables_1, d.before az Z = true) (ws : List Jvm.Cond) (a0 : Addr) (a1 : Addr) (w_a0_inUse : Int64) (h0 : Heap) (F_a0_inUse : Fld Z h0 a0 "com/example/dayflower/dayflower/filter/FilterSlab" "inUse" "J" (.long w_a0_inUse)) (A_a1 : Ary Z h0 a1 .int 0 (fun i => Value.int (List.getD [] i 0))) :
    Met l (⟨"com/example/dayflower/dayflower/filter/FilterSlab", "holding", "([I)J"⟩ : MethodName) prog_14_method_3_code 10 (some .long) ws ({ frames := 0, cells := 0, slots := 0, locals := 0 } : Room) Z #[(.ref a0), (.ref a1)] h0 (fun v h' L => v = some (Value.long (F_holding0 w_a0_inUse)) ∧ h' = h0 ∧ L = []) := by
  refine enter (plainFor_of_name pn_2) (ef_90 a0 a1) ?_
  intro p e s m below meth c T0 kc kn Q hkc hkn hQ K' X0 e0
  have K : Fx p s m meth c prog_14_method_3_code 10 "com/example/dayflower/dayflower/filter/FilterSlab" "holding" (some .long) Z := K'
  refine k_aloadN K X0 d9_0 rfl rfl (q := 1) rfl ?_
  refine k_getfield K X0 e0 d9_1 (wd hw 42 rfl) F_a0_inUse (q := 4) rfl ?_
  intro T532 X533 e534
  refine k_lstoreN K X533 d9_4 rfl (Ls' := #[.val (.ref a0), .val (.ref a1), .val (.long w_a0_inUse), .second, .unset, .unset, .unset, .unset, .unset, .unset]) rfl (q := 5) rfl ?_
  refine k_aloadN K X533 d9_5 rfl rfl (q := 6) rfl ?_
  refine k_astore K X533 d9_6 rfl (Ls' := #[.val (.ref a0), .val (.ref a1), .val (.long w_a0_inUse), .second, .val (.ref a1), .unset, .unset, .unset, .unset, .unset]) rfl (q := 8) rfl ?_
  refine k_aload K X533 d9_8 rfl rfl (q := 10) rfl ?_
  refine k_arraylength K X533 e534 d9_10 A_a1 (v := (0 : Int32)) rfl (q := 11) rfl ?_
  refine k_istore K X533 d9_11 rfl (Ls' := #[.val (.ref a0), .val (.ref a1), .val (.long w_a0_inUse), .second, .val (.ref a1), .val (.int (0 : Int32)), .unset, .unset, .unset, .unset]) rfl (q := 13) rfl ?_
  refine k_iconst K X533 d9_13 (v := (0 : Int32)) rfl (q := 14) rfl ?_
  refine k_istore K X533 d9_14 rfl (Ls' := #[.val (.ref a0), .val (.ref a1), .val (.long w_a0_inUse), .second, .val (.ref a1), .val (.int (0 : Int32)), .val (.int (0 : Int32)), .unset, .unset, .unset]) rfl (q := 16) rfl ?_
  refine k_iload K X533 d9_16 rfl (q := 18) rfl ?_
  refine k_iload K X533 d9_18 rfl (q := 20) rfl ?_
  refine k_icmp_ge_y K X533 d9_20 (by decide) (by decide) (q := 73) rfl ?_
  refine k_lloadN K X533 d9_73 rfl (q := 74) rfl ?_
  exact k_retl K X533 e534 d9_74 (Nat.le_trans (by decide) hkc) (Nat.le_trans (by decide) hkn) (hQ _ _ _ ⟨(by show some (Value.long w_a0_inUse) = some (Value.long (F_holding0 w_a0_inUse)); first | (simp only [F_holding0]; done) | (simp only [F_holding0])), rfl, rfl⟩)
theorem d9_23 : decode prog_14_method_3_code 23 = .ok (.aload 4, 2) := by decide +kernel
theorem d9_25 : decode prog_14_method_3_code 25 = .ok (.iload 6, 2) := by decide +kernel
theorem d9_27 : decode prog_14_method_3_code 27 = .ok (.iaload, 1) := by decide +kernel
theorem d9_28 : decode prog_14_method_3_code 28 = .ok (.istore 7, 2) := by decide +kernel
theorem d9_30 : decode prog_14_method_3_code 30 = .ok (.iload 7, 2) := by decide +kernel
theorem d9_32 : decode prog_14_method_3_code 32 = .ok (.i2l, 1) := by decide +kernel
theorem d9_33 : decode prog_14_method_3_code 33 = .ok (.aload_n 0, 1) := by decide +kernel
theorem d9_34 : decode prog_14_method_3_code 34 = .ok (.getfield 33, 3) := by decide +kernel
theorem d9_37 : decode prog_14_method_3_code 37 = .ok (.lshl, 1) := by decide +kernel
theorem d9_38 : decode prog_14_method_3_code 38 = .ok (.lstore 8, 2) := by decide +kernel
theorem d9_40 : decode prog_14_method_3_code 40 = .ok (.lload_n 2, 1) := by decide +kernel
theorem d9_41 : decode prog_14_method_3_code 41 = .ok (.aload_n 0, 1) := by decide +kernel
theorem d9_42 : decode prog_14_method_3_code 42 = .ok (.getfield 42, 3) := by decide +kernel
theorem d9_45 : decode prog_14_method_3_code 45 = .ok (.lload 8, 2) := by decide +kernel
theorem d9_47 : decode prog_14_method_3_code 47 = .ok (.bipush 6, 2) := by decide +kernel
theorem d9_49 : decode prog_14_method_3_code 49 = .ok (.lushr, 1) := by decide +kernel
theorem d9_50 : decode prog_14_method_3_code 50 = .ok (.l2i, 1) := by decide +kernel
theorem d9_51 : decode prog_14_method_3_code 51 = .ok (.laload, 1) := by decide +kernel
theorem d9_52 : decode prog_14_method_3_code 52 = .ok (.lload 8, 2) := by decide +kernel
theorem d9_54 : decode prog_14_method_3_code 54 = .ok (.l2i, 1) := by decide +kernel
theorem d9_55 : decode prog_14_method_3_code 55 = .ok (.lushr, 1) := by decide +kernel
theorem d9_56 : decode prog_14_method_3_code 56 = .ok (.land, 1) := by decide +kernel
theorem d9_57 : decode prog_14_method_3_code 57 = .ok (.lstore_n 2, 1) := by decide +kernel
theorem d9_58 : decode prog_14_method_3_code 58 = .ok (.lload_n 2, 1) := by decide +kernel
theorem d9_59 : decode prog_14_method_3_code 59 = .ok (.lconst 0, 1) := by decide +kernel
theorem d9_60 : decode prog_14_method_3_code 60 = .ok (.lcmp, 1) := by decide +kernel
theorem d9_61 : decode prog_14_method_3_code 61 = .ok (.ifCond .ne 6, 3) := by decide +kernel
theorem d9_67 : decode prog_14_method_3_code 67 = .ok (.iinc 6 1, 3) := by decide +kernel
theorem d9_70 : decode prog_14_method_3_code 70 = .ok (.goto (-54), 3) := by decide +kernel
theorem d9_64 : decode prog_14_method_3_code 64 = .ok (.goto 9, 3) := by decide +kernel
theorem ef_91 (a0 : Addr) (a1 : Addr) : ∀ m : MethodId, entryFrame m #[(.ref a0), (.ref a1)] 10 = mkF m 0 #[.val (.ref a0), .val (.ref a1), .unset, .unset, .unset, .unset, .unset, .unset, .unset, .unset] [] := by intro m; first | (simp [entryFrame, mkF, argsToLocals, Value.category]; done) | rfl
def F_holding1 (w_a0_inUse : Int64) (s_a1_0 : Int32) (w_a0_laneShift : Int32) (n_w_a0_words : Nat) (g_w_a0_words : Nat → Int64) : Int64 :=
  let v564 : Int64 := (shlL (Int32.toInt64 s_a1_0) w_a0_laneShift)
  let v568 : Int64 := (g_w_a0_words (Int32.toNatClampNeg (Int64.toInt32 (ushrL v564 (6 : Int32)))))
  let v569 : Int64 := (w_a0_inUse &&& (ushrL v568 (Int64.toInt32 v564)))
  v569
set_option maxRecDepth 65536 in
set_option maxHeartbeats 40000000 in
theorem rm91 (l : Launch) (Z : State) (az : Array Value) (hw : ∀ d ∈ tables_1, d.before az Z = true) (ws : List Jvm.Cond) (a0 : Addr) (a1 : Addr) (w_a0_inUse : Int64) (s_a1_0 : Int32) (w_a0_laneShift : Int32) (w_a0_words : Addr) (n_w_a0_words : Nat) (g_w_a0_words : Nat → Int64) (h0 : Heap) (F_a0_inUse : Fld Z h0 a0 "com/example/dayflower/dayflower/filter/FilterSlab" "inUse" "J" (.long w_a0_inUse)) (A_a1 : Ary Z h0 a1 .int 1 (fun i => Value.int (List.getD [s_a1_0] i 0))) (F_a0_laneShift : Fld Z h0 a0 "com/example/dayflower/dayflower/filter/FilterSlab" "laneShift" "I" (.int w_a0_laneShift)) (F_a0_words : Fld Z h0 a0 "com/example/dayflower/dayflower/filter/FilterSlab" "words" "[J" (.ref w_a0_words)) (A_w_a0_words : Ary Z h0 w_a0_words .long n_w_a0_words (fun i => Value.long (g_w_a0_words i))) (ob_0 : ∀ (v564 : Int64), (shlL (Int32.toInt64 s_a1_0) w_a0_laneShift) = v564 → ¬ (Int64.toInt32 (ushrL v564 (6 : Int32))) < (0 : Int32) ∧ Int32.toNatClampNeg (Int64.toInt32 (ushrL v564 (6 : Int32))) < n_w_a0_words) :
    Met l (⟨"com/example/dayflower/dayflower/filter/FilterSlab", "holding", "([I)J"⟩ : MethodName) prog_14_method_3_code 10 (some .long) ws ({ frames := 0, cells := 0, slots := 0, locals := 0 } : Room) Z #[(.ref a0), (.ref a1)] h0 (fun v h' L => v = some (Value.long (F_holding1 w_a0_inUse s_a1_0 w_a0_laneShift n_w_a0_words g_w_a0_words)) ∧ h' = h0 ∧ L = []) := by
  refine enter (plainFor_of_name pn_2) (ef_91 a0 a1) ?_
  intro p e s m below meth c T0 kc kn Q hkc hkn hQ K' X0 e0
  have K : Fx p s m meth c prog_14_method_3_code 10 "com/example/dayflower/dayflower/filter/FilterSlab" "holding" (some .long) Z := K'
  refine k_aloadN K X0 d9_0 rfl rfl (q := 1) rfl ?_
  refine k_getfield K X0 e0 d9_1 (wd hw 42 rfl) F_a0_inUse (q := 4) rfl ?_
  intro T558 X559 e560
  refine k_lstoreN K X559 d9_4 rfl (Ls' := #[.val (.ref a0), .val (.ref a1), .val (.long w_a0_inUse), .second, .unset, .unset, .unset, .unset, .unset, .unset]) rfl (q := 5) rfl ?_
  refine k_aloadN K X559 d9_5 rfl rfl (q := 6) rfl ?_
  refine k_astore K X559 d9_6 rfl (Ls' := #[.val (.ref a0), .val (.ref a1), .val (.long w_a0_inUse), .second, .val (.ref a1), .unset, .unset, .unset, .unset, .unset]) rfl (q := 8) rfl ?_
  refine k_aload K X559 d9_8 rfl rfl (q := 10) rfl ?_
  refine k_arraylength K X559 e560 d9_10 A_a1 (v := (1 : Int32)) rfl (q := 11) rfl ?_
  refine k_istore K X559 d9_11 rfl (Ls' := #[.val (.ref a0), .val (.ref a1), .val (.long w_a0_inUse), .second, .val (.ref a1), .val (.int (1 : Int32)), .unset, .unset, .unset, .unset]) rfl (q := 13) rfl ?_
  refine k_iconst K X559 d9_13 (v := (0 : Int32)) rfl (q := 14) rfl ?_
  refine k_istore K X559 d9_14 rfl (Ls' := #[.val (.ref a0), .val (.ref a1), .val (.long w_a0_inUse), .second, .val (.ref a1), .val (.int (1 : Int32)), .val (.int (0 : Int32)), .unset, .unset, .unset]) rfl (q := 16) rfl ?_
  refine k_iload K X559 d9_16 rfl (q := 18) rfl ?_
  refine k_iload K X559 d9_18 rfl (q := 20) rfl ?_
  refine k_icmp_ge_n K X559 d9_20 (by decide) (q := 23) rfl ?_
  refine k_aload K X559 d9_23 rfl rfl (q := 25) rfl ?_
  refine k_iload K X559 d9_25 rfl (q := 27) rfl ?_
  refine k_iaload K X559 e560 d9_27 A_a1 (i := 0) (v := (.int s_a1_0)) (by decide) (by decide) rfl (q := 28) rfl ?_
  refine k_istore K X559 d9_28 rfl (Ls' := #[.val (.ref a0), .val (.ref a1), .val (.long w_a0_inUse), .second, .val (.ref a1), .val (.int (1 : Int32)), .val (.int (0 : Int32)), .val (.int s_a1_0), .unset, .unset]) rfl (q := 30) rfl ?_
  refine k_iload K X559 d9_30 rfl (q := 32) rfl ?_
  refine k_i2l K X559 d9_32 (q := 33) rfl ?_
  refine k_aloadN K X559 d9_33 rfl rfl (q := 34) rfl ?_
  refine k_getfield K X559 e560 d9_34 (wd hw 27 rfl) F_a0_laneShift (q := 37) rfl ?_
  intro T561 X562 e563
  refine k_lshl K X562 d9_37 (q := 38) rfl ?_
  obtain ⟨v564, hv_v564⟩ : ∃ z : Int64, (shlL (Int32.toInt64 s_a1_0) w_a0_laneShift) = z := ⟨_, rfl⟩
  refine k_lstore K X562 d9_38 hv_v564 (Ls' := #[.val (.ref a0), .val (.ref a1), .val (.long w_a0_inUse), .second, .val (.ref a1), .val (.int (1 : Int32)), .val (.int (0 : Int32)), .val (.int s_a1_0), .val (.long v564), .second]) rfl (q := 40) rfl ?_
  refine k_lloadN K X562 d9_40 rfl (q := 41) rfl ?_
  refine k_aloadN K X562 d9_41 rfl rfl (q := 42) rfl ?_
  refine k_getfield K X562 e563 d9_42 (wd hw 35 rfl) F_a0_words (q := 45) rfl ?_
  intro T565 X566 e567
  refine k_lload K X566 d9_45 rfl (q := 47) rfl ?_
  refine k_bipush K X566 d9_47 (v := (6 : Int32)) rfl (q := 49) rfl ?_
  refine k_lushr K X566 d9_49 (q := 50) rfl ?_
  refine k_l2i K X566 d9_50 (q := 51) rfl ?_
  refine k_laload K X566 e567 d9_51 A_w_a0_words (i := (Int32.toNatClampNeg (Int64.toInt32 (ushrL v564 (6 : Int32))))) (v := (.long (g_w_a0_words (Int32.toNatClampNeg (Int64.toInt32 (ushrL v564 (6 : Int32))))))) ⟨((ob_0 v564 hv_v564)).1, rfl⟩ ((ob_0 v564 hv_v564)).2 rfl (q := 52) rfl ?_
  obtain ⟨v568, hv_v568⟩ : ∃ z : Int64, (g_w_a0_words (Int32.toNatClampNeg (Int64.toInt32 (ushrL v564 (6 : Int32))))) = z := ⟨_, rfl⟩
  refine k_nameJ hv_v568 ?_
  refine k_lload K X566 d9_52 rfl (q := 54) rfl ?_
  refine k_l2i K X566 d9_54 (q := 55) rfl ?_
  refine k_lushr K X566 d9_55 (q := 56) rfl ?_
  refine k_land K X566 d9_56 (q := 57) rfl ?_
  obtain ⟨v569, hv_v569⟩ : ∃ z : Int64, (w_a0_inUse &&& (ushrL v568 (Int64.toInt32 v564))) = z := ⟨_, rfl⟩
  refine k_lstoreN K X566 d9_57 hv_v569 (Ls' := #[.val (.ref a0), .val (.ref a1), .val (.long v569), .second, .val (.ref a1), .val (.int (1 : Int32)), .val (.int (0 : Int32)), .val (.int s_a1_0), .val (.long v564), .second]) rfl (q := 58) rfl ?_
  refine k_lloadN K X566 d9_58 rfl (q := 59) rfl ?_
  refine k_lconst0 K X566 d9_59 (q := 60) rfl ?_
  refine k_lcmp K X566 d9_60 (q := 61) rfl ?_
  have J572 : ∀ (s571 : Slot), (s571 = .unset ∨ ∃ w : Value, s571 = .val w ∧ w.category = 1) → Run p e below s kc kn Q T565 (mkF m 73 #[.val (.ref a0), .val (.ref a1), .val (.long v569), .second, .val (.ref a1), .val (.int (1 : Int32)), s571, .val (.int s_a1_0), .val (.long v564), .second] []) := by
    intro s571 hsl_s571
    refine k_lloadN K X566 d9_73 rfl (q := 74) rfl ?_
    exact k_retl K X566 e567 d9_74 (Nat.le_trans (by decide) hkc) (Nat.le_trans (by decide) hkn) (hQ _ _ _ ⟨(by show some (Value.long v569) = some (Value.long (F_holding1 w_a0_inUse s_a1_0 w_a0_laneShift n_w_a0_words g_w_a0_words)); first | (simp only [F_holding1, hv_v564, hv_v568, hv_v569]; done) | (subst hv_v564; subst hv_v568; subst hv_v569; simp only [F_holding1])), rfl, rfl⟩)
  refine k_lcmp_ne K X566 d9_61 (by decide) (q := 67) rfl (q' := 64) rfl ?_ ?_
  · intro hc573
    refine k_iinc K X566 d9_67 rfl (by decide) (Ls' := #[.val (.ref a0), .val (.ref a1), .val (.long v569), .second, .val (.ref a1), .val (.int (1 : Int32)), .val (.int (1 : Int32)), .val (.int s_a1_0), .val (.long v564), .second]) rfl (q := 70) rfl ?_
    refine k_goto K X566 d9_70 (by decide) (q := 16) rfl ?_
    refine k_iload K X566 d9_16 rfl (q := 18) rfl ?_
    refine k_iload K X566 d9_18 rfl (q := 20) rfl ?_
    refine k_icmp_ge_y K X566 d9_20 (by decide) (by decide) (q := 73) rfl ?_
    exact J572 _ (by first | exact Or.inl rfl | exact Or.inr ⟨_, rfl, rfl⟩ | assumption)
  · intro hc573
    refine k_goto K X566 d9_64 (by decide) (q := 73) rfl ?_
    exact J572 _ (by first | exact Or.inl rfl | exact Or.inr ⟨_, rfl, rfl⟩ | assumption)
theorem ef_92 (a0 : Addr) (a1 : Addr) : ∀ m : MethodId, entryFrame m #[(.ref a0), (.ref a1)] 10 = mkF m 0 #[.val (.ref a0), .val (.ref a1), .unset, .unset, .unset, .unset, .unset, .unset, .unset, .unset] [] := by intro m; first | (simp [entryFrame, mkF, argsToLocals, Value.category]; done) | rfl
def M9_6172 (v608 : Int64) (g_w_a0_words : Nat → Int64) (s_a1_1 : Int32) (w_a0_laneShift : Int32) : Int64 :=
  (if v608 = (0 : Int64) then v608 else (if (v608 &&& (ushrL (g_w_a0_words (Int32.toNatClampNeg (Int64.toInt32 (ushrL (shlL (Int32.toInt64 s_a1_1) w_a0_laneShift) (6 : Int32))))) (Int64.toInt32 (shlL (Int32.toInt64 s_a1_1) w_a0_laneShift)))) = (0 : Int64) then (v608 &&& (ushrL (g_w_a0_words (Int32.toNatClampNeg (Int64.toInt32 (ushrL (shlL (Int32.toInt64 s_a1_1) w_a0_laneShift) (6 : Int32))))) (Int64.toInt32 (shlL (Int32.toInt64 s_a1_1) w_a0_laneShift)))) else (v608 &&& (ushrL (g_w_a0_words (Int32.toNatClampNeg (Int64.toInt32 (ushrL (shlL (Int32.toInt64 s_a1_1) w_a0_laneShift) (6 : Int32))))) (Int64.toInt32 (shlL (Int32.toInt64 s_a1_1) w_a0_laneShift))))))
def F_holding2 (w_a0_inUse : Int64) (s_a1_0 : Int32) (s_a1_1 : Int32) (w_a0_laneShift : Int32) (n_w_a0_words : Nat) (g_w_a0_words : Nat → Int64) : Int64 :=
  let v603 : Int64 := (shlL (Int32.toInt64 s_a1_0) w_a0_laneShift)
  let v607 : Int64 := (g_w_a0_words (Int32.toNatClampNeg (Int64.toInt32 (ushrL v603 (6 : Int32)))))
  let v608 : Int64 := (w_a0_inUse &&& (ushrL v607 (Int64.toInt32 v603)))
  let d618 : Int64 := (M9_6172 v608 g_w_a0_words s_a1_1 w_a0_laneShift)
  d618
set_option maxRecDepth 65536 in
set_option maxHeartbeats 40000000 in
theorem rm92 (l : Launch) (Z : State) (az : Array Value) (hw : ∀ d ∈ tables_1, d.before az Z = true) (ws : List Jvm.Cond) (a0 : Addr) (a1 : Addr) (w_a0_inUse : Int64) (s_a1_0 : Int32) (s_a1_1 : Int32) (w_a0_laneShift : Int32) (w_a0_words : Addr) (n_w_a0_words : Nat) (g_w_a0_words : Nat → Int64) (h0 : Heap) (F_a0_inUse : Fld Z h0 a0 "com/example/dayflower/dayflower/filter/FilterSlab" "inUse" "J" (.long w_a0_inUse)) (A_a1 : Ary Z h0 a1 .int 2 (fun i => Value.int (List.getD [s_a1_0, s_a1_1] i 0))) (F_a0_laneShift : Fld Z h0 a0 "com/example/dayflower/dayflower/filter/FilterSlab" "laneShift" "I" (.int w_a0_laneShift)) (F_a0_words : Fld Z h0 a0 "com/example/dayflower/dayflower/filter/FilterSlab" "words" "[J" (.ref w_a0_words)) (A_w_a0_words : Ary Z h0 w_a0_words .long n_w_a0_words (fun i => Value.long (g_w_a0_words i))) (ob_0 : ∀ (v603 : Int64), (shlL (Int32.toInt64 s_a1_0) w_a0_laneShift) = v603 → ¬ (Int64.toInt32 (ushrL v603 (6 : Int32))) < (0 : Int32) ∧ Int32.toNatClampNeg (Int64.toInt32 (ushrL v603 (6 : Int32))) < n_w_a0_words) (ob_1 : ∀ (v603 : Int64) (v607 : Int64) (v608 : Int64), (shlL (Int32.toInt64 s_a1_0) w_a0_laneShift) = v603 → (g_w_a0_words (Int32.toNatClampNeg (Int64.toInt32 (ushrL v603 (6 : Int32))))) = v607 → (w_a0_inUse &&& (ushrL v607 (Int64.toInt32 v603))) = v608 → ¬ (v608 = (0 : Int64)) → ¬ (Int64.toInt32 (ushrL (shlL (Int32.toInt64 s_a1_1) w_a0_laneShift) (6 : Int32))) < (0 : Int32) ∧ Int32.toNatClampNeg (Int64.toInt32 (ushrL (shlL (Int32.toInt64 s_a1_1) w_a0_laneShift) (6 : Int32))) < n_w_a0_words) :
    Met l (⟨"com/example/dayflower/dayflower/filter/FilterSlab", "holding", "([I)J"⟩ : MethodName) prog_14_method_3_code 10 (some .long) ws ({ frames := 0, cells := 0, slots := 0, locals := 0 } : Room) Z #[(.ref a0), (.ref a1)] h0 (fun v h' L => v = some (Value.long (F_holding2 w_a0_inUse s_a1_0 s_a1_1 w_a0_laneShift n_w_a0_words g_w_a0_words)) ∧ h' = h0 ∧ L = []) := by
  refine enter (plainFor_of_name pn_2) (ef_92 a0 a1) ?_
  intro p e s m below meth c T0 kc kn Q hkc hkn hQ K' X0 e0
  have K : Fx p s m meth c prog_14_method_3_code 10 "com/example/dayflower/dayflower/filter/FilterSlab" "holding" (some .long) Z := K'
  refine k_aloadN K X0 d9_0 rfl rfl (q := 1) rfl ?_
  refine k_getfield K X0 e0 d9_1 (wd hw 42 rfl) F_a0_inUse (q := 4) rfl ?_
  intro T597 X598 e599
  refine k_lstoreN K X598 d9_4 rfl (Ls' := #[.val (.ref a0), .val (.ref a1), .val (.long w_a0_inUse), .second, .unset, .unset, .unset, .unset, .unset, .unset]) rfl (q := 5) rfl ?_
  refine k_aloadN K X598 d9_5 rfl rfl (q := 6) rfl ?_
  refine k_astore K X598 d9_6 rfl (Ls' := #[.val (.ref a0), .val (.ref a1), .val (.long w_a0_inUse), .second, .val (.ref a1), .unset, .unset, .unset, .unset, .unset]) rfl (q := 8) rfl ?_
  refine k_aload K X598 d9_8 rfl rfl (q := 10) rfl ?_
  refine k_arraylength K X598 e599 d9_10 A_a1 (v := (2 : Int32)) rfl (q := 11) rfl ?_
  refine k_istore K X598 d9_11 rfl (Ls' := #[.val (.ref a0), .val (.ref a1), .val (.long w_a0_inUse), .second, .val (.ref a1), .val (.int (2 : Int32)), .unset, .unset, .unset, .unset]) rfl (q := 13) rfl ?_
  refine k_iconst K X598 d9_13 (v := (0 : Int32)) rfl (q := 14) rfl ?_
  refine k_istore K X598 d9_14 rfl (Ls' := #[.val (.ref a0), .val (.ref a1), .val (.long w_a0_inUse), .second, .val (.ref a1), .val (.int (2 : Int32)), .val (.int (0 : Int32)), .unset, .unset, .unset]) rfl (q := 16) rfl ?_
  refine k_iload K X598 d9_16 rfl (q := 18) rfl ?_
  refine k_iload K X598 d9_18 rfl (q := 20) rfl ?_
  refine k_icmp_ge_n K X598 d9_20 (by decide) (q := 23) rfl ?_
  refine k_aload K X598 d9_23 rfl rfl (q := 25) rfl ?_
  refine k_iload K X598 d9_25 rfl (q := 27) rfl ?_
  refine k_iaload K X598 e599 d9_27 A_a1 (i := 0) (v := (.int s_a1_0)) (by decide) (by decide) rfl (q := 28) rfl ?_
  refine k_istore K X598 d9_28 rfl (Ls' := #[.val (.ref a0), .val (.ref a1), .val (.long w_a0_inUse), .second, .val (.ref a1), .val (.int (2 : Int32)), .val (.int (0 : Int32)), .val (.int s_a1_0), .unset, .unset]) rfl (q := 30) rfl ?_
  refine k_iload K X598 d9_30 rfl (q := 32) rfl ?_
  refine k_i2l K X598 d9_32 (q := 33) rfl ?_
  refine k_aloadN K X598 d9_33 rfl rfl (q := 34) rfl ?_
  refine k_getfield K X598 e599 d9_34 (wd hw 27 rfl) F_a0_laneShift (q := 37) rfl ?_
  intro T600 X601 e602
  refine k_lshl K X601 d9_37 (q := 38) rfl ?_
  obtain ⟨v603, hv_v603⟩ : ∃ z : Int64, (shlL (Int32.toInt64 s_a1_0) w_a0_laneShift) = z := ⟨_, rfl⟩
  refine k_lstore K X601 d9_38 hv_v603 (Ls' := #[.val (.ref a0), .val (.ref a1), .val (.long w_a0_inUse), .second, .val (.ref a1), .val (.int (2 : Int32)), .val (.int (0 : Int32)), .val (.int s_a1_0), .val (.long v603), .second]) rfl (q := 40) rfl ?_
  refine k_lloadN K X601 d9_40 rfl (q := 41) rfl ?_
  refine k_aloadN K X601 d9_41 rfl rfl (q := 42) rfl ?_
  refine k_getfield K X601 e602 d9_42 (wd hw 35 rfl) F_a0_words (q := 45) rfl ?_
  intro T604 X605 e606
  refine k_lload K X605 d9_45 rfl (q := 47) rfl ?_
  refine k_bipush K X605 d9_47 (v := (6 : Int32)) rfl (q := 49) rfl ?_
  refine k_lushr K X605 d9_49 (q := 50) rfl ?_
  refine k_l2i K X605 d9_50 (q := 51) rfl ?_
  refine k_laload K X605 e606 d9_51 A_w_a0_words (i := (Int32.toNatClampNeg (Int64.toInt32 (ushrL v603 (6 : Int32))))) (v := (.long (g_w_a0_words (Int32.toNatClampNeg (Int64.toInt32 (ushrL v603 (6 : Int32))))))) ⟨((ob_0 v603 hv_v603)).1, rfl⟩ ((ob_0 v603 hv_v603)).2 rfl (q := 52) rfl ?_
  obtain ⟨v607, hv_v607⟩ : ∃ z : Int64, (g_w_a0_words (Int32.toNatClampNeg (Int64.toInt32 (ushrL v603 (6 : Int32))))) = z := ⟨_, rfl⟩
  refine k_nameJ hv_v607 ?_
  refine k_lload K X605 d9_52 rfl (q := 54) rfl ?_
  refine k_l2i K X605 d9_54 (q := 55) rfl ?_
  refine k_lushr K X605 d9_55 (q := 56) rfl ?_
  refine k_land K X605 d9_56 (q := 57) rfl ?_
  obtain ⟨v608, hv_v608⟩ : ∃ z : Int64, (w_a0_inUse &&& (ushrL v607 (Int64.toInt32 v603))) = z := ⟨_, rfl⟩
  refine k_lstoreN K X605 d9_57 hv_v608 (Ls' := #[.val (.ref a0), .val (.ref a1), .val (.long v608), .second, .val (.ref a1), .val (.int (2 : Int32)), .val (.int (0 : Int32)), .val (.int s_a1_0), .val (.long v603), .second]) rfl (q := 58) rfl ?_
  refine k_lloadN K X605 d9_58 rfl (q := 59) rfl ?_
  refine k_lconst0 K X605 d9_59 (q := 60) rfl ?_
  refine k_lcmp K X605 d9_60 (q := 61) rfl ?_
  have J622 : ∀ (T623 : State) (d618 : Int64) (s619 : Slot) (s620 : Slot) (s621 : Slot), Stand p l e ({ frames := 0, cells := 0, slots := 0, locals := 0 } : Room) s m #[(.ref a0), (.ref a1)] below meth c T623 [] 0 0 → T623.heap = h0 → (s619 = .unset ∨ ∃ w : Value, s619 = .val w ∧ w.category = 1) → (s620 = .unset ∨ ∃ w : Value, s620 = .val w ∧ w.category = 1) → (M9_6172 v608 g_w_a0_words s_a1_1 w_a0_laneShift) = d618 → Run p e below s kc kn Q T623 (mkF m 73 #[.val (.ref a0), .val (.ref a1), .val (.long d618), .second, .val (.ref a1), .val (.int (2 : Int32)), s619, s620, s621, .second] []) := by
    intro T623 d618 s619 s620 s621 X624 e625 hsl_s619 hsl_s620 hv_d618
    refine k_lloadN K X624 d9_73 rfl (q := 74) rfl ?_
    exact k_retl K X624 e625 d9_74 (Nat.le_trans (by decide) hkc) (Nat.le_trans (by decide) hkn) (hQ _ _ _ ⟨(by show some (Value.long d618) = some (Value.long (F_holding2 w_a0_inUse s_a1_0 s_a1_1 w_a0_laneShift n_w_a0_words g_w_a0_words)); first | (simp only [F_holding2, hv_v603, hv_v607, hv_v608, hv_d618]; done) | (subst hv_v603; subst hv_v607; subst hv_v608; subst hv_d618; simp only [F_holding2])), rfl, rfl⟩)
  refine k_lcmp_ne K X605 d9_61 (by decide) (q := 67) rfl (q' := 64) rfl ?_ ?_
  · intro hc626
    refine k_iinc K X605 d9_67 rfl (by decide) (Ls' := #[.val (.ref a0), .val (.ref a1), .val (.long v608), .second, .val (.ref a1), .val (.int (2 : Int32)), .val (.int (1 : Int32)), .val (.int s_a1_0), .val (.long v603), .second]) rfl (q := 70) rfl ?_
    refine k_goto K X605 d9_70 (by decide) (q := 16) rfl ?_
    refine k_iload K X605 d9_16 rfl (q := 18) rfl ?_
    refine k_iload K X605 d9_18 rfl (q := 20) rfl ?_
    refine k_icmp_ge_n K X605 d9_20 (by decide) (q := 23) rfl ?_
    refine k_aload K X605 d9_23 rfl rfl (q := 25) rfl ?_
    refine k_iload K X605 d9_25 rfl (q := 27) rfl ?_
    refine k_iaload K X605 e606 d9_27 A_a1 (i := 1) (v := (.int s_a1_1)) (by decide) (by decide) rfl (q := 28) rfl ?_
    refine k_istore K X605 d9_28 rfl (Ls' := #[.val (.ref a0), .val (.ref a1), .val (.long v608), .second, .val (.ref a1), .val (.int (2 : Int32)), .val (.int (1 : Int32)), .val (.int s_a1_1), .val (.long v603), .second]) rfl (q := 30) rfl ?_
    refine k_iload K X605 d9_30 rfl (q := 32) rfl ?_
    refine k_i2l K X605 d9_32 (q := 33) rfl ?_
    refine k_aloadN K X605 d9_33 rfl rfl (q := 34) rfl ?_
    refine k_getfield K X605 e606 d9_34 (wd hw 27 rfl) F_a0_laneShift (q := 37) rfl ?_
    intro T627 X628 e629
    refine k_lshl K X628 d9_37 (q := 38) rfl ?_
    refine k_lstore K X628 d9_38 rfl (Ls' := #[.val (.ref a0), .val (.ref a1), .val (.long v608), .second, .val (.ref a1), .val (.int (2 : Int32)), .val (.int (1 : Int32)), .val (.int s_a1_1), .val (.long (shlL (Int32.toInt64 s_a1_1) w_a0_laneShift)), .second]) rfl (q := 40) rfl ?_
    refine k_lloadN K X628 d9_40 rfl (q := 41) rfl ?_
    refine k_aloadN K X628 d9_41 rfl rfl (q := 42) rfl ?_
    refine k_getfield K X628 e629 d9_42 (wd hw 35 rfl) F_a0_words (q := 45) rfl ?_
    intro T630 X631 e632
    refine k_lload K X631 d9_45 rfl (q := 47) rfl ?_
    refine k_bipush K X631 d9_47 (v := (6 : Int32)) rfl (q := 49) rfl ?_
    refine k_lushr K X631 d9_49 (q := 50) rfl ?_
    refine k_l2i K X631 d9_50 (q := 51) rfl ?_
    refine k_laload K X631 e632 d9_51 A_w_a0_words (i := (Int32.toNatClampNeg (Int64.toInt32 (ushrL (shlL (Int32.toInt64 s_a1_1) w_a0_laneShift) (6 : Int32))))) (v := (.long (g_w_a0_words (Int32.toNatClampNeg (Int64.toInt32 (ushrL (shlL (Int32.toInt64 s_a1_1) w_a0_laneShift) (6 : Int32))))))) ⟨((ob_1 v603 v607 v608 hv_v603 hv_v607 hv_v608 hc626)).1, rfl⟩ ((ob_1 v603 v607 v608 hv_v603 hv_v607 hv_v608 hc626)).2 rfl (q := 52) rfl ?_
    refine k_lload K X631 d9_52 rfl (q := 54) rfl ?_
    refine k_l2i K X631 d9_54 (q := 55) rfl ?_
    refine k_lushr K X631 d9_55 (q := 56) rfl ?_
    refine k_land K X631 d9_56 (q := 57) rfl ?_
    refine k_lstoreN K X631 d9_57 rfl (Ls' := #[.val (.ref a0), .val (.ref a1), .val (.long (v608 &&& (ushrL (g_w_a0_words (Int32.toNatClampNeg (Int64.toInt32 (ushrL (shlL (Int32.toInt64 s_a1_1) w_a0_laneShift) (6 : Int32))))) (Int64.toInt32 (shlL (Int32.toInt64 s_a1_1) w_a0_laneShift))))), .second, .val (.ref a1), .val (.int (2 : Int32)), .val (.int (1 : Int32)), .val (.int s_a1_1), .val (.long (shlL (Int32.toInt64 s_a1_1) w_a0_laneShift)), .second]) rfl (q := 58) rfl ?_
    refine k_lloadN K X631 d9_58 rfl (q := 59) rfl ?_
    refine k_lconst0 K X631 d9_59 (q := 60) rfl ?_
    refine k_lcmp K X631 d9_60 (q := 61) rfl ?_
    refine k_lcmp_ne K X631 d9_61 (by decide) (q := 67) rfl (q' := 64) rfl ?_ ?_
    · intro hc633
      refine k_iinc K X631 d9_67 rfl (by decide) (Ls' := #[.val (.ref a0), .val (.ref a1), .val (.long (v608 &&& (ushrL (g_w_a0_words (Int32.toNatClampNeg (Int64.toInt32 (ushrL (shlL (Int32.toInt64 s_a1_1) w_a0_laneShift) (6 : Int32))))) (Int64.toInt32 (shlL (Int32.toInt64 s_a1_1) w_a0_laneShift))))), .second, .val (.ref a1), .val (.int (2 : Int32)), .val (.int (2 : Int32)), .val (.int s_a1_1), .val (.long (shlL (Int32.toInt64 s_a1_1) w_a0_laneShift)), .second]) rfl (q := 70) rfl ?_
      refine k_goto K X631 d9_70 (by decide) (q := 16) rfl ?_
      refine k_iload K X631 d9_16 rfl (q := 18) rfl ?_
      refine k_iload K X631 d9_18 rfl (q := 20) rfl ?_
      refine k_icmp_ge_y K X631 d9_20 (by decide) (by decide) (q := 73) rfl ?_
      exact J622 T630 _ _ _ _ X631 e632 (by first | exact Or.inl rfl | exact Or.inr ⟨_, rfl, rfl⟩ | assumption) (by first | exact Or.inl rfl | exact Or.inr ⟨_, rfl, rfl⟩ | assumption) (by first | (simp only [M9_6172, if_neg hc626, if_neg hc633]; done) | rfl)
    · intro hc633
      refine k_goto K X631 d9_64 (by decide) (q := 73) rfl ?_
      exact J622 T630 _ _ _ _ X631 e632 (by first | exact Or.inl rfl | exact Or.inr ⟨_, rfl, rfl⟩ | assumption) (by first | exact Or.inl rfl | exact Or.inr ⟨_, rfl, rfl⟩ | assumption) (by first | (simp only [M9_6172, if_neg hc626, if_pos hc633]; done) | rfl)
  · intro hc626
    refine k_goto K X605 d9_64 (by decide) (q := 73) rfl ?_
    exact J622 T604 _ _ _ _ X605 e606 (by first | exact Or.inl rfl | exact Or.inr ⟨_, rfl, rfl⟩ | assumption) (by first | exact Or.inl rfl | exact Or.inr ⟨_, rfl, rfl⟩ | assumption) (by first | (simp only [M9_6172, if_pos hc626]; done) | rfl)
theorem d10_0 : decode prog_14_method_7_code 0 = .ok (.lconst 1, 1) := by decide +kernel
theorem d10_1 : decode prog_14_method_7_code 1 = .ok (.iload_n 1, 1) := by decide +kernel
theorem d10_2 : decode prog_14_method_7_code 2 = .ok (.lshl, 1) := by decide +kernel
theorem d10_3 : decode prog_14_method_7_code 3 = .ok (.lstore_n 2, 1) := by decide +kernel
theorem d10_4 : decode prog_14_method_7_code 4 = .ok (.aload_n 0, 1) := by decide +kernel
theorem d10_5 : decode prog_14_method_7_code 5 = .ok (.dup, 1) := by decide +kernel
theorem d10_6 : decode prog_14_method_7_code 6 = .ok (.getfield 48, 3) := by decide +kernel
theorem d10_9 : decode prog_14_method_7_code 9 = .ok (.lload_n 2, 1) := by decide +kernel
theorem d10_10 : decode prog_14_method_7_code 10 = .ok (.ldc2_w 63, 3) := by decide +kernel
theorem d10_13 : decode prog_14_method_7_code 13 = .ok (.lxor, 1) := by decide +kernel
theorem d10_14 : decode prog_14_method_7_code 14 = .ok (.land, 1) := by decide +kernel
theorem d10_15 : decode prog_14_method_7_code 15 = .ok (.putfield 48, 3) := by decide +kernel
theorem d10_18 : decode prog_14_method_7_code 18 = .ok (.aload_n 0, 1) := by decide +kernel
theorem d10_19 : decode prog_14_method_7_code 19 = .ok (.dup, 1) := by decide +kernel
theorem d10_20 : decode prog_14_method_7_code 20 = .ok (.getfield 56, 3) := by decide +kernel
theorem d10_23 : decode prog_14_method_7_code 23 = .ok (.lload_n 2, 1) := by decide +kernel
theorem d10_24 : decode prog_14_method_7_code 24 = .ok (.lor, 1) := by decide +kernel
theorem d10_25 : decode prog_14_method_7_code 25 = .ok (.putfield 56, 3) := by decide +kernel
theorem d10_28 : decode prog_14_method_7_code 28 = .ok (.return_, 1) := by decide +kernel
theorem ef_10 (a0 : Addr) (p1 : Int32) : ∀ m : MethodId, entryFrame m #[(.ref a0), (.int p1)] 4 = mkF m 0 #[.val (.ref a0), .val (.int p1), .unset, .unset] [] := by intro m; first | (simp [entryFrame, mkF, argsToLocals, Value.category]; done) | rfl
def F_free_a0_dirty (p1 : Int32) (w_a0_inUse : Int64) (w_a0_dirty : Int64) (w_a0_lanes : Int32) (w_a0_laneShift : Int32) : Int64 :=
  let v750 : Int64 := (shlL (1 : Int64) p1)
  (w_a0_dirty ||| v750)
def F_free_a0_inUse (p1 : Int32) (w_a0_inUse : Int64) (w_a0_dirty : Int64) (w_a0_lanes : Int32) (w_a0_laneShift : Int32) : Int64 :=
  let v750 : Int64 := (shlL (1 : Int64) p1)
  (w_a0_inUse &&& (v750 ^^^ (-1 : Int64)))
set_option maxRecDepth 65536 in
set_option maxHeartbeats 40000000 in
theorem rm10 (l : Launch) (Z : State) (az : Array Value) (hw : ∀ d ∈ tables_1, d.before az Z = true) (ws : List Jvm.Cond) (a0 : Addr) (p1 : Int32) (w_a0_inUse : Int64) (w_a0_dirty : Int64) (w_a0_lanes : Int32) (w_a0_laneShift : Int32) (w_a0_words : Value) (h0 : Heap) (n0 : Nat) (Z0 : n0 ≤ h0.size) (F_a0_inUse : Fld Z h0 a0 "com/example/dayflower/dayflower/filter/FilterSlab" "inUse" "J" (.long w_a0_inUse)) (E_a0 : Exa Z h0 a0 "com/example/dayflower/dayflower/filter/FilterSlab") (ge_a0 : n0 ≤ a0) (F_a0_dirty : Fld Z h0 a0 "com/example/dayflower/dayflower/filter/FilterSlab" "dirty" "J" (.long w_a0_dirty)) (F_a0_lanes : Fld Z h0 a0 "com/example/dayflower/dayflower/filter/FilterSlab" "lanes" "I" (.int w_a0_lanes)) (F_a0_laneShift : Fld Z h0 a0 "com/example/dayflower/dayflower/filter/FilterSlab" "laneShift" "I" (.int w_a0_laneShift)) (F_a0_words : Fld Z h0 a0 "com/example/dayflower/dayflower/filter/FilterSlab" "words" "[J" w_a0_words) :
    Met l (⟨"com/example/dayflower/dayflower/filter/FilterSlab", "free", "(I)V"⟩ : MethodName) prog_14_method_7_code 4 none ws ({ frames := 0, cells := 0, slots := 0, locals := 0 } : Room) Z #[(.ref a0), (.int p1)] h0 (fun v h' L => v = none ∧ Fr n0 L ∧ Keep h0 h' [a0] ∧ Fld Z h' a0 "com/example/dayflower/dayflower/filter/FilterSlab" "dirty" "J" (.long (F_free_a0_dirty p1 w_a0_inUse w_a0_dirty w_a0_lanes w_a0_laneShift)) ∧ Fld Z h' a0 "com/example/dayflower/dayflower/filter/FilterSlab" "inUse" "J" (.long (F_free_a0_inUse p1 w_a0_inUse w_a0_dirty w_a0_lanes w_a0_laneShift)) ∧ Fld Z h' a0 "com/example/dayflower/dayflower/filter/FilterSlab" "laneShift" "I" (.int w_a0_laneShift) ∧ Fld Z h' a0 "com/example/dayflower/dayflower/filter/FilterSlab" "lanes" "I" (.int w_a0_lanes) ∧ Fld Z h' a0 "com/example/dayflower/dayflower/filter/FilterSlab" "words" "[J" w_a0_words) := by
  refine enter (plainFor_of_name pn_2) (ef_10 a0 p1) ?_
  intro p e s m below meth c T0 kc kn Q hkc hkn hQ K' X0 e0
  have K : Fx p s m meth c prog_14_method_7_code 4 "com/example/dayflower/dayflower/filter/FilterSlab" "free" none Z := K'
  have N0 := Fr.nil n0
  have K0 : Keep h0 h0 [a0] := Keep.refl _ _
  refine k_lconst1 K X0 d10_0 (q := 1) rfl ?_
  refine k_iloadN K X0 d10_1 rfl (q := 2) rfl ?_
  refine k_lshl K X0 d10_2 (q := 3) rfl ?_
  obtain ⟨v750, hv_v750⟩ : ∃ z : Int64, (shlL (1 : Int64) p1) = z := ⟨_, rfl⟩
  refine k_lstoreN K X0 d10_3 hv_v750 (Ls' := #[.val (.ref a0), .val (.int p1), .val (.long v750), .second]) rfl (q := 4) rfl ?_
  refine k_aloadN K X0 d10_4 rfl rfl (q := 5) rfl ?_
  refine k_dup K X0 d10_5 rfl (q := 6) rfl ?_
  refine k_getfield K X0 e0 d10_6 (wd hw 42 rfl) F_a0_inUse (q := 9) rfl ?_
  intro T751 X752 e753
  refine k_lloadN K X752 d10_9 rfl (q := 10) rfl ?_
  refine k_ldc2 K X752 d10_10 (wd hw 61 rfl) (q := 13) rfl ?_
  refine k_lxor K X752 d10_13 (q := 14) rfl ?_
  refine k_land K X752 d10_14 (q := 15) rfl ?_
  refine k_putfield K X752 e753 d10_15 (wd hw 42 rfl) F_a0_inUse E_a0 (Or.inl (wd hw 43 rfl)) (wd hw 7 rfl) (ty := .long) (by decide) rfl rfl (q := 18) rfl ?_
  intro T754 h755 X756 e757 W758
  have f759 := Fld.same W758 F_a0_inUse
  have f760 := Exa.wr W758 E_a0
  have f761 := Fld.other W758 F_a0_dirty (Or.inr (slot_ne (Or.inl (wd hw 45 rfl)) (Or.inl (wd hw 43 rfl)) (by decide) (t := .long) (t' := .long) (by decide) (by decide)))
  have f762 := Fld.other W758 F_a0_lanes (Or.inr (slot_ne (Or.inr (wd hw 23 rfl)) (Or.inl (wd hw 43 rfl)) (by decide) (t := .int) (t' := .long) (by decide) (by decide)))
  have f763 := Fld.other W758 F_a0_laneShift (Or.inr (slot_ne (Or.inr (wd hw 28 rfl)) (Or.inl (wd hw 43 rfl)) (by decide) (t := .int) (t' := .long) (by decide) (by decide)))
  have f764 := Fld.other W758 F_a0_words (Or.inr (slot_ne (Or.inr (wd hw 36 rfl)) (Or.inl (wd hw 43 rfl)) (by decide) (t := (.array .long)) (t' := .long) (by decide) (by decide)))
  have N765 := Fr.snoc X756 N0 ge_a0
  have K766 := Keep.wr K0 W758 (Or.inl (List.mem_of_getElem? (i := 0) rfl))
  have Z767 := Nat.le_trans Z0 (Nat.le_of_eq (Wr.size W758).symm)
  refine k_aloadN K X756 d10_18 rfl rfl (q := 19) rfl ?_
  refine k_dup K X756 d10_19 rfl (q := 20) rfl ?_
  refine k_getfield K X756 e757 d10_20 (wd hw 44 rfl) f761 (q := 23) rfl ?_
  intro T768 X769 e770
  refine k_lloadN K X769 d10_23 rfl (q := 24) rfl ?_
  refine k_lor K X769 d10_24 (q := 25) rfl ?_
  refine k_putfield K X769 e770 d10_25 (wd hw 44 rfl) f761 f760 (Or.inl (wd hw 45 rfl)) (wd hw 7 rfl) (ty := .long) (by decide) rfl rfl (q := 28) rfl ?_
  intro T771 h772 X773 e774 W775
  have f776 := Fld.same W775 f761
  have f777 := Exa.wr W775 f760
  have f778 := Fld.other W775 f762 (Or.inr (slot_ne (Or.inr (wd hw 23 rfl)) (Or.inl (wd hw 45 rfl)) (by decide) (t := .int) (t' := .long) (by decide) (by decide)))
  have f779 := Fld.other W775 f763 (Or.inr (slot_ne (Or.inr (wd hw 28 rfl)) (Or.inl (wd hw 45 rfl)) (by decide) (t := .int) (t' := .long) (by decide) (by decide)))
  have f780 := Fld.other W775 f764 (Or.inr (slot_ne (Or.inr (wd hw 36 rfl)) (Or.inl (wd hw 45 rfl)) (by decide) (t := (.array .long)) (t' := .long) (by decide) (by decide)))
  have f781 := Fld.other W775 f759 (Or.inr (slot_ne (Or.inl (wd hw 43 rfl)) (Or.inl (wd hw 45 rfl)) (by decide) (t := .long) (t' := .long) (by decide) (by decide)))
  have N782 := Fr.snoc X773 N765 ge_a0
  have K783 := Keep.wr K766 W775 (Or.inl (List.mem_of_getElem? (i := 0) rfl))
  have Z784 := Nat.le_trans Z767 (Nat.le_of_eq (Wr.size W775).symm)
  exact k_retv K X773 e774 d10_28 (Nat.le_trans (by decide) hkc) (Nat.le_trans (by decide) hkn) (hQ _ _ _ ⟨rfl, N782, K783, (by rw [(show F_free_a0_dirty p1 w_a0_inUse w_a0_dirty w_a0_lanes w_a0_laneShift = (w_a0_dirty ||| v750) from by first | (simp only [F_free_a0_dirty, hv_v750]; done) | (subst hv_v750; simp only [F_free_a0_dirty]))]; exact f776), (by rw [(show F_free_a0_inUse p1 w_a0_inUse w_a0_dirty w_a0_lanes w_a0_laneShift = (w_a0_inUse &&& (v750 ^^^ (-1 : Int64))) from by first | (simp only [F_free_a0_inUse, hv_v750]; done) | (subst hv_v750; simp only [F_free_a0_inUse]))]; exact f781), f779, f778, f780⟩)
theorem own_eqI {x y : Int32} : x = y ↔ x.toInt = y.toInt := Int32.toInt_inj.symm
theorem own_eqJ {x y : Int64} : x = y ↔ x.toInt = y.toInt := Int64.toInt_inj.symm
theorem own_ltI {x y : Int32} : x < y ↔ x.toInt < y.toInt := Int32.lt_iff_toInt_lt
theorem own_ltJ {x y : Int64} : x < y ↔ x.toInt < y.toInt := Int64.lt_iff_toInt_lt
def own_T (k l W : Int32) : Prop := (k = 0 ∧ l = 1 ∧ W = 64) ∨ (k = 1 ∧ l = 2 ∧ W = 32) ∨ (k = 2 ∧ l = 4 ∧ W = 16) ∨ (k = 3 ∧ l = 8 ∧ W = 8) ∨ (k = 4 ∧ l = 16 ∧ W = 4) ∨ (k = 5 ∧ l = 32 ∧ W = 2) ∨ (k = 6 ∧ l = 64 ∧ W = 1)
theorem own_e6 (t : Int32) (h1 : 0 ≤ t.toInt) (h2 : t.toInt ≤ 6) : own_T t (shlI 1 t) (shrI 64 t) := by
  have h : t.toInt = 0 ∨ t.toInt = 1 ∨ t.toInt = 2 ∨ t.toInt = 3 ∨ t.toInt = 4 ∨ t.toInt = 5 ∨ t.toInt = 6 := by omega
  unfold own_T
  rcases h with h | h | h | h | h | h | h
  · obtain rfl : t = 0 := Int32.toInt_inj.mp (h.trans (by decide))
    decide
  · obtain rfl : t = 1 := Int32.toInt_inj.mp (h.trans (by decide))
    decide
  · obtain rfl : t = 2 := Int32.toInt_inj.mp (h.trans (by decide))
    decide
  · obtain rfl : t = 3 := Int32.toInt_inj.mp (h.trans (by decide))
    decide
  · obtain rfl : t = 4 := Int32.toInt_inj.mp (h.trans (by decide))
    decide
  · obtain rfl : t = 5 := Int32.toInt_inj.mp (h.trans (by decide))
    decide
  · obtain rfl : t = 6 := Int32.toInt_inj.mp (h.trans (by decide))
    decide
theorem own_T_of (p : Int32) : own_T ((p &&& 7) % 7) (shlI 1 ((p &&& 7) % 7)) (shrI 64 ((p &&& 7) % 7)) := by
  have a1 := (c_and p 7 (by decide)).1
  have a2 := (c_irem (p &&& 7) 7 7 rfl).1 a1
  exact own_e6 _ (by omega) (by omega)
theorem own_T_ntz {k l W : Int32} (h : own_T k l W) : F_numberOfTrailingZeros l = k := by rcases h with ⟨rfl, rfl, rfl⟩ | ⟨rfl, rfl, rfl⟩ | ⟨rfl, rfl, rfl⟩ | ⟨rfl, rfl, rfl⟩ | ⟨rfl, rfl, rfl⟩ | ⟨rfl, rfl, rfl⟩ | ⟨rfl, rfl, rfl⟩ <;> decide +kernel
theorem own_T_bc {k l W : Int32} (h : own_T k l W) : F_bitCount l = 1 := by rcases h with ⟨rfl, rfl, rfl⟩ | ⟨rfl, rfl, rfl⟩ | ⟨rfl, rfl, rfl⟩ | ⟨rfl, rfl, rfl⟩ | ⟨rfl, rfl, rfl⟩ | ⟨rfl, rfl, rfl⟩ | ⟨rfl, rfl, rfl⟩ <;> decide +kernel
theorem own_T_lo {k l W : Int32} (h : own_T k l W) : ¬ l < 1 := by rcases h with ⟨rfl, rfl, rfl⟩ | ⟨rfl, rfl, rfl⟩ | ⟨rfl, rfl, rfl⟩ | ⟨rfl, rfl, rfl⟩ | ⟨rfl, rfl, rfl⟩ | ⟨rfl, rfl, rfl⟩ | ⟨rfl, rfl, rfl⟩ <;> decide
theorem own_T_hi {k l W : Int32} (h : own_T k l W) : ¬ 64 < l := by rcases h with ⟨rfl, rfl, rfl⟩ | ⟨rfl, rfl, rfl⟩ | ⟨rfl, rfl, rfl⟩ | ⟨rfl, rfl, rfl⟩ | ⟨rfl, rfl, rfl⟩ | ⟨rfl, rfl, rfl⟩ | ⟨rfl, rfl, rfl⟩ <;> decide
theorem own_T_W {k l W : Int32} (h : own_T k l W) : ¬ W = 0 := by rcases h with ⟨rfl, rfl, rfl⟩ | ⟨rfl, rfl, rfl⟩ | ⟨rfl, rfl, rfl⟩ | ⟨rfl, rfl, rfl⟩ | ⟨rfl, rfl, rfl⟩ | ⟨rfl, rfl, rfl⟩ | ⟨rfl, rfl, rfl⟩ <;> decide
theorem own_pos (p n : Int32) (h0 : 0 ≤ p.toInt) (hn : 0 < n.toInt) : 0 ≤ (p % n).toInt ∧ (p % n).toInt < n.toInt := by
  have h := (c_irem p n n.toInt rfl).1 h0
  have h3 := Int.emod_nonneg p.toInt (show n.toInt ≠ 0 by omega)
  have h4 := Int.emod_lt_of_pos p.toInt hn
  omega
theorem own_m31 (p : Int32) : 0 ≤ (p &&& 2147483647).toInt := (c_and p 2147483647 (by decide)).1
theorem own_words {k l W : Int32} (h : own_T k l W) (n : Int32) (h1 : 1 ≤ n.toInt) (h2 : n.toInt ≤ 4096) : (Int64.toInt32 (F_bytes n l / 8)).toInt = (n.toInt * l.toInt + 63) / 64 := by
  have i1 : (Int32.toInt64 n).toInt = n.toInt := c_i2l n
  have i2 : (Int32.toInt64 l).toInt = l.toInt := c_i2l l
  have m := c_lmul (Int32.toInt64 n) (Int32.toInt64 l)
  rw [i1, i2] at m
  have rm := rng64 (Int32.toInt64 n * Int32.toInt64 l)
  have b : 0 ≤ n.toInt * l.toInt ∧ n.toInt * l.toInt ≤ 262144 := by
    rcases h with ⟨rfl, rfl, rfl⟩ | ⟨rfl, rfl, rfl⟩ | ⟨rfl, rfl, rfl⟩ | ⟨rfl, rfl, rfl⟩ | ⟨rfl, rfl, rfl⟩ | ⟨rfl, rfl, rfl⟩ | ⟨rfl, rfl, rfl⟩
    · rw [show (1 : Int32).toInt = 1 from rfl]; omega
    · rw [show (2 : Int32).toInt = 2 from rfl]; omega
    · rw [show (4 : Int32).toInt = 4 from rfl]; omega
    · rw [show (8 : Int32).toInt = 8 from rfl]; omega
    · rw [show (16 : Int32).toInt = 16 from rfl]; omega
    · rw [show (32 : Int32).toInt = 32 from rfl]; omega
    · rw [show (64 : Int32).toInt = 64 from rfl]; omega
  simp only [F_bytes]
  generalize Int32.toInt64 n * Int32.toInt64 l = x at *
  generalize n.toInt * l.toInt = y at *
  have e64 : (64 : Int64).toInt = 64 := rfl
  have e8 : (8 : Int64).toInt = 8 := rfl
  have e1 : (1 : Int64).toInt = 1 := rfl
  have a1 := c_ladd x 64; have r1 := rng64 (x + 64)
  have a2 := c_lsub (x + 64) 1; have r2 := rng64 (x + 64 - 1)
  have a3 := (c_ldiv (x + 64 - 1) 64 64 rfl (by decide)).1 (by omega)
  have a4 := c_lmul ((x + 64 - 1) / 64) 8; rw [e8] at a4; have r4 := rng64 ((x + 64 - 1) / 64 * 8)
  have a5 := (c_ldiv ((x + 64 - 1) / 64 * 8) 8 8 rfl (by decide)).1 (by omega)
  have a6 := c_l2i ((x + 64 - 1) / 64 * 8 / 8); have r6 := rng32 (Int64.toInt32 ((x + 64 - 1) / 64 * 8 / 8))
  omega
theorem own_cap {k l W : Int32} (h : own_T k l W) (n : Int32) (h1 : 1 ≤ n.toInt) (h2 : n.toInt ≤ 4096) : ¬ (Int64.toInt32 (F_bytes n l / 8)) < 0 ∧ (Int32.toNatClampNeg (Int64.toInt32 (F_bytes n l / 8))) ≤ 4096 := by
  have w := own_words h n h1 h2
  have b : 0 ≤ (n.toInt * l.toInt + 63) / 64 ∧ (n.toInt * l.toInt + 63) / 64 ≤ 4096 := by
    rcases h with ⟨rfl, rfl, rfl⟩ | ⟨rfl, rfl, rfl⟩ | ⟨rfl, rfl, rfl⟩ | ⟨rfl, rfl, rfl⟩ | ⟨rfl, rfl, rfl⟩ | ⟨rfl, rfl, rfl⟩ | ⟨rfl, rfl, rfl⟩
    · rw [show (1 : Int32).toInt = 1 from rfl]; omega
    · rw [show (2 : Int32).toInt = 2 from rfl]; omega
    · rw [show (4 : Int32).toInt = 4 from rfl]; omega
    · rw [show (8 : Int32).toInt = 8 from rfl]; omega
    · rw [show (16 : Int32).toInt = 16 from rfl]; omega
    · rw [show (32 : Int32).toInt = 32 from rfl]; omega
    · rw [show (64 : Int32).toInt = 64 from rfl]; omega
  refine ⟨fun z => ?_, ?_⟩
  · have := own_ltI.mp z; have e : (0 : Int32).toInt = 0 := rfl
    omega
  · simp only [Int32.toNatClampNeg]; omega
theorem own_i0 (a : Int32) (h0 : 0 ≤ a.toInt) (h1 : a.toInt < 4096) : (Int64.toInt32 (ushrL (shlL (Int32.toInt64 a) 0) 6)).toInt = a.toInt / 64 ∧ (shlL (Int32.toInt64 a) 0).toInt = a.toInt * 1 := by
  have i1 : (Int32.toInt64 a).toInt = a.toInt := c_i2l a
  have s : ((shlL (Int32.toInt64 a) 0).toInt - (Int32.toInt64 a).toInt * 1) % 18446744073709551616 = 0 := c_lshl (Int32.toInt64 a) 0 0 (by decide)
  have rs := rng64 (shlL (Int32.toInt64 a) 0)
  generalize shlL (Int32.toInt64 a) 0 = x at *
  have u : (ushrL x 6).toInt = x.toInt % 18446744073709551616 / 64 := c_lushr x 6 6 (by decide) (by decide)
  have ru := rng64 (ushrL x 6)
  generalize ushrL x 6 = y at *
  have c := c_l2i y; have rc := rng32 (Int64.toInt32 y)
  omega
theorem own_s0 (m : Int64) (a : Int32) (h0 : 0 ≤ a.toInt) (h1 : a.toInt < 4096) : shlL m (Int64.toInt32 (shlL (Int32.toInt64 a) 0)) = shlL m (shlI (a % 64) 0) := by
  have x1 := (own_i0 a h0 h1).2
  have c := c_l2i (shlL (Int32.toInt64 a) 0); have rc := rng32 (Int64.toInt32 (shlL (Int32.toInt64 a) 0))
  have rm := (c_irem a 64 64 rfl).1 h0
  have sh : ((shlI (a % 64) 0).toInt - (a % 64).toInt * 1) % 4294967296 = 0 := c_ishl (a % 64) 0 0 (by decide)
  have k1 : ((Int64.toInt32 (shlL (Int32.toInt64 a) 0)) &&& 63).toInt = (Int64.toInt32 (shlL (Int32.toInt64 a) 0)).toInt % 64 := c_mask _ 63 6 (by decide) (by decide)
  have k2 : ((shlI (a % 64) 0) &&& 63).toInt = (shlI (a % 64) 0).toInt % 64 := c_mask _ 63 6 (by decide) (by decide)
  have e : (Int64.toInt32 (shlL (Int32.toInt64 a) 0)) &&& 63 = (shlI (a % 64) 0) &&& 63 := by rw [own_eqI, k1, k2]; omega
  show m <<< ((Int64.toInt32 (shlL (Int32.toInt64 a) 0)) &&& 63).toInt64 = m <<< ((shlI (a % 64) 0) &&& 63).toInt64
  rw [e]
theorem own_i1 (a : Int32) (h0 : 0 ≤ a.toInt) (h1 : a.toInt < 4096) : (Int64.toInt32 (ushrL (shlL (Int32.toInt64 a) 1) 6)).toInt = a.toInt / 32 ∧ (shlL (Int32.toInt64 a) 1).toInt = a.toInt * 2 := by
  have i1 : (Int32.toInt64 a).toInt = a.toInt := c_i2l a
  have s : ((shlL (Int32.toInt64 a) 1).toInt - (Int32.toInt64 a).toInt * 2) % 18446744073709551616 = 0 := c_lshl (Int32.toInt64 a) 1 1 (by decide)
  have rs := rng64 (shlL (Int32.toInt64 a) 1)
  generalize shlL (Int32.toInt64 a) 1 = x at *
  have u : (ushrL x 6).toInt = x.toInt % 18446744073709551616 / 64 := c_lushr x 6 6 (by decide) (by decide)
  have ru := rng64 (ushrL x 6)
  generalize ushrL x 6 = y at *
  have c := c_l2i y; have rc := rng32 (Int64.toInt32 y)
  omega
theorem own_s1 (m : Int64) (a : Int32) (h0 : 0 ≤ a.toInt) (h1 : a.toInt < 4096) : shlL m (Int64.toInt32 (shlL (Int32.toInt64 a) 1)) = shlL m (shlI (a % 32) 1) := by
  have x1 := (own_i1 a h0 h1).2
  have c := c_l2i (shlL (Int32.toInt64 a) 1); have rc := rng32 (Int64.toInt32 (shlL (Int32.toInt64 a) 1))
  have rm := (c_irem a 32 32 rfl).1 h0
  have sh : ((shlI (a % 32) 1).toInt - (a % 32).toInt * 2) % 4294967296 = 0 := c_ishl (a % 32) 1 1 (by decide)
  have k1 : ((Int64.toInt32 (shlL (Int32.toInt64 a) 1)) &&& 63).toInt = (Int64.toInt32 (shlL (Int32.toInt64 a) 1)).toInt % 64 := c_mask _ 63 6 (by decide) (by decide)
  have k2 : ((shlI (a % 32) 1) &&& 63).toInt = (shlI (a % 32) 1).toInt % 64 := c_mask _ 63 6 (by decide) (by decide)
  have e : (Int64.toInt32 (shlL (Int32.toInt64 a) 1)) &&& 63 = (shlI (a % 32) 1) &&& 63 := by rw [own_eqI, k1, k2]; omega
  show m <<< ((Int64.toInt32 (shlL (Int32.toInt64 a) 1)) &&& 63).toInt64 = m <<< ((shlI (a % 32) 1) &&& 63).toInt64
  rw [e]
theorem own_i2 (a : Int32) (h0 : 0 ≤ a.toInt) (h1 : a.toInt < 4096) : (Int64.toInt32 (ushrL (shlL (Int32.toInt64 a) 2) 6)).toInt = a.toInt / 16 ∧ (shlL (Int32.toInt64 a) 2).toInt = a.toInt * 4 := by
  have i1 : (Int32.toInt64 a).toInt = a.toInt := c_i2l a
  have s : ((shlL (Int32.toInt64 a) 2).toInt - (Int32.toInt64 a).toInt * 4) % 18446744073709551616 = 0 := c_lshl (Int32.toInt64 a) 2 2 (by decide)
  have rs := rng64 (shlL (Int32.toInt64 a) 2)
  generalize shlL (Int32.toInt64 a) 2 = x at *
  have u : (ushrL x 6).toInt = x.toInt % 18446744073709551616 / 64 := c_lushr x 6 6 (by decide) (by decide)
  have ru := rng64 (ushrL x 6)
  generalize ushrL x 6 = y at *
  have c := c_l2i y; have rc := rng32 (Int64.toInt32 y)
  omega
theorem own_s2 (m : Int64) (a : Int32) (h0 : 0 ≤ a.toInt) (h1 : a.toInt < 4096) : shlL m (Int64.toInt32 (shlL (Int32.toInt64 a) 2)) = shlL m (shlI (a % 16) 2) := by
  have x1 := (own_i2 a h0 h1).2
  have c := c_l2i (shlL (Int32.toInt64 a) 2); have rc := rng32 (Int64.toInt32 (shlL (Int32.toInt64 a) 2))
  have rm := (c_irem a 16 16 rfl).1 h0
  have sh : ((shlI (a % 16) 2).toInt - (a % 16).toInt * 4) % 4294967296 = 0 := c_ishl (a % 16) 2 2 (by decide)
  have k1 : ((Int64.toInt32 (shlL (Int32.toInt64 a) 2)) &&& 63).toInt = (Int64.toInt32 (shlL (Int32.toInt64 a) 2)).toInt % 64 := c_mask _ 63 6 (by decide) (by decide)
  have k2 : ((shlI (a % 16) 2) &&& 63).toInt = (shlI (a % 16) 2).toInt % 64 := c_mask _ 63 6 (by decide) (by decide)
  have e : (Int64.toInt32 (shlL (Int32.toInt64 a) 2)) &&& 63 = (shlI (a % 16) 2) &&& 63 := by rw [own_eqI, k1, k2]; omega
  show m <<< ((Int64.toInt32 (shlL (Int32.toInt64 a) 2)) &&& 63).toInt64 = m <<< ((shlI (a % 16) 2) &&& 63).toInt64
  rw [e]
theorem own_i3 (a : Int32) (h0 : 0 ≤ a.toInt) (h1 : a.toInt < 4096) : (Int64.toInt32 (ushrL (shlL (Int32.toInt64 a) 3) 6)).toInt = a.toInt / 8 ∧ (shlL (Int32.toInt64 a) 3).toInt = a.toInt * 8 := by
  have i1 : (Int32.toInt64 a).toInt = a.toInt := c_i2l a
  have s : ((shlL (Int32.toInt64 a) 3).toInt - (Int32.toInt64 a).toInt * 8) % 18446744073709551616 = 0 := c_lshl (Int32.toInt64 a) 3 3 (by decide)
  have rs := rng64 (shlL (Int32.toInt64 a) 3)
  generalize shlL (Int32.toInt64 a) 3 = x at *
  have u : (ushrL x 6).toInt = x.toInt % 18446744073709551616 / 64 := c_lushr x 6 6 (by decide) (by decide)
  have ru := rng64 (ushrL x 6)
  generalize ushrL x 6 = y at *
  have c := c_l2i y; have rc := rng32 (Int64.toInt32 y)
  omega
theorem own_s3 (m : Int64) (a : Int32) (h0 : 0 ≤ a.toInt) (h1 : a.toInt < 4096) : shlL m (Int64.toInt32 (shlL (Int32.toInt64 a) 3)) = shlL m (shlI (a % 8) 3) := by
  have x1 := (own_i3 a h0 h1).2
  have c := c_l2i (shlL (Int32.toInt64 a) 3); have rc := rng32 (Int64.toInt32 (shlL (Int32.toInt64 a) 3))
  have rm := (c_irem a 8 8 rfl).1 h0
  have sh : ((shlI (a % 8) 3).toInt - (a % 8).toInt * 8) % 4294967296 = 0 := c_ishl (a % 8) 3 3 (by decide)
  have k1 : ((Int64.toInt32 (shlL (Int32.toInt64 a) 3)) &&& 63).toInt = (Int64.toInt32 (shlL (Int32.toInt64 a) 3)).toInt % 64 := c_mask _ 63 6 (by decide) (by decide)
  have k2 : ((shlI (a % 8) 3) &&& 63).toInt = (shlI (a % 8) 3).toInt % 64 := c_mask _ 63 6 (by decide) (by decide)
  have e : (Int64.toInt32 (shlL (Int32.toInt64 a) 3)) &&& 63 = (shlI (a % 8) 3) &&& 63 := by rw [own_eqI, k1, k2]; omega
  show m <<< ((Int64.toInt32 (shlL (Int32.toInt64 a) 3)) &&& 63).toInt64 = m <<< ((shlI (a % 8) 3) &&& 63).toInt64
  rw [e]
theorem own_i4 (a : Int32) (h0 : 0 ≤ a.toInt) (h1 : a.toInt < 4096) : (Int64.toInt32 (ushrL (shlL (Int32.toInt64 a) 4) 6)).toInt = a.toInt / 4 ∧ (shlL (Int32.toInt64 a) 4).toInt = a.toInt * 16 := by
  have i1 : (Int32.toInt64 a).toInt = a.toInt := c_i2l a
  have s : ((shlL (Int32.toInt64 a) 4).toInt - (Int32.toInt64 a).toInt * 16) % 18446744073709551616 = 0 := c_lshl (Int32.toInt64 a) 4 4 (by decide)
  have rs := rng64 (shlL (Int32.toInt64 a) 4)
  generalize shlL (Int32.toInt64 a) 4 = x at *
  have u : (ushrL x 6).toInt = x.toInt % 18446744073709551616 / 64 := c_lushr x 6 6 (by decide) (by decide)
  have ru := rng64 (ushrL x 6)
  generalize ushrL x 6 = y at *
  have c := c_l2i y; have rc := rng32 (Int64.toInt32 y)
  omega
theorem own_s4 (m : Int64) (a : Int32) (h0 : 0 ≤ a.toInt) (h1 : a.toInt < 4096) : shlL m (Int64.toInt32 (shlL (Int32.toInt64 a) 4)) = shlL m (shlI (a % 4) 4) := by
  have x1 := (own_i4 a h0 h1).2
  have c := c_l2i (shlL (Int32.toInt64 a) 4); have rc := rng32 (Int64.toInt32 (shlL (Int32.toInt64 a) 4))
  have rm := (c_irem a 4 4 rfl).1 h0
  have sh : ((shlI (a % 4) 4).toInt - (a % 4).toInt * 16) % 4294967296 = 0 := c_ishl (a % 4) 4 4 (by decide)
  have k1 : ((Int64.toInt32 (shlL (Int32.toInt64 a) 4)) &&& 63).toInt = (Int64.toInt32 (shlL (Int32.toInt64 a) 4)).toInt % 64 := c_mask _ 63 6 (by decide) (by decide)
  have k2 : ((shlI (a % 4) 4) &&& 63).toInt = (shlI (a % 4) 4).toInt % 64 := c_mask _ 63 6 (by decide) (by decide)
  have e : (Int64.toInt32 (shlL (Int32.toInt64 a) 4)) &&& 63 = (shlI (a % 4) 4) &&& 63 := by rw [own_eqI, k1, k2]; omega
  show m <<< ((Int64.toInt32 (shlL (Int32.toInt64 a) 4)) &&& 63).toInt64 = m <<< ((shlI (a % 4) 4) &&& 63).toInt64
  rw [e]
theorem own_i5 (a : Int32) (h0 : 0 ≤ a.toInt) (h1 : a.toInt < 4096) : (Int64.toInt32 (ushrL (shlL (Int32.toInt64 a) 5) 6)).toInt = a.toInt / 2 ∧ (shlL (Int32.toInt64 a) 5).toInt = a.toInt * 32 := by
  have i1 : (Int32.toInt64 a).toInt = a.toInt := c_i2l a
  have s : ((shlL (Int32.toInt64 a) 5).toInt - (Int32.toInt64 a).toInt * 32) % 18446744073709551616 = 0 := c_lshl (Int32.toInt64 a) 5 5 (by decide)
  have rs := rng64 (shlL (Int32.toInt64 a) 5)
  generalize shlL (Int32.toInt64 a) 5 = x at *
  have u : (ushrL x 6).toInt = x.toInt % 18446744073709551616 / 64 := c_lushr x 6 6 (by decide) (by decide)
  have ru := rng64 (ushrL x 6)
  generalize ushrL x 6 = y at *
  have c := c_l2i y; have rc := rng32 (Int64.toInt32 y)
  omega
theorem own_s5 (m : Int64) (a : Int32) (h0 : 0 ≤ a.toInt) (h1 : a.toInt < 4096) : shlL m (Int64.toInt32 (shlL (Int32.toInt64 a) 5)) = shlL m (shlI (a % 2) 5) := by
  have x1 := (own_i5 a h0 h1).2
  have c := c_l2i (shlL (Int32.toInt64 a) 5); have rc := rng32 (Int64.toInt32 (shlL (Int32.toInt64 a) 5))
  have rm := (c_irem a 2 2 rfl).1 h0
  have sh : ((shlI (a % 2) 5).toInt - (a % 2).toInt * 32) % 4294967296 = 0 := c_ishl (a % 2) 5 5 (by decide)
  have k1 : ((Int64.toInt32 (shlL (Int32.toInt64 a) 5)) &&& 63).toInt = (Int64.toInt32 (shlL (Int32.toInt64 a) 5)).toInt % 64 := c_mask _ 63 6 (by decide) (by decide)
  have k2 : ((shlI (a % 2) 5) &&& 63).toInt = (shlI (a % 2) 5).toInt % 64 := c_mask _ 63 6 (by decide) (by decide)
  have e : (Int64.toInt32 (shlL (Int32.toInt64 a) 5)) &&& 63 = (shlI (a % 2) 5) &&& 63 := by rw [own_eqI, k1, k2]; omega
  show m <<< ((Int64.toInt32 (shlL (Int32.toInt64 a) 5)) &&& 63).toInt64 = m <<< ((shlI (a % 2) 5) &&& 63).toInt64
  rw [e]
theorem own_i6 (a : Int32) (h0 : 0 ≤ a.toInt) (h1 : a.toInt < 4096) : (Int64.toInt32 (ushrL (shlL (Int32.toInt64 a) 6) 6)).toInt = a.toInt / 1 ∧ (shlL (Int32.toInt64 a) 6).toInt = a.toInt * 64 := by
  have i1 : (Int32.toInt64 a).toInt = a.toInt := c_i2l a
  have s : ((shlL (Int32.toInt64 a) 6).toInt - (Int32.toInt64 a).toInt * 64) % 18446744073709551616 = 0 := c_lshl (Int32.toInt64 a) 6 6 (by decide)
  have rs := rng64 (shlL (Int32.toInt64 a) 6)
  generalize shlL (Int32.toInt64 a) 6 = x at *
  have u : (ushrL x 6).toInt = x.toInt % 18446744073709551616 / 64 := c_lushr x 6 6 (by decide) (by decide)
  have ru := rng64 (ushrL x 6)
  generalize ushrL x 6 = y at *
  have c := c_l2i y; have rc := rng32 (Int64.toInt32 y)
  omega
theorem own_s6 (m : Int64) (a : Int32) (h0 : 0 ≤ a.toInt) (h1 : a.toInt < 4096) : shlL m (Int64.toInt32 (shlL (Int32.toInt64 a) 6)) = shlL m (shlI (a % 1) 6) := by
  have x1 := (own_i6 a h0 h1).2
  have c := c_l2i (shlL (Int32.toInt64 a) 6); have rc := rng32 (Int64.toInt32 (shlL (Int32.toInt64 a) 6))
  have rm := (c_irem a 1 1 rfl).1 h0
  have sh : ((shlI (a % 1) 6).toInt - (a % 1).toInt * 64) % 4294967296 = 0 := c_ishl (a % 1) 6 6 (by decide)
  have k1 : ((Int64.toInt32 (shlL (Int32.toInt64 a) 6)) &&& 63).toInt = (Int64.toInt32 (shlL (Int32.toInt64 a) 6)).toInt % 64 := c_mask _ 63 6 (by decide) (by decide)
  have k2 : ((shlI (a % 1) 6) &&& 63).toInt = (shlI (a % 1) 6).toInt % 64 := c_mask _ 63 6 (by decide) (by decide)
  have e : (Int64.toInt32 (shlL (Int32.toInt64 a) 6)) &&& 63 = (shlI (a % 1) 6) &&& 63 := by rw [own_eqI, k1, k2]; omega
  show m <<< ((Int64.toInt32 (shlL (Int32.toInt64 a) 6)) &&& 63).toInt64 = m <<< ((shlI (a % 1) 6) &&& 63).toInt64
  rw [e]
theorem own_i {k l W : Int32} (h : own_T k l W) (a : Int32) (h0 : 0 ≤ a.toInt) (h1 : a.toInt < 4096) : (Int64.toInt32 (ushrL (shlL (Int32.toInt64 a) k) 6)).toInt = a.toInt / W.toInt ∧ (a / W).toInt = a.toInt / W.toInt := by
  rcases h with ⟨rfl, rfl, rfl⟩ | ⟨rfl, rfl, rfl⟩ | ⟨rfl, rfl, rfl⟩ | ⟨rfl, rfl, rfl⟩ | ⟨rfl, rfl, rfl⟩ | ⟨rfl, rfl, rfl⟩ | ⟨rfl, rfl, rfl⟩
  · exact ⟨(own_i0 a h0 h1).1, (c_idiv a 64 64 rfl (by decide)).1 h0⟩
  · exact ⟨(own_i1 a h0 h1).1, (c_idiv a 32 32 rfl (by decide)).1 h0⟩
  · exact ⟨(own_i2 a h0 h1).1, (c_idiv a 16 16 rfl (by decide)).1 h0⟩
  · exact ⟨(own_i3 a h0 h1).1, (c_idiv a 8 8 rfl (by decide)).1 h0⟩
  · exact ⟨(own_i4 a h0 h1).1, (c_idiv a 4 4 rfl (by decide)).1 h0⟩
  · exact ⟨(own_i5 a h0 h1).1, (c_idiv a 2 2 rfl (by decide)).1 h0⟩
  · exact ⟨(own_i6 a h0 h1).1, (c_idiv a 1 1 rfl (by decide)).1 h0⟩
theorem own_s {k l W : Int32} (h : own_T k l W) (m : Int64) (a : Int32) (h0 : 0 ≤ a.toInt) (h1 : a.toInt < 4096) : shlL m (Int64.toInt32 (shlL (Int32.toInt64 a) k)) = shlL m (shlI (a % W) k) := by
  rcases h with ⟨rfl, rfl, rfl⟩ | ⟨rfl, rfl, rfl⟩ | ⟨rfl, rfl, rfl⟩ | ⟨rfl, rfl, rfl⟩ | ⟨rfl, rfl, rfl⟩ | ⟨rfl, rfl, rfl⟩ | ⟨rfl, rfl, rfl⟩
  · exact own_s0 m a h0 h1
  · exact own_s1 m a h0 h1
  · exact own_s2 m a h0 h1
  · exact own_s3 m a h0 h1
  · exact own_s4 m a h0 h1
  · exact own_s5 m a h0 h1
  · exact own_s6 m a h0 h1
/-- the place of a position's word -/
def own_ix (a k : Int32) : Nat := Int32.toNatClampNeg (Int64.toInt32 (ushrL (shlL (Int32.toInt64 a) k) 6))
theorem own_in {k l W : Int32} (h : own_T k l W) (n a : Int32) (h1 : 1 ≤ n.toInt) (h2 : n.toInt ≤ 4096) (h0 : 0 ≤ a.toInt) (h3 : a.toInt < n.toInt) : ¬ (Int64.toInt32 (ushrL (shlL (Int32.toInt64 a) k) 6)) < 0 ∧ Int32.toNatClampNeg (Int64.toInt32 (ushrL (shlL (Int32.toInt64 a) k) 6)) < (Int32.toNatClampNeg (Int64.toInt32 (F_bytes n l / 8))) := by
  have w := own_words h n h1 h2
  have i := (own_i h a h0 (by omega)).1
  have b : 0 ≤ a.toInt / W.toInt ∧ a.toInt / W.toInt < (n.toInt * l.toInt + 63) / 64 := by
    rcases h with ⟨rfl, rfl, rfl⟩ | ⟨rfl, rfl, rfl⟩ | ⟨rfl, rfl, rfl⟩ | ⟨rfl, rfl, rfl⟩ | ⟨rfl, rfl, rfl⟩ | ⟨rfl, rfl, rfl⟩ | ⟨rfl, rfl, rfl⟩
    · rw [show (64 : Int32).toInt = 64 from rfl, show (1 : Int32).toInt = 1 from rfl]; omega
    · rw [show (32 : Int32).toInt = 32 from rfl, show (2 : Int32).toInt = 2 from rfl]; omega
    · rw [show (16 : Int32).toInt = 16 from rfl, show (4 : Int32).toInt = 4 from rfl]; omega
    · rw [show (8 : Int32).toInt = 8 from rfl]; omega
    · rw [show (4 : Int32).toInt = 4 from rfl, show (16 : Int32).toInt = 16 from rfl]; omega
    · rw [show (2 : Int32).toInt = 2 from rfl, show (32 : Int32).toInt = 32 from rfl]; omega
    · rw [show (1 : Int32).toInt = 1 from rfl, show (64 : Int32).toInt = 64 from rfl]; omega
  refine ⟨fun z => ?_, ?_⟩
  · have := own_ltI.mp z; have e : (0 : Int32).toInt = 0 := rfl
    omega
  · simp only [Int32.toNatClampNeg]; omega
theorem own_same {k l W : Int32} (h : own_T k l W) (a c : Int32) (h0 : 0 ≤ a.toInt) (h1 : a.toInt < 4096) (h2 : 0 ≤ c.toInt) (h3 : c.toInt < 4096) : own_ix a k = own_ix c k ↔ a / W = c / W := by
  have i1 := own_i h a h0 h1
  have i2 := own_i h c h2 h3
  have b1 : 0 ≤ a.toInt / W.toInt ∧ 0 ≤ c.toInt / W.toInt := by
    rcases h with ⟨rfl, rfl, rfl⟩ | ⟨rfl, rfl, rfl⟩ | ⟨rfl, rfl, rfl⟩ | ⟨rfl, rfl, rfl⟩ | ⟨rfl, rfl, rfl⟩ | ⟨rfl, rfl, rfl⟩ | ⟨rfl, rfl, rfl⟩
    · rw [show (64 : Int32).toInt = 64 from rfl]; omega
    · rw [show (32 : Int32).toInt = 32 from rfl]; omega
    · rw [show (16 : Int32).toInt = 16 from rfl]; omega
    · rw [show (8 : Int32).toInt = 8 from rfl]; omega
    · rw [show (4 : Int32).toInt = 4 from rfl]; omega
    · rw [show (2 : Int32).toInt = 2 from rfl]; omega
    · rw [show (1 : Int32).toInt = 1 from rfl]; omega
  rw [own_eqI, i1.2, i2.2]
  simp only [own_ix, Int32.toNatClampNeg, i1.1, i2.1]
  omega
theorem own_0or (x : Int64) : (0 : Int64) ||| x = x := Int64.zero_or
theorem own_or0 (x : Int64) : x ||| (0 : Int64) = x := Int64.or_zero

theorem own_sm : ∀ n : Fin 64, ((Int32.ofNat n.1).toInt64.toBitVec.smod 64) = BitVec.ofNat 64 n.1 := by decide +kernel
theorem own_su : ∀ n : Fin 64, ((Int32.ofNat n.1).toInt64.toUInt64.toBitVec % 64) = BitVec.ofNat 64 n.1 := by decide +kernel
theorem own_sn (s : Int32) (n : Nat) (hn : n < 64) (h : (s &&& 63).toInt = n) : s &&& 63 = Int32.ofNat n := Int32.toInt_inj.mp (by rw [h, Int32.toInt_ofNat_of_lt (by omega)])
theorem own_shl (m : Int64) (s : Int32) (n : Nat) (hn : n < 64) (h : (s &&& 63).toInt = n) : (shlL m s).toBitVec = m.toBitVec <<< n := by
  show (m <<< (s &&& 63).toInt64).toBitVec = _
  rw [own_sn s n hn h, Int64.toBitVec_shiftLeft, own_sm ⟨n, hn⟩, BitVec.shiftLeft_eq', BitVec.toNat_ofNat, Nat.mod_eq_of_lt (by omega)]
theorem own_ush (m : Int64) (s : Int32) (n : Nat) (hn : n < 64) (h : (s &&& 63).toInt = n) : (ushrL m s).toBitVec = m.toBitVec >>> n := by
  show (m.toUInt64 >>> (s &&& 63).toInt64.toUInt64).toBitVec = _
  rw [own_sn s n hn h, UInt64.toBitVec_shiftRight, own_su ⟨n, hn⟩, BitVec.ushiftRight_eq', BitVec.toNat_ofNat, Nat.mod_eq_of_lt (by omega)]
  rfl
theorem own_sml (t : Int32) (h0 : 0 ≤ t.toInt) (h1 : t.toInt < 64) : (t &&& 63).toInt = (t.toInt.toNat : Nat) := by
  have : (t &&& 63).toInt = t.toInt % 64 := c_mask t 63 6 (by decide) (by decide)
  omega
theorem own_oneB (n : Nat) (hn : n < 64) (i : Nat) : ((1 : BitVec 64) <<< n).getLsbD i = decide (i = n) := by
  rw [BitVec.getLsbD_shiftLeft]
  have e1 : (1 : BitVec 64).getLsbD (i - n) = decide (i - n = 0) := by
    show (1#64).getLsbD _ = _
    rw [BitVec.getLsbD_one]; simp
  rw [e1]
  by_cases c : i = n
  · subst c; simp; omega
  · by_cases c2 : i < n
    · simp [c, c2]
    · have : ¬ (i - n = 0) := by omega
      rw [decide_eq_false this, decide_eq_false c, Bool.and_false]
theorem own_one (t : Int32) (h0 : 0 ≤ t.toInt) (h1 : t.toInt < 64) (i : Nat) : (shlL 1 t).toBitVec.getLsbD i = decide (i = t.toInt.toNat) := by
  rw [own_shl 1 t t.toInt.toNat (by omega) (own_sml t h0 h1)]
  exact own_oneB _ (by omega) i
theorem own_disj (s t : Int32) (h0 : 0 ≤ s.toInt) (h1 : s.toInt < 64) (h2 : 0 ≤ t.toInt) (h3 : t.toInt < 64) (hn : ¬ s = t) : shlL 1 s &&& shlL 1 t = 0 := by
  apply Int64.toBitVec_inj.mp
  rw [Int64.toBitVec_and]
  apply BitVec.eq_of_getLsbD_eq
  intro i hi
  rw [BitVec.getLsbD_and, own_one s h0 h1, own_one t h2 h3]
  have n : ¬ (s.toInt.toNat = t.toInt.toNat) := fun z => hn (Int32.toInt_inj.mp (by omega))
  generalize s.toInt.toNat = a at *
  generalize t.toInt.toNat = b at *
  by_cases c : i = a
  · subst c; rw [decide_eq_false n]; simp
  · rw [decide_eq_false c]; simp
theorem own_off0 (x q i : Nat) (hi : i < 1) : (x * 1 % 64 + i < 64) ∧ (x / 64 = q / 64 → ¬ x = q → x * 1 % 64 ≤ q * 1 % 64 + i → 1 ≤ q * 1 % 64 + i - x * 1 % 64) := by omega
theorem own_off1 (x q i : Nat) (hi : i < 2) : (x * 2 % 64 + i < 64) ∧ (x / 32 = q / 32 → ¬ x = q → x * 2 % 64 ≤ q * 2 % 64 + i → 2 ≤ q * 2 % 64 + i - x * 2 % 64) := by omega
theorem own_off2 (x q i : Nat) (hi : i < 4) : (x * 4 % 64 + i < 64) ∧ (x / 16 = q / 16 → ¬ x = q → x * 4 % 64 ≤ q * 4 % 64 + i → 4 ≤ q * 4 % 64 + i - x * 4 % 64) := by omega
theorem own_off3 (x q i : Nat) (hi : i < 8) : (x * 8 % 64 + i < 64) ∧ (x / 8 = q / 8 → ¬ x = q → x * 8 % 64 ≤ q * 8 % 64 + i → 8 ≤ q * 8 % 64 + i - x * 8 % 64) := by omega
theorem own_off4 (x q i : Nat) (hi : i < 16) : (x * 16 % 64 + i < 64) ∧ (x / 4 = q / 4 → ¬ x = q → x * 16 % 64 ≤ q * 16 % 64 + i → 16 ≤ q * 16 % 64 + i - x * 16 % 64) := by omega
theorem own_off5 (x q i : Nat) (hi : i < 32) : (x * 32 % 64 + i < 64) ∧ (x / 2 = q / 2 → ¬ x = q → x * 32 % 64 ≤ q * 32 % 64 + i → 32 ≤ q * 32 % 64 + i - x * 32 % 64) := by omega
theorem own_off6 (x q i : Nat) (hi : i < 64) : (x * 64 % 64 + i < 64) ∧ (x / 1 = q / 1 → ¬ x = q → x * 64 % 64 ≤ q * 64 % 64 + i → 64 ≤ q * 64 % 64 + i - x * 64 % 64) := by omega
theorem own_off {k l W : Int32} (h : own_T k l W) (x q i : Nat) (hi : i < l.toInt.toNat) : (x * l.toInt.toNat % 64 + i < 64) ∧ (x / W.toInt.toNat = q / W.toInt.toNat → ¬ x = q → x * l.toInt.toNat % 64 ≤ q * l.toInt.toNat % 64 + i → l.toInt.toNat ≤ q * l.toInt.toNat % 64 + i - x * l.toInt.toNat % 64) := by
  rcases h with ⟨rfl, rfl, rfl⟩ | ⟨rfl, rfl, rfl⟩ | ⟨rfl, rfl, rfl⟩ | ⟨rfl, rfl, rfl⟩ | ⟨rfl, rfl, rfl⟩ | ⟨rfl, rfl, rfl⟩ | ⟨rfl, rfl, rfl⟩
  · exact own_off0 x q i hi
  · exact own_off1 x q i hi
  · exact own_off2 x q i hi
  · exact own_off3 x q i hi
  · exact own_off4 x q i hi
  · exact own_off5 x q i hi
  · exact own_off6 x q i hi
theorem own_sx0 (a : Int32) (h0 : 0 ≤ a.toInt) (h1 : a.toInt < 4096) : ((Int64.toInt32 (shlL (Int32.toInt64 a) 0)) &&& 63).toInt = ((a.toInt.toNat * 1 % 64 : Nat) : Int) := by
  have x1 := (own_i0 a h0 h1).2
  have c := c_l2i (shlL (Int32.toInt64 a) 0); have rc := rng32 (Int64.toInt32 (shlL (Int32.toInt64 a) 0))
  have k1 : ((Int64.toInt32 (shlL (Int32.toInt64 a) 0)) &&& 63).toInt = (Int64.toInt32 (shlL (Int32.toInt64 a) 0)).toInt % 64 := c_mask _ 63 6 (by decide) (by decide)
  omega
theorem own_sx1 (a : Int32) (h0 : 0 ≤ a.toInt) (h1 : a.toInt < 4096) : ((Int64.toInt32 (shlL (Int32.toInt64 a) 1)) &&& 63).toInt = ((a.toInt.toNat * 2 % 64 : Nat) : Int) := by
  have x1 := (own_i1 a h0 h1).2
  have c := c_l2i (shlL (Int32.toInt64 a) 1); have rc := rng32 (Int64.toInt32 (shlL (Int32.toInt64 a) 1))
  have k1 : ((Int64.toInt32 (shlL (Int32.toInt64 a) 1)) &&& 63).toInt = (Int64.toInt32 (shlL (Int32.toInt64 a) 1)).toInt % 64 := c_mask _ 63 6 (by decide) (by decide)
  omega
theorem own_sx2 (a : Int32) (h0 : 0 ≤ a.toInt) (h1 : a.toInt < 4096) : ((Int64.toInt32 (shlL (Int32.toInt64 a) 2)) &&& 63).toInt = ((a.toInt.toNat * 4 % 64 : Nat) : Int) := by
  have x1 := (own_i2 a h0 h1).2
  have c := c_l2i (shlL (Int32.toInt64 a) 2); have rc := rng32 (Int64.toInt32 (shlL (Int32.toInt64 a) 2))
  have k1 : ((Int64.toInt32 (shlL (Int32.toInt64 a) 2)) &&& 63).toInt = (Int64.toInt32 (shlL (Int32.toInt64 a) 2)).toInt % 64 := c_mask _ 63 6 (by decide) (by decide)
  omega
theorem own_sx3 (a : Int32) (h0 : 0 ≤ a.toInt) (h1 : a.toInt < 4096) : ((Int64.toInt32 (shlL (Int32.toInt64 a) 3)) &&& 63).toInt = ((a.toInt.toNat * 8 % 64 : Nat) : Int) := by
  have x1 := (own_i3 a h0 h1).2
  have c := c_l2i (shlL (Int32.toInt64 a) 3); have rc := rng32 (Int64.toInt32 (shlL (Int32.toInt64 a) 3))
  have k1 : ((Int64.toInt32 (shlL (Int32.toInt64 a) 3)) &&& 63).toInt = (Int64.toInt32 (shlL (Int32.toInt64 a) 3)).toInt % 64 := c_mask _ 63 6 (by decide) (by decide)
  omega
theorem own_sx4 (a : Int32) (h0 : 0 ≤ a.toInt) (h1 : a.toInt < 4096) : ((Int64.toInt32 (shlL (Int32.toInt64 a) 4)) &&& 63).toInt = ((a.toInt.toNat * 16 % 64 : Nat) : Int) := by
  have x1 := (own_i4 a h0 h1).2
  have c := c_l2i (shlL (Int32.toInt64 a) 4); have rc := rng32 (Int64.toInt32 (shlL (Int32.toInt64 a) 4))
  have k1 : ((Int64.toInt32 (shlL (Int32.toInt64 a) 4)) &&& 63).toInt = (Int64.toInt32 (shlL (Int32.toInt64 a) 4)).toInt % 64 := c_mask _ 63 6 (by decide) (by decide)
  omega
theorem own_sx5 (a : Int32) (h0 : 0 ≤ a.toInt) (h1 : a.toInt < 4096) : ((Int64.toInt32 (shlL (Int32.toInt64 a) 5)) &&& 63).toInt = ((a.toInt.toNat * 32 % 64 : Nat) : Int) := by
  have x1 := (own_i5 a h0 h1).2
  have c := c_l2i (shlL (Int32.toInt64 a) 5); have rc := rng32 (Int64.toInt32 (shlL (Int32.toInt64 a) 5))
  have k1 : ((Int64.toInt32 (shlL (Int32.toInt64 a) 5)) &&& 63).toInt = (Int64.toInt32 (shlL (Int32.toInt64 a) 5)).toInt % 64 := c_mask _ 63 6 (by decide) (by decide)
  omega
theorem own_sx6 (a : Int32) (h0 : 0 ≤ a.toInt) (h1 : a.toInt < 4096) : ((Int64.toInt32 (shlL (Int32.toInt64 a) 6)) &&& 63).toInt = ((a.toInt.toNat * 64 % 64 : Nat) : Int) := by
  have x1 := (own_i6 a h0 h1).2
  have c := c_l2i (shlL (Int32.toInt64 a) 6); have rc := rng32 (Int64.toInt32 (shlL (Int32.toInt64 a) 6))
  have k1 : ((Int64.toInt32 (shlL (Int32.toInt64 a) 6)) &&& 63).toInt = (Int64.toInt32 (shlL (Int32.toInt64 a) 6)).toInt % 64 := c_mask _ 63 6 (by decide) (by decide)
  omega
theorem own_sx {k l W : Int32} (h : own_T k l W) (a : Int32) (h0 : 0 ≤ a.toInt) (h1 : a.toInt < 4096) : ((Int64.toInt32 (shlL (Int32.toInt64 a) k)) &&& 63).toInt = ((a.toInt.toNat * l.toInt.toNat % 64 : Nat) : Int) := by
  rcases h with ⟨rfl, rfl, rfl⟩ | ⟨rfl, rfl, rfl⟩ | ⟨rfl, rfl, rfl⟩ | ⟨rfl, rfl, rfl⟩ | ⟨rfl, rfl, rfl⟩ | ⟨rfl, rfl, rfl⟩ | ⟨rfl, rfl, rfl⟩
  · exact own_sx0 a h0 h1
  · exact own_sx1 a h0 h1
  · exact own_sx2 a h0 h1
  · exact own_sx3 a h0 h1
  · exact own_sx4 a h0 h1
  · exact own_sx5 a h0 h1
  · exact own_sx6 a h0 h1
theorem own_sameN {k l W : Int32} (h : own_T k l W) (a c : Int32) (h0 : 0 ≤ a.toInt) (h1 : a.toInt < 4096) (h2 : 0 ≤ c.toInt) (h3 : c.toInt < 4096) (e : own_ix a k = own_ix c k) : c.toInt.toNat / W.toInt.toNat = a.toInt.toNat / W.toInt.toNat := by
  have i1 := own_i h a h0 h1
  have i2 := own_i h c h2 h3
  simp only [own_ix, Int32.toNatClampNeg, i1.1, i2.1] at e
  rcases h with ⟨rfl, rfl, rfl⟩ | ⟨rfl, rfl, rfl⟩ | ⟨rfl, rfl, rfl⟩ | ⟨rfl, rfl, rfl⟩ | ⟨rfl, rfl, rfl⟩ | ⟨rfl, rfl, rfl⟩ | ⟨rfl, rfl, rfl⟩
  · rw [show (64 : Int32).toInt = 64 from rfl] at *; rw [show ((64 : Int).toNat) = 64 from rfl]; omega
  · rw [show (32 : Int32).toInt = 32 from rfl] at *; rw [show ((32 : Int).toNat) = 32 from rfl]; omega
  · rw [show (16 : Int32).toInt = 16 from rfl] at *; rw [show ((16 : Int).toNat) = 16 from rfl]; omega
  · rw [show (8 : Int32).toInt = 8 from rfl] at *; rw [show ((8 : Int).toNat) = 8 from rfl]; omega
  · rw [show (4 : Int32).toInt = 4 from rfl] at *; rw [show ((4 : Int).toNat) = 4 from rfl]; omega
  · rw [show (2 : Int32).toInt = 2 from rfl] at *; rw [show ((2 : Int).toNat) = 2 from rfl]; omega
  · rw [show (1 : Int32).toInt = 1 from rfl] at *; rw [show ((1 : Int).toNat) = 1 from rfl]; omega
theorem own_piece {k l W : Int32} (h : own_T k l W) (m : Int64) (hm : ∀ i, l.toInt.toNat ≤ i → m.toBitVec.getLsbD i = false) (x q : Int32) (x0 : 0 ≤ x.toInt) (x1 : x.toInt < 4096) (q0 : 0 ≤ q.toInt) (q1 : q.toInt < 4096) (i : Nat) (hi : i < l.toInt.toNat) : (ushrL (if own_ix q k = own_ix x k then shlL m (Int64.toInt32 (shlL (Int32.toInt64 x) k)) else 0) (Int64.toInt32 (shlL (Int32.toInt64 q) k))).toBitVec.getLsbD i = (decide (q = x) && m.toBitVec.getLsbD i) := by
  have nq := own_sx h q q0 q1
  have nx := own_sx h x x0 x1
  have of := own_off h x.toInt.toNat q.toInt.toNat i hi
  have oq := (own_off h q.toInt.toNat x.toInt.toNat i hi).1
  rw [own_ush _ _ _ (Nat.mod_lt _ (by decide)) nq, BitVec.getLsbD_ushiftRight]
  by_cases c : own_ix q k = own_ix x k
  · rw [if_pos c, own_shl _ _ _ (Nat.mod_lt _ (by decide)) nx, BitVec.getLsbD_shiftLeft]
    have sw := own_sameN h q x q0 q1 x0 x1 c
    by_cases e : q = x
    · subst e
      generalize q.toInt.toNat * l.toInt.toNat % 64 = a at *
      rw [decide_eq_true oq, decide_eq_false (show ¬ a + i < a by omega), show a + i - a = i by omega]
      simp
    · rw [decide_eq_false e, Bool.false_and]
      have ne : ¬ x.toInt.toNat = q.toInt.toNat := fun z => e (Int32.toInt_inj.mp (by omega))
      have o2 := of.2 sw ne
      generalize q.toInt.toNat * l.toInt.toNat % 64 = a at *
      generalize x.toInt.toNat * l.toInt.toNat % 64 = b at *
      by_cases c2 : a + i < b
      · rw [decide_eq_true c2]; simp
      · rw [hm _ (o2 (by omega))]; simp
  · have e : ¬ q = x := fun z => c (by rw [z])
    rw [if_neg c, decide_eq_false e, Bool.false_and]
    show (0#64).getLsbD _ = _
    rw [BitVec.getLsbD_zero]
theorem own_lb {k l W : Int32} (h : own_T k l W) (i : Nat) (hi : l.toInt.toNat ≤ i) : (if l = 64 then (-1 : Int64) else shlL 1 l - 1).toBitVec.getLsbD i = false := by
  by_cases c : i < 64
  · rcases h with ⟨rfl, rfl, rfl⟩ | ⟨rfl, rfl, rfl⟩ | ⟨rfl, rfl, rfl⟩ | ⟨rfl, rfl, rfl⟩ | ⟨rfl, rfl, rfl⟩ | ⟨rfl, rfl, rfl⟩ | ⟨rfl, rfl, rfl⟩
    · exact (by decide +kernel : ∀ i : Fin 64, 1 ≤ i.1 → (if (1 : Int32) = 64 then (-1 : Int64) else shlL 1 1 - 1).toBitVec.getLsbD i.1 = false) ⟨i, c⟩ hi
    · exact (by decide +kernel : ∀ i : Fin 64, 2 ≤ i.1 → (if (2 : Int32) = 64 then (-1 : Int64) else shlL 1 2 - 1).toBitVec.getLsbD i.1 = false) ⟨i, c⟩ hi
    · exact (by decide +kernel : ∀ i : Fin 64, 4 ≤ i.1 → (if (4 : Int32) = 64 then (-1 : Int64) else shlL 1 4 - 1).toBitVec.getLsbD i.1 = false) ⟨i, c⟩ hi
    · exact (by decide +kernel : ∀ i : Fin 64, 8 ≤ i.1 → (if (8 : Int32) = 64 then (-1 : Int64) else shlL 1 8 - 1).toBitVec.getLsbD i.1 = false) ⟨i, c⟩ hi
    · exact (by decide +kernel : ∀ i : Fin 64, 16 ≤ i.1 → (if (16 : Int32) = 64 then (-1 : Int64) else shlL 1 16 - 1).toBitVec.getLsbD i.1 = false) ⟨i, c⟩ hi
    · exact (by decide +kernel : ∀ i : Fin 64, 32 ≤ i.1 → (if (32 : Int32) = 64 then (-1 : Int64) else shlL 1 32 - 1).toBitVec.getLsbD i.1 = false) ⟨i, c⟩ hi
    · exact (by decide +kernel : ∀ i : Fin 64, 64 ≤ i.1 → (if (64 : Int32) = 64 then (-1 : Int64) else shlL 1 64 - 1).toBitVec.getLsbD i.1 = false) ⟨i, c⟩ hi
  · exact BitVec.getLsbD_of_ge _ _ (by omega)
theorem own_mb {k l W : Int32} (h : own_T k l W) (m : Int64) (i : Nat) (hi : l.toInt.toNat ≤ i) : (m &&& (if l = 64 then (-1 : Int64) else shlL 1 l - 1)).toBitVec.getLsbD i = false := by
  rw [Int64.toBitVec_and, BitVec.getLsbD_and, own_lb h i hi, Bool.and_false]

theorem own_bits (p : Int32) : 1 ≤ ((1 : Int32) + (ushrI p 3 &&& 4095)).toInt ∧ ((1 : Int32) + (ushrI p 3 &&& 4095)).toInt ≤ 4096 := by
  have h := c_and (ushrI p 3) 4095 (by decide)
  have e1 : (1 : Int32).toInt = 1 := rfl
  have e2 : (4095 : Int32).toInt = 4095 := rfl
  have := c_iadd 1 (ushrI p 3 &&& 4095); have := rng32 (1 + (ushrI p 3 &&& 4095))
  omega
theorem own_c (p n : Int32) (h : 1 ≤ n.toInt) : 0 ≤ ((p &&& 2147483647) % n).toInt ∧ ((p &&& 2147483647) % n).toInt < n.toInt := own_pos _ _ (own_m31 p) (by omega)
theorem own_pk (s a b c n : Int32) (ha : 0 ≤ a.toInt ∧ a.toInt < n.toInt) (hb : 0 ≤ b.toInt ∧ b.toInt < n.toInt) (hc : 0 ≤ c.toInt ∧ c.toInt < n.toInt) : 0 ≤ (F_pick s a b c).toInt ∧ (F_pick s a b c).toInt < n.toInt := by
  simp only [F_pick]
  split
  · exact ha
  · split
    · exact hb
    · exact hc
theorem own_t1 {k l W : Int32} (h : own_T k l W) (e : Int32) : 0 ≤ (e &&& (l - 1)).toInt ∧ (e &&& (l - 1)).toInt < l.toInt := by
  rcases h with ⟨rfl, rfl, rfl⟩ | ⟨rfl, rfl, rfl⟩ | ⟨rfl, rfl, rfl⟩ | ⟨rfl, rfl, rfl⟩ | ⟨rfl, rfl, rfl⟩ | ⟨rfl, rfl, rfl⟩ | ⟨rfl, rfl, rfl⟩
  · have := c_and e (1 - 1) (by decide); have e1 : ((1 : Int32) - 1).toInt = 0 := by decide
    have e2 : (1 : Int32).toInt = 1 := rfl
    omega
  · have := c_and e (2 - 1) (by decide); have e1 : ((2 : Int32) - 1).toInt = 1 := by decide
    have e2 : (2 : Int32).toInt = 2 := rfl
    omega
  · have := c_and e (4 - 1) (by decide); have e1 : ((4 : Int32) - 1).toInt = 3 := by decide
    have e2 : (4 : Int32).toInt = 4 := rfl
    omega
  · have := c_and e (8 - 1) (by decide); have e1 : ((8 : Int32) - 1).toInt = 7 := by decide
    have e2 : (8 : Int32).toInt = 8 := rfl
    omega
  · have := c_and e (16 - 1) (by decide); have e1 : ((16 : Int32) - 1).toInt = 15 := by decide
    have e2 : (16 : Int32).toInt = 16 := rfl
    omega
  · have := c_and e (32 - 1) (by decide); have e1 : ((32 : Int32) - 1).toInt = 31 := by decide
    have e2 : (32 : Int32).toInt = 32 := rfl
    omega
  · have := c_and e (64 - 1) (by decide); have e1 : ((64 : Int32) - 1).toInt = 63 := by decide
    have e2 : (64 : Int32).toInt = 64 := rfl
    omega
theorem own_t2 {k l W : Int32} (h : own_T k l W) (hl : 1 < l) (t r : Int32) (h0 : 0 ≤ t.toInt) (h1 : t.toInt < l.toInt) (hr : 0 ≤ r.toInt) : ¬ (t + 1 + r % (l - 1)) &&& (l - 1) = t := by
  have e1 : (1 : Int32).toInt = 1 := rfl
  rcases h with ⟨rfl, rfl, rfl⟩ | ⟨rfl, rfl, rfl⟩ | ⟨rfl, rfl, rfl⟩ | ⟨rfl, rfl, rfl⟩ | ⟨rfl, rfl, rfl⟩ | ⟨rfl, rfl, rfl⟩ | ⟨rfl, rfl, rfl⟩
  · exact absurd hl (by decide)
  · intro z
    have em : ((2 : Int32) - 1).toInt = 1 := by decide
    have rm := (c_irem r (2 - 1) 1 em).1 hr
    have a1 := c_iadd t 1; have r1 := rng32 (t + 1)
    have a2 := c_iadd (t + 1) (r % (2 - 1)); have r2 := rng32 (t + 1 + r % (2 - 1))
    have mk : ((t + 1 + r % (2 - 1)) &&& (2 - 1)).toInt = (t + 1 + r % (2 - 1)).toInt % 2 := c_mask _ (2 - 1) 1 (by decide) (by decide)
    rw [z] at mk
    have e2 : (2 : Int32).toInt = 2 := rfl
    omega
  · intro z
    have em : ((4 : Int32) - 1).toInt = 3 := by decide
    have rm := (c_irem r (4 - 1) 3 em).1 hr
    have a1 := c_iadd t 1; have r1 := rng32 (t + 1)
    have a2 := c_iadd (t + 1) (r % (4 - 1)); have r2 := rng32 (t + 1 + r % (4 - 1))
    have mk : ((t + 1 + r % (4 - 1)) &&& (4 - 1)).toInt = (t + 1 + r % (4 - 1)).toInt % 4 := c_mask _ (4 - 1) 2 (by decide) (by decide)
    rw [z] at mk
    have e2 : (4 : Int32).toInt = 4 := rfl
    omega
  · intro z
    have em : ((8 : Int32) - 1).toInt = 7 := by decide
    have rm := (c_irem r (8 - 1) 7 em).1 hr
    have a1 := c_iadd t 1; have r1 := rng32 (t + 1)
    have a2 := c_iadd (t + 1) (r % (8 - 1)); have r2 := rng32 (t + 1 + r % (8 - 1))
    have mk : ((t + 1 + r % (8 - 1)) &&& (8 - 1)).toInt = (t + 1 + r % (8 - 1)).toInt % 8 := c_mask _ (8 - 1) 3 (by decide) (by decide)
    rw [z] at mk
    have e2 : (8 : Int32).toInt = 8 := rfl
    omega
  · intro z
    have em : ((16 : Int32) - 1).toInt = 15 := by decide
    have rm := (c_irem r (16 - 1) 15 em).1 hr
    have a1 := c_iadd t 1; have r1 := rng32 (t + 1)
    have a2 := c_iadd (t + 1) (r % (16 - 1)); have r2 := rng32 (t + 1 + r % (16 - 1))
    have mk : ((t + 1 + r % (16 - 1)) &&& (16 - 1)).toInt = (t + 1 + r % (16 - 1)).toInt % 16 := c_mask _ (16 - 1) 4 (by decide) (by decide)
    rw [z] at mk
    have e2 : (16 : Int32).toInt = 16 := rfl
    omega
  · intro z
    have em : ((32 : Int32) - 1).toInt = 31 := by decide
    have rm := (c_irem r (32 - 1) 31 em).1 hr
    have a1 := c_iadd t 1; have r1 := rng32 (t + 1)
    have a2 := c_iadd (t + 1) (r % (32 - 1)); have r2 := rng32 (t + 1 + r % (32 - 1))
    have mk : ((t + 1 + r % (32 - 1)) &&& (32 - 1)).toInt = (t + 1 + r % (32 - 1)).toInt % 32 := c_mask _ (32 - 1) 5 (by decide) (by decide)
    rw [z] at mk
    have e2 : (32 : Int32).toInt = 32 := rfl
    omega
  · intro z
    have em : ((64 : Int32) - 1).toInt = 63 := by decide
    have rm := (c_irem r (64 - 1) 63 em).1 hr
    have a1 := c_iadd t 1; have r1 := rng32 (t + 1)
    have a2 := c_iadd (t + 1) (r % (64 - 1)); have r2 := rng32 (t + 1 + r % (64 - 1))
    have mk : ((t + 1 + r % (64 - 1)) &&& (64 - 1)).toInt = (t + 1 + r % (64 - 1)).toInt % 64 := c_mask _ (64 - 1) 6 (by decide) (by decide)
    rw [z] at mk
    have e2 : (64 : Int32).toInt = 64 := rfl
    omega

theorem own_ob7 {k l W : Int32} (h : own_T k l W) (hl : 1 < l) (e : Int32) : (F_take_a0_inUse (e &&& (l - 1)) 0 0 l (F_numberOfTrailingZeros l) &&& shlL 1 (if 1 < l then (e &&& (l - 1)) + 1 + (ushrI e 6 &&& 63) % (l - 1) &&& (l - 1) else e &&& (l - 1))) = 0 := by
  rw [if_pos hl]
  have t1 := own_t1 h e
  have t2 := own_t1 h ((e &&& (l - 1)) + 1 + (ushrI e 6 &&& 63) % (l - 1))
  have ne := own_t2 h hl (e &&& (l - 1)) (ushrI e 6 &&& 63) t1.1 t1.2 (c_and (ushrI e 6) 63 (by decide)).1
  have lh : l.toInt ≤ 64 := by have := own_T_hi h; rw [own_ltI] at this; have e4 : (64 : Int32).toInt = 64 := rfl; omega
  simp only [F_take_a0_inUse, own_0or]
  exact own_disj _ _ t1.1 (by omega) t2.1 (by omega) (fun z => ne z.symm)
theorem pd_2 : parseMethodDescriptor "(IIII)I" = some ⟨[.int, .int, .int, .int], some .int⟩ := by decide +kernel
theorem pd_3 : parseMethodDescriptor "(II)V" = some ⟨[.int, .int], none⟩ := by decide +kernel
theorem pd_4 : parseMethodDescriptor "(I)V" = some ⟨[.int], none⟩ := by decide +kernel
theorem pd_5 : parseMethodDescriptor "([IJ)V" = some ⟨[(.array .int), .long], none⟩ := by decide +kernel
theorem pd_6 : parseMethodDescriptor "([I)J" = some ⟨[(.array .int)], some .long⟩ := by decide +kernel
theorem pd_7 : parseMethodDescriptor "(IIJIJ)J" = some ⟨[.int, .int, .long, .int, .long], some .long⟩ := by decide +kernel
theorem ef_0 (p0 : Int32) (p1 : Int32) (p2 : Int32) (p3 : Int32) (q4 : Int64) (p5 : Int32) : ∀ m : MethodId, entryFrame m #[(.int p0), (.int p1), (.int p2), (.int p3), (.long q4), (.int p5)] maxLocals = mkF m 0 #[.val (.int p0), .val (.int p1), .val (.int p2), .val (.int p3), .val (.long q4), .second, .val (.int p5), .unset, .unset, .unset, .unset, .unset, .unset, .unset, .unset, .unset, .unset, .unset, .unset, .unset, .unset, .unset, .unset, .unset, .unset, .unset, .unset, .unset, .unset, .unset, .unset, .unset, .unset, .unset, .unset, .unset] [] := by intro m; first | (simp [entryFrame, mkF, argsToLocals, Value.category, maxLocals]; done) | rfl
def F_law (p0 : Int32) (p1 : Int32) (p2 : Int32) (p3 : Int32) (q4 : Int64) (p5 : Int32) : Int32 :=
  let v785 : Int32 := (shlI (1 : Int32) ((p0 &&& (7 : Int32)) % (7 : Int32)))
  let v786 : Int32 := ((1 : Int32) + ((ushrI p0 (3 : Int32)) &&& (4095 : Int32)))
  let d788 : Int64 := (if v785 = (64 : Int32) then (-1 : Int64) else ((shlL (1 : Int64) v785) - (1 : Int64)))
  let v790 : Int32 := ((p1 &&& (2147483647 : Int32)) % v786)
  let v791 : Int32 := ((p2 &&& (2147483647 : Int32)) % v786)
  let v792 : Int32 := ((p3 &&& (2147483647 : Int32)) % v786)
  let v793 : Int64 := (q4 &&& d788)
  let v794 : Int64 := (((ushrL q4 (17 : Int32)) ||| (shlL q4 (47 : Int32))) &&& d788)
  let v795 : Int32 := (p5 &&& (v785 - (1 : Int32)))
  let d797 : Int32 := (if (1 : Int32) < v785 then (((v795 + (1 : Int32)) + (((ushrI p5 (6 : Int32)) &&& (63 : Int32)) % (v785 - (1 : Int32)))) &&& (v785 - (1 : Int32))) else v795)
  let d800 : Int32 := (if ((ushrI p5 (12 : Int32)) &&& (1 : Int32)) = (0 : Int32) then (0 : Int32) else (1 : Int32))
  let v802 : Int32 := (((ushrI p5 (13 : Int32)) &&& (3 : Int32)) % (3 : Int32))
  let v803 : Int32 := (((ushrI p5 (15 : Int32)) &&& (3 : Int32)) % (3 : Int32))
  let v804 : Int32 := (((ushrI p5 (17 : Int32)) &&& (3 : Int32)) % (3 : Int32))
  let v808 : Int32 := (F_pick v802 v790 v791 v792)
  let v812 : Int32 := (F_pick v803 v790 v791 v792)
  if v804 = (0 : Int32) then
    let v1762 : Int32 := (F_numberOfTrailingZeros v785)
    let v1782 : Int64 := (F_take_a0_inUse v795 (0 : Int64) (0 : Int64) v785 v1762)
    let d1803 : Int64 := (if (1 : Int32) < v785 then (F_take_a0_inUse d797 v1782 (0 : Int64) v785 v1762) else v1782)
    let d1878 : Int64 := (if d800 = (0 : Int32) then (0 : Int64) else (F_free_a0_dirty v795 d1803 (0 : Int64) v785 v1762))
    let d1879 : Int64 := (if d800 = (0 : Int32) then d1803 else (F_free_a0_inUse v795 d1803 (0 : Int64) v785 v1762))
    let v1900 : Int64 := (F_holding0 d1879)
    let v1901 : Int64 := ((shlL (1 : Int64) v795) ||| (shlL (1 : Int64) d797))
    let d1903 : Int64 := (if d800 = (0 : Int32) then v1901 else (v1901 &&& ((shlL (1 : Int64) v795) ^^^ (-1 : Int64))))
    let d1909 : Int64 := (if v804 < (1 : Int32) then d1903 else (d1903 &&& (F_lanesAt v808 v790 v793 v791 v794)))
    let d1920 : Int64 := (if v804 < (2 : Int32) then d1909 else (d1909 &&& (F_lanesAt v812 v790 v793 v791 v794)))
    let d1928 : Int32 := (if v1900 = d1920 then (1 : Int32) else (0 : Int32))
    (nar .boolean d1928)
  else
    if v804 = (1 : Int32) then
      let v1427 : Int32 := (F_numberOfTrailingZeros v785)
      let v1447 : Int64 := (F_take_a0_inUse v795 (0 : Int64) (0 : Int64) v785 v1427)
      let d1468 : Int64 := (if (1 : Int32) < v785 then (F_take_a0_inUse d797 v1447 (0 : Int64) v785 v1427) else v1447)
      let d1543 : Int64 := (if d800 = (0 : Int32) then (0 : Int64) else (F_free_a0_dirty v795 d1468 (0 : Int64) v785 v1427))
      let d1544 : Int64 := (if d800 = (0 : Int32) then d1468 else (F_free_a0_inUse v795 d1468 (0 : Int64) v785 v1427))
      let v1565 : Int64 := (F_holding1 d1544 v808 v1427 (Int32.toNatClampNeg (Int64.toInt32 ((F_bytes v786 v785) / (8 : Int64)))) (F_add1_w_a0_words_g v794 v791 v1427 (Int32.toNatClampNeg (Int64.toInt32 ((F_bytes v786 v785) / (8 : Int64)))) (F_add1_w_a0_words_g v793 v790 v1427 (Int32.toNatClampNeg (Int64.toInt32 ((F_bytes v786 v785) / (8 : Int64)))) (fun _ => (0 : Int64)))))
      let v1566 : Int64 := ((shlL (1 : Int64) v795) ||| (shlL (1 : Int64) d797))
      let d1568 : Int64 := (if d800 = (0 : Int32) then v1566 else (v1566 &&& ((shlL (1 : Int64) v795) ^^^ (-1 : Int64))))
      let d1574 : Int64 := (if v804 < (1 : Int32) then d1568 else (d1568 &&& (F_lanesAt v808 v790 v793 v791 v794)))
      let d1585 : Int64 := (if v804 < (2 : Int32) then d1574 else (d1574 &&& (F_lanesAt v812 v790 v793 v791 v794)))
      let d1593 : Int32 := (if v1565 = d1585 then (1 : Int32) else (0 : Int32))
      (nar .boolean d1593)
    else
      let v1082 : Int32 := (F_numberOfTrailingZeros v785)
      let v1102 : Int64 := (F_take_a0_inUse v795 (0 : Int64) (0 : Int64) v785 v1082)
      let d1123 : Int64 := (if (1 : Int32) < v785 then (F_take_a0_inUse d797 v1102 (0 : Int64) v785 v1082) else v1102)
      let d1198 : Int64 := (if d800 = (0 : Int32) then (0 : Int64) else (F_free_a0_dirty v795 d1123 (0 : Int64) v785 v1082))
      let d1199 : Int64 := (if d800 = (0 : Int32) then d1123 else (F_free_a0_inUse v795 d1123 (0 : Int64) v785 v1082))
      let v1220 : Int64 := (F_holding2 d1199 v808 v812 v1082 (Int32.toNatClampNeg (Int64.toInt32 ((F_bytes v786 v785) / (8 : Int64)))) (F_add1_w_a0_words_g v794 v791 v1082 (Int32.toNatClampNeg (Int64.toInt32 ((F_bytes v786 v785) / (8 : Int64)))) (F_add1_w_a0_words_g v793 v790 v1082 (Int32.toNatClampNeg (Int64.toInt32 ((F_bytes v786 v785) / (8 : Int64)))) (fun _ => (0 : Int64)))))
      let v1221 : Int64 := ((shlL (1 : Int64) v795) ||| (shlL (1 : Int64) d797))
      let d1223 : Int64 := (if d800 = (0 : Int32) then v1221 else (v1221 &&& ((shlL (1 : Int64) v795) ^^^ (-1 : Int64))))
      let d1229 : Int64 := (if v804 < (1 : Int32) then d1223 else (d1223 &&& (F_lanesAt v808 v790 v793 v791 v794)))
      let d1240 : Int64 := (if v804 < (2 : Int32) then d1229 else (d1229 &&& (F_lanesAt v812 v790 v793 v791 v794)))
      let d1248 : Int32 := (if v1220 = d1240 then (1 : Int32) else (0 : Int32))
      (nar .boolean d1248)
theorem own_ob_0 (p0 : Int32) (p1 : Int32) (p2 : Int32) (p3 : Int32) (q4 : Int64) (p5 : Int32) : ∀ (v786 : Int32), ((1 : Int32) + ((ushrI p0 (3 : Int32)) &&& (4095 : Int32))) = v786 → ¬ v786 = (0 : Int32) := by
  have T := own_T_of p0
  have B := own_bits p0
  have C1 := own_c p1 _ B.1
  have C2 := own_c p2 _ B.1
  have C3 := own_c p3 _ B.1
  intros; subst_vars; intro z
  have := own_eqI.mp z; have e : (0 : Int32).toInt = 0 := rfl
  omega
theorem own_ob_1 (p0 : Int32) (p1 : Int32) (p2 : Int32) (p3 : Int32) (q4 : Int64) (p5 : Int32) : ∀ (v785 : Int32), (shlI (1 : Int32) ((p0 &&& (7 : Int32)) % (7 : Int32))) = v785 → (1 : Int32) < v785 → ¬ (v785 - (1 : Int32)) = (0 : Int32) := by
  have T := own_T_of p0
  intro v hv hc
  subst hv
  revert hc
  rcases T with ⟨-, e, -⟩ | ⟨-, e, -⟩ | ⟨-, e, -⟩ | ⟨-, e, -⟩ | ⟨-, e, -⟩ | ⟨-, e, -⟩ | ⟨-, e, -⟩ <;> rw [e] <;> decide
theorem own_ob_2 (p0 : Int32) (p1 : Int32) (p2 : Int32) (p3 : Int32) (q4 : Int64) (p5 : Int32) : ∀ (v785 : Int32) (v804 : Int32), (shlI (1 : Int32) ((p0 &&& (7 : Int32)) % (7 : Int32))) = v785 → (((ushrI p5 (17 : Int32)) &&& (3 : Int32)) % (3 : Int32)) = v804 → ¬ (v804 = (0 : Int32)) → ¬ (v804 = (1 : Int32)) → (¬ (v785 < (1 : Int32))) := by
  have T := own_T_of p0
  have B := own_bits p0
  have C1 := own_c p1 _ B.1
  have C2 := own_c p2 _ B.1
  have C3 := own_c p3 _ B.1
  intros; subst_vars; exact own_T_lo T
theorem own_ob_3 (p0 : Int32) (p1 : Int32) (p2 : Int32) (p3 : Int32) (q4 : Int64) (p5 : Int32) : ∀ (v785 : Int32) (v804 : Int32), (shlI (1 : Int32) ((p0 &&& (7 : Int32)) % (7 : Int32))) = v785 → (((ushrI p5 (17 : Int32)) &&& (3 : Int32)) % (3 : Int32)) = v804 → ¬ (v804 = (0 : Int32)) → ¬ (v804 = (1 : Int32)) → (¬ ((64 : Int32) < v785)) := by
  have T := own_T_of p0
  have B := own_bits p0
  have C1 := own_c p1 _ B.1
  have C2 := own_c p2 _ B.1
  have C3 := own_c p3 _ B.1
  intros; subst_vars; exact own_T_hi T
theorem own_ob_4 (p0 : Int32) (p1 : Int32) (p2 : Int32) (p3 : Int32) (q4 : Int64) (p5 : Int32) : ∀ (v785 : Int32) (v804 : Int32), (shlI (1 : Int32) ((p0 &&& (7 : Int32)) % (7 : Int32))) = v785 → (((ushrI p5 (17 : Int32)) &&& (3 : Int32)) % (3 : Int32)) = v804 → ¬ (v804 = (0 : Int32)) → ¬ (v804 = (1 : Int32)) → ((F_bitCount v785) = (1 : Int32)) := by
  have T := own_T_of p0
  have B := own_bits p0
  have C1 := own_c p1 _ B.1
  have C2 := own_c p2 _ B.1
  have C3 := own_c p3 _ B.1
  intros; subst_vars; exact own_T_bc T
theorem own_ob_5 (p0 : Int32) (p1 : Int32) (p2 : Int32) (p3 : Int32) (q4 : Int64) (p5 : Int32) : ∀ (v785 : Int32) (v786 : Int32) (v804 : Int32), (shlI (1 : Int32) ((p0 &&& (7 : Int32)) % (7 : Int32))) = v785 → ((1 : Int32) + ((ushrI p0 (3 : Int32)) &&& (4095 : Int32))) = v786 → (((ushrI p5 (17 : Int32)) &&& (3 : Int32)) % (3 : Int32)) = v804 → ¬ (v804 = (0 : Int32)) → ¬ (v804 = (1 : Int32)) → (¬ (Int64.toInt32 ((F_bytes v786 v785) / (8 : Int64))) < (0 : Int32) ∧ (Int32.toNatClampNeg (Int64.toInt32 ((F_bytes v786 v785) / (8 : Int64)))) ≤ 4096) := by
  have T := own_T_of p0
  have B := own_bits p0
  have C1 := own_c p1 _ B.1
  have C2 := own_c p2 _ B.1
  have C3 := own_c p3 _ B.1
  intros; subst_vars; exact own_cap T _ B.1 B.2
theorem own_ob_6 (p0 : Int32) (p1 : Int32) (p2 : Int32) (p3 : Int32) (q4 : Int64) (p5 : Int32) : ∀ (v785 : Int32) (v795 : Int32) (v804 : Int32), (shlI (1 : Int32) ((p0 &&& (7 : Int32)) % (7 : Int32))) = v785 → (p5 &&& (v785 - (1 : Int32))) = v795 → (((ushrI p5 (17 : Int32)) &&& (3 : Int32)) % (3 : Int32)) = v804 → ¬ (v804 = (0 : Int32)) → ¬ (v804 = (1 : Int32)) → (∀ (v431 : Int64), (shlL (1 : Int64) v795) = v431 → ((0 : Int64) &&& v431) = (0 : Int64)) := by
  intros; exact Int64.zero_and
theorem own_ob_7 (p0 : Int32) (p1 : Int32) (p2 : Int32) (p3 : Int32) (q4 : Int64) (p5 : Int32) : ∀ (v785 : Int32) (v795 : Int32) (d797 : Int32) (v804 : Int32) (v1082 : Int32) (v1102 : Int64), (shlI (1 : Int32) ((p0 &&& (7 : Int32)) % (7 : Int32))) = v785 → (p5 &&& (v785 - (1 : Int32))) = v795 → (if (1 : Int32) < v785 then (((v795 + (1 : Int32)) + (((ushrI p5 (6 : Int32)) &&& (63 : Int32)) % (v785 - (1 : Int32)))) &&& (v785 - (1 : Int32))) else v795) = d797 → (((ushrI p5 (17 : Int32)) &&& (3 : Int32)) % (3 : Int32)) = v804 → (F_numberOfTrailingZeros v785) = v1082 → (F_take_a0_inUse v795 (0 : Int64) (0 : Int64) v785 v1082) = v1102 → ¬ (v804 = (0 : Int32)) → ¬ (v804 = (1 : Int32)) → (1 : Int32) < v785 → (∀ (v431 : Int64), (shlL (1 : Int64) d797) = v431 → (v1102 &&& v431) = (0 : Int64)) := by
  have T := own_T_of p0
  intros
  subst_vars
  exact own_ob7 T (by assumption) p5
theorem own_ob_8 (p0 : Int32) (p1 : Int32) (p2 : Int32) (p3 : Int32) (q4 : Int64) (p5 : Int32) : ∀ (v785 : Int32) (v795 : Int32) (d797 : Int32) (v804 : Int32), (shlI (1 : Int32) ((p0 &&& (7 : Int32)) % (7 : Int32))) = v785 → (p5 &&& (v785 - (1 : Int32))) = v795 → (if (1 : Int32) < v785 then (((v795 + (1 : Int32)) + (((ushrI p5 (6 : Int32)) &&& (63 : Int32)) % (v785 - (1 : Int32)))) &&& (v785 - (1 : Int32))) else v795) = d797 → (((ushrI p5 (17 : Int32)) &&& (3 : Int32)) % (3 : Int32)) = v804 → ¬ (v804 = (0 : Int32)) → ¬ (v804 = (1 : Int32)) → (1 : Int32) < v785 → (∀ (v431 : Int64), (shlL (1 : Int64) d797) = v431 → ((0 : Int64) &&& v431) = (0 : Int64)) := by
  intros; exact Int64.zero_and
theorem own_ob_9 (p0 : Int32) (p1 : Int32) (p2 : Int32) (p3 : Int32) (q4 : Int64) (p5 : Int32) : ∀ (v785 : Int32) (v786 : Int32) (v790 : Int32) (v804 : Int32) (v1082 : Int32), (shlI (1 : Int32) ((p0 &&& (7 : Int32)) % (7 : Int32))) = v785 → ((1 : Int32) + ((ushrI p0 (3 : Int32)) &&& (4095 : Int32))) = v786 → ((p1 &&& (2147483647 : Int32)) % v786) = v790 → (((ushrI p5 (17 : Int32)) &&& (3 : Int32)) % (3 : Int32)) = v804 → (F_numberOfTrailingZeros v785) = v1082 → ¬ (v804 = (0 : Int32)) → ¬ (v804 = (1 : Int32)) → (∀ (v510 : Int64), (shlL (Int32.toInt64 v790) v1082) = v510 → ¬ (Int64.toInt32 (ushrL v510 (6 : Int32))) < (0 : Int32) ∧ Int32.toNatClampNeg (Int64.toInt32 (ushrL v510 (6 : Int32))) < (Int32.toNatClampNeg (Int64.toInt32 ((F_bytes v786 v785) / (8 : Int64))))) := by
  have T := own_T_of p0
  have B := own_bits p0
  have C1 := own_c p1 _ B.1
  have C2 := own_c p2 _ B.1
  have C3 := own_c p3 _ B.1
  intros; subst_vars
  rw [own_T_ntz T]
  exact own_in T _ _ B.1 B.2 (C1).1 (C1).2
theorem own_ob_10 (p0 : Int32) (p1 : Int32) (p2 : Int32) (p3 : Int32) (q4 : Int64) (p5 : Int32) : ∀ (v785 : Int32) (v786 : Int32) (v791 : Int32) (v804 : Int32) (v1082 : Int32), (shlI (1 : Int32) ((p0 &&& (7 : Int32)) % (7 : Int32))) = v785 → ((1 : Int32) + ((ushrI p0 (3 : Int32)) &&& (4095 : Int32))) = v786 → ((p2 &&& (2147483647 : Int32)) % v786) = v791 → (((ushrI p5 (17 : Int32)) &&& (3 : Int32)) % (3 : Int32)) = v804 → (F_numberOfTrailingZeros v785) = v1082 → ¬ (v804 = (0 : Int32)) → ¬ (v804 = (1 : Int32)) → (∀ (v510 : Int64), (shlL (Int32.toInt64 v791) v1082) = v510 → ¬ (Int64.toInt32 (ushrL v510 (6 : Int32))) < (0 : Int32) ∧ Int32.toNatClampNeg (Int64.toInt32 (ushrL v510 (6 : Int32))) < (Int32.toNatClampNeg (Int64.toInt32 ((F_bytes v786 v785) / (8 : Int64))))) := by
  have T := own_T_of p0
  have B := own_bits p0
  have C1 := own_c p1 _ B.1
  have C2 := own_c p2 _ B.1
  have C3 := own_c p3 _ B.1
  intros; subst_vars
  rw [own_T_ntz T]
  exact own_in T _ _ B.1 B.2 (C2).1 (C2).2
theorem own_ob_11 (p0 : Int32) (p1 : Int32) (p2 : Int32) (p3 : Int32) (q4 : Int64) (p5 : Int32) : ∀ (v785 : Int32) (v786 : Int32) (v790 : Int32) (v791 : Int32) (v792 : Int32) (v802 : Int32) (v804 : Int32) (v808 : Int32) (v1082 : Int32), (shlI (1 : Int32) ((p0 &&& (7 : Int32)) % (7 : Int32))) = v785 → ((1 : Int32) + ((ushrI p0 (3 : Int32)) &&& (4095 : Int32))) = v786 → ((p1 &&& (2147483647 : Int32)) % v786) = v790 → ((p2 &&& (2147483647 : Int32)) % v786) = v791 → ((p3 &&& (2147483647 : Int32)) % v786) = v792 → (((ushrI p5 (13 : Int32)) &&& (3 : Int32)) % (3 : Int32)) = v802 → (((ushrI p5 (17 : Int32)) &&& (3 : Int32)) % (3 : Int32)) = v804 → (F_pick v802 v790 v791 v792) = v808 → (F_numberOfTrailingZeros v785) = v1082 → ¬ (v804 = (0 : Int32)) → ¬ (v804 = (1 : Int32)) → (∀ (v603 : Int64), (shlL (Int32.toInt64 v808) v1082) = v603 → ¬ (Int64.toInt32 (ushrL v603 (6 : Int32))) < (0 : Int32) ∧ Int32.toNatClampNeg (Int64.toInt32 (ushrL v603 (6 : Int32))) < (Int32.toNatClampNeg (Int64.toInt32 ((F_bytes v786 v785) / (8 : Int64))))) := by
  have T := own_T_of p0
  have B := own_bits p0
  have C1 := own_c p1 _ B.1
  have C2 := own_c p2 _ B.1
  have C3 := own_c p3 _ B.1
  intros; subst_vars
  rw [own_T_ntz T]
  exact own_in T _ _ B.1 B.2 (own_pk _ _ _ _ _ C1 C2 C3).1 (own_pk _ _ _ _ _ C1 C2 C3).2
theorem own_ob_12 (p0 : Int32) (p1 : Int32) (p2 : Int32) (p3 : Int32) (q4 : Int64) (p5 : Int32) : ∀ (v785 : Int32) (v786 : Int32) (d788 : Int64) (v790 : Int32) (v791 : Int32) (v792 : Int32) (v793 : Int64) (v794 : Int64) (v795 : Int32) (d797 : Int32) (d800 : Int32) (v802 : Int32) (v803 : Int32) (v804 : Int32) (v808 : Int32) (v812 : Int32) (v1082 : Int32) (v1102 : Int64) (d1123 : Int64) (d1199 : Int64), (shlI (1 : Int32) ((p0 &&& (7 : Int32)) % (7 : Int32))) = v785 → ((1 : Int32) + ((ushrI p0 (3 : Int32)) &&& (4095 : Int32))) = v786 → (if v785 = (64 : Int32) then (-1 : Int64) else ((shlL (1 : Int64) v785) - (1 : Int64))) = d788 → ((p1 &&& (2147483647 : Int32)) % v786) = v790 → ((p2 &&& (2147483647 : Int32)) % v786) = v791 → ((p3 &&& (2147483647 : Int32)) % v786) = v792 → (q4 &&& d788) = v793 → (((ushrL q4 (17 : Int32)) ||| (shlL q4 (47 : Int32))) &&& d788) = v794 → (p5 &&& (v785 - (1 : Int32))) = v795 → (if (1 : Int32) < v785 then (((v795 + (1 : Int32)) + (((ushrI p5 (6 : Int32)) &&& (63 : Int32)) % (v785 - (1 : Int32)))) &&& (v785 - (1 : Int32))) else v795) = d797 → (if ((ushrI p5 (12 : Int32)) &&& (1 : Int32)) = (0 : Int32) then (0 : Int32) else (1 : Int32)) = d800 → (((ushrI p5 (13 : Int32)) &&& (3 : Int32)) % (3 : Int32)) = v802 → (((ushrI p5 (15 : Int32)) &&& (3 : Int32)) % (3 : Int32)) = v803 → (((ushrI p5 (17 : Int32)) &&& (3 : Int32)) % (3 : Int32)) = v804 → (F_pick v802 v790 v791 v792) = v808 → (F_pick v803 v790 v791 v792) = v812 → (F_numberOfTrailingZeros v785) = v1082 → (F_take_a0_inUse v795 (0 : Int64) (0 : Int64) v785 v1082) = v1102 → (if (1 : Int32) < v785 then (F_take_a0_inUse d797 v1102 (0 : Int64) v785 v1082) else v1102) = d1123 → (if d800 = (0 : Int32) then d1123 else (F_free_a0_inUse v795 d1123 (0 : Int64) v785 v1082)) = d1199 → ¬ (v804 = (0 : Int32)) → ¬ (v804 = (1 : Int32)) → (∀ (v603 : Int64) (v607 : Int64) (v608 : Int64), (shlL (Int32.toInt64 v808) v1082) = v603 → ((F_add1_w_a0_words_g v794 v791 v1082 (Int32.toNatClampNeg (Int64.toInt32 ((F_bytes v786 v785) / (8 : Int64)))) (F_add1_w_a0_words_g v793 v790 v1082 (Int32.toNatClampNeg (Int64.toInt32 ((F_bytes v786 v785) / (8 : Int64)))) (fun _ => (0 : Int64)))) (Int32.toNatClampNeg (Int64.toInt32 (ushrL v603 (6 : Int32))))) = v607 → (d1199 &&& (ushrL v607 (Int64.toInt32 v603))) = v608 → ¬ (v608 = (0 : Int64)) → ¬ (Int64.toInt32 (ushrL (shlL (Int32.toInt64 v812) v1082) (6 : Int32))) < (0 : Int32) ∧ Int32.toNatClampNeg (Int64.toInt32 (ushrL (shlL (Int32.toInt64 v812) v1082) (6 : Int32))) < (Int32.toNatClampNeg (Int64.toInt32 ((F_bytes v786 v785) / (8 : Int64))))) := by
  have T := own_T_of p0
  have B := own_bits p0
  have C1 := own_c p1 _ B.1
  have C2 := own_c p2 _ B.1
  have C3 := own_c p3 _ B.1
  intros; subst_vars
  rw [own_T_ntz T]
  exact own_in T _ _ B.1 B.2 (own_pk _ _ _ _ _ C1 C2 C3).1 (own_pk _ _ _ _ _ C1 C2 C3).2
theorem own_ob_13 (p0 : Int32) (p1 : Int32) (p2 : Int32) (p3 : Int32) (q4 : Int64) (p5 : Int32) : ∀ (v785 : Int32) (v804 : Int32), (shlI (1 : Int32) ((p0 &&& (7 : Int32)) % (7 : Int32))) = v785 → (((ushrI p5 (17 : Int32)) &&& (3 : Int32)) % (3 : Int32)) = v804 → ¬ (v804 = (0 : Int32)) → v804 = (1 : Int32) → (¬ (v785 < (1 : Int32))) := by
  have T := own_T_of p0
  have B := own_bits p0
  have C1 := own_c p1 _ B.1
  have C2 := own_c p2 _ B.1
  have C3 := own_c p3 _ B.1
  intros; subst_vars; exact own_T_lo T
theorem own_ob_14 (p0 : Int32) (p1 : Int32) (p2 : Int32) (p3 : Int32) (q4 : Int64) (p5 : Int32) : ∀ (v785 : Int32) (v804 : Int32), (shlI (1 : Int32) ((p0 &&& (7 : Int32)) % (7 : Int32))) = v785 → (((ushrI p5 (17 : Int32)) &&& (3 : Int32)) % (3 : Int32)) = v804 → ¬ (v804 = (0 : Int32)) → v804 = (1 : Int32) → (¬ ((64 : Int32) < v785)) := by
  have T := own_T_of p0
  have B := own_bits p0
  have C1 := own_c p1 _ B.1
  have C2 := own_c p2 _ B.1
  have C3 := own_c p3 _ B.1
  intros; subst_vars; exact own_T_hi T
theorem own_ob_15 (p0 : Int32) (p1 : Int32) (p2 : Int32) (p3 : Int32) (q4 : Int64) (p5 : Int32) : ∀ (v785 : Int32) (v804 : Int32), (shlI (1 : Int32) ((p0 &&& (7 : Int32)) % (7 : Int32))) = v785 → (((ushrI p5 (17 : Int32)) &&& (3 : Int32)) % (3 : Int32)) = v804 → ¬ (v804 = (0 : Int32)) → v804 = (1 : Int32) → ((F_bitCount v785) = (1 : Int32)) := by
  have T := own_T_of p0
  have B := own_bits p0
  have C1 := own_c p1 _ B.1
  have C2 := own_c p2 _ B.1
  have C3 := own_c p3 _ B.1
  intros; subst_vars; exact own_T_bc T
theorem own_ob_16 (p0 : Int32) (p1 : Int32) (p2 : Int32) (p3 : Int32) (q4 : Int64) (p5 : Int32) : ∀ (v785 : Int32) (v786 : Int32) (v804 : Int32), (shlI (1 : Int32) ((p0 &&& (7 : Int32)) % (7 : Int32))) = v785 → ((1 : Int32) + ((ushrI p0 (3 : Int32)) &&& (4095 : Int32))) = v786 → (((ushrI p5 (17 : Int32)) &&& (3 : Int32)) % (3 : Int32)) = v804 → ¬ (v804 = (0 : Int32)) → v804 = (1 : Int32) → (¬ (Int64.toInt32 ((F_bytes v786 v785) / (8 : Int64))) < (0 : Int32) ∧ (Int32.toNatClampNeg (Int64.toInt32 ((F_bytes v786 v785) / (8 : Int64)))) ≤ 4096) := by
  have T := own_T_of p0
  have B := own_bits p0
  have C1 := own_c p1 _ B.1
  have C2 := own_c p2 _ B.1
  have C3 := own_c p3 _ B.1
  intros; subst_vars; exact own_cap T _ B.1 B.2
theorem own_ob_17 (p0 : Int32) (p1 : Int32) (p2 : Int32) (p3 : Int32) (q4 : Int64) (p5 : Int32) : ∀ (v785 : Int32) (v795 : Int32) (v804 : Int32), (shlI (1 : Int32) ((p0 &&& (7 : Int32)) % (7 : Int32))) = v785 → (p5 &&& (v785 - (1 : Int32))) = v795 → (((ushrI p5 (17 : Int32)) &&& (3 : Int32)) % (3 : Int32)) = v804 → ¬ (v804 = (0 : Int32)) → v804 = (1 : Int32) → (∀ (v431 : Int64), (shlL (1 : Int64) v795) = v431 → ((0 : Int64) &&& v431) = (0 : Int64)) := by
  intros; exact Int64.zero_and
theorem own_ob_18 (p0 : Int32) (p1 : Int32) (p2 : Int32) (p3 : Int32) (q4 : Int64) (p5 : Int32) : ∀ (v785 : Int32) (v795 : Int32) (d797 : Int32) (v804 : Int32) (v1427 : Int32) (v1447 : Int64), (shlI (1 : Int32) ((p0 &&& (7 : Int32)) % (7 : Int32))) = v785 → (p5 &&& (v785 - (1 : Int32))) = v795 → (if (1 : Int32) < v785 then (((v795 + (1 : Int32)) + (((ushrI p5 (6 : Int32)) &&& (63 : Int32)) % (v785 - (1 : Int32)))) &&& (v785 - (1 : Int32))) else v795) = d797 → (((ushrI p5 (17 : Int32)) &&& (3 : Int32)) % (3 : Int32)) = v804 → (F_numberOfTrailingZeros v785) = v1427 → (F_take_a0_inUse v795 (0 : Int64) (0 : Int64) v785 v1427) = v1447 → ¬ (v804 = (0 : Int32)) → v804 = (1 : Int32) → (1 : Int32) < v785 → (∀ (v431 : Int64), (shlL (1 : Int64) d797) = v431 → (v1447 &&& v431) = (0 : Int64)) := by
  have T := own_T_of p0
  intros
  subst_vars
  exact own_ob7 T (by assumption) p5
theorem own_ob_19 (p0 : Int32) (p1 : Int32) (p2 : Int32) (p3 : Int32) (q4 : Int64) (p5 : Int32) : ∀ (v785 : Int32) (v795 : Int32) (d797 : Int32) (v804 : Int32), (shlI (1 : Int32) ((p0 &&& (7 : Int32)) % (7 : Int32))) = v785 → (p5 &&& (v785 - (1 : Int32))) = v795 → (if (1 : Int32) < v785 then (((v795 + (1 : Int32)) + (((ushrI p5 (6 : Int32)) &&& (63 : Int32)) % (v785 - (1 : Int32)))) &&& (v785 - (1 : Int32))) else v795) = d797 → (((ushrI p5 (17 : Int32)) &&& (3 : Int32)) % (3 : Int32)) = v804 → ¬ (v804 = (0 : Int32)) → v804 = (1 : Int32) → (1 : Int32) < v785 → (∀ (v431 : Int64), (shlL (1 : Int64) d797) = v431 → ((0 : Int64) &&& v431) = (0 : Int64)) := by
  intros; exact Int64.zero_and
theorem own_ob_20 (p0 : Int32) (p1 : Int32) (p2 : Int32) (p3 : Int32) (q4 : Int64) (p5 : Int32) : ∀ (v785 : Int32) (v786 : Int32) (v790 : Int32) (v804 : Int32) (v1427 : Int32), (shlI (1 : Int32) ((p0 &&& (7 : Int32)) % (7 : Int32))) = v785 → ((1 : Int32) + ((ushrI p0 (3 : Int32)) &&& (4095 : Int32))) = v786 → ((p1 &&& (2147483647 : Int32)) % v786) = v790 → (((ushrI p5 (17 : Int32)) &&& (3 : Int32)) % (3 : Int32)) = v804 → (F_numberOfTrailingZeros v785) = v1427 → ¬ (v804 = (0 : Int32)) → v804 = (1 : Int32) → (∀ (v510 : Int64), (shlL (Int32.toInt64 v790) v1427) = v510 → ¬ (Int64.toInt32 (ushrL v510 (6 : Int32))) < (0 : Int32) ∧ Int32.toNatClampNeg (Int64.toInt32 (ushrL v510 (6 : Int32))) < (Int32.toNatClampNeg (Int64.toInt32 ((F_bytes v786 v785) / (8 : Int64))))) := by
  have T := own_T_of p0
  have B := own_bits p0
  have C1 := own_c p1 _ B.1
  have C2 := own_c p2 _ B.1
  have C3 := own_c p3 _ B.1
  intros; subst_vars
  rw [own_T_ntz T]
  exact own_in T _ _ B.1 B.2 (C1).1 (C1).2
theorem own_ob_21 (p0 : Int32) (p1 : Int32) (p2 : Int32) (p3 : Int32) (q4 : Int64) (p5 : Int32) : ∀ (v785 : Int32) (v786 : Int32) (v791 : Int32) (v804 : Int32) (v1427 : Int32), (shlI (1 : Int32) ((p0 &&& (7 : Int32)) % (7 : Int32))) = v785 → ((1 : Int32) + ((ushrI p0 (3 : Int32)) &&& (4095 : Int32))) = v786 → ((p2 &&& (2147483647 : Int32)) % v786) = v791 → (((ushrI p5 (17 : Int32)) &&& (3 : Int32)) % (3 : Int32)) = v804 → (F_numberOfTrailingZeros v785) = v1427 → ¬ (v804 = (0 : Int32)) → v804 = (1 : Int32) → (∀ (v510 : Int64), (shlL (Int32.toInt64 v791) v1427) = v510 → ¬ (Int64.toInt32 (ushrL v510 (6 : Int32))) < (0 : Int32) ∧ Int32.toNatClampNeg (Int64.toInt32 (ushrL v510 (6 : Int32))) < (Int32.toNatClampNeg (Int64.toInt32 ((F_bytes v786 v785) / (8 : Int64))))) := by
  have T := own_T_of p0
  have B := own_bits p0
  have C1 := own_c p1 _ B.1
  have C2 := own_c p2 _ B.1
  have C3 := own_c p3 _ B.1
  intros; subst_vars
  rw [own_T_ntz T]
  exact own_in T _ _ B.1 B.2 (C2).1 (C2).2
theorem own_ob_22 (p0 : Int32) (p1 : Int32) (p2 : Int32) (p3 : Int32) (q4 : Int64) (p5 : Int32) : ∀ (v785 : Int32) (v786 : Int32) (v790 : Int32) (v791 : Int32) (v792 : Int32) (v802 : Int32) (v804 : Int32) (v808 : Int32) (v1427 : Int32), (shlI (1 : Int32) ((p0 &&& (7 : Int32)) % (7 : Int32))) = v785 → ((1 : Int32) + ((ushrI p0 (3 : Int32)) &&& (4095 : Int32))) = v786 → ((p1 &&& (2147483647 : Int32)) % v786) = v790 → ((p2 &&& (2147483647 : Int32)) % v786) = v791 → ((p3 &&& (2147483647 : Int32)) % v786) = v792 → (((ushrI p5 (13 : Int32)) &&& (3 : Int32)) % (3 : Int32)) = v802 → (((ushrI p5 (17 : Int32)) &&& (3 : Int32)) % (3 : Int32)) = v804 → (F_pick v802 v790 v791 v792) = v808 → (F_numberOfTrailingZeros v785) = v1427 → ¬ (v804 = (0 : Int32)) → v804 = (1 : Int32) → (∀ (v564 : Int64), (shlL (Int32.toInt64 v808) v1427) = v564 → ¬ (Int64.toInt32 (ushrL v564 (6 : Int32))) < (0 : Int32) ∧ Int32.toNatClampNeg (Int64.toInt32 (ushrL v564 (6 : Int32))) < (Int32.toNatClampNeg (Int64.toInt32 ((F_bytes v786 v785) / (8 : Int64))))) := by
  have T := own_T_of p0
  have B := own_bits p0
  have C1 := own_c p1 _ B.1
  have C2 := own_c p2 _ B.1
  have C3 := own_c p3 _ B.1
  intros; subst_vars
  rw [own_T_ntz T]
  exact own_in T _ _ B.1 B.2 (own_pk _ _ _ _ _ C1 C2 C3).1 (own_pk _ _ _ _ _ C1 C2 C3).2
theorem own_ob_23 (p0 : Int32) (p1 : Int32) (p2 : Int32) (p3 : Int32) (q4 : Int64) (p5 : Int32) : ∀ (v785 : Int32) (v804 : Int32), (shlI (1 : Int32) ((p0 &&& (7 : Int32)) % (7 : Int32))) = v785 → (((ushrI p5 (17 : Int32)) &&& (3 : Int32)) % (3 : Int32)) = v804 → v804 = (0 : Int32) → (¬ (v785 < (1 : Int32))) := by
  have T := own_T_of p0
  have B := own_bits p0
  have C1 := own_c p1 _ B.1
  have C2 := own_c p2 _ B.1
  have C3 := own_c p3 _ B.1
  intros; subst_vars; exact own_T_lo T
theorem own_ob_24 (p0 : Int32) (p1 : Int32) (p2 : Int32) (p3 : Int32) (q4 : Int64) (p5 : Int32) : ∀ (v785 : Int32) (v804 : Int32), (shlI (1 : Int32) ((p0 &&& (7 : Int32)) % (7 : Int32))) = v785 → (((ushrI p5 (17 : Int32)) &&& (3 : Int32)) % (3 : Int32)) = v804 → v804 = (0 : Int32) → (¬ ((64 : Int32) < v785)) := by
  have T := own_T_of p0
  have B := own_bits p0
  have C1 := own_c p1 _ B.1
  have C2 := own_c p2 _ B.1
  have C3 := own_c p3 _ B.1
  intros; subst_vars; exact own_T_hi T
theorem own_ob_25 (p0 : Int32) (p1 : Int32) (p2 : Int32) (p3 : Int32) (q4 : Int64) (p5 : Int32) : ∀ (v785 : Int32) (v804 : Int32), (shlI (1 : Int32) ((p0 &&& (7 : Int32)) % (7 : Int32))) = v785 → (((ushrI p5 (17 : Int32)) &&& (3 : Int32)) % (3 : Int32)) = v804 → v804 = (0 : Int32) → ((F_bitCount v785) = (1 : Int32)) := by
  have T := own_T_of p0
  have B := own_bits p0
  have C1 := own_c p1 _ B.1
  have C2 := own_c p2 _ B.1
  have C3 := own_c p3 _ B.1
  intros; subst_vars; exact own_T_bc T
theorem own_ob_26 (p0 : Int32) (p1 : Int32) (p2 : Int32) (p3 : Int32) (q4 : Int64) (p5 : Int32) : ∀ (v785 : Int32) (v786 : Int32) (v804 : Int32), (shlI (1 : Int32) ((p0 &&& (7 : Int32)) % (7 : Int32))) = v785 → ((1 : Int32) + ((ushrI p0 (3 : Int32)) &&& (4095 : Int32))) = v786 → (((ushrI p5 (17 : Int32)) &&& (3 : Int32)) % (3 : Int32)) = v804 → v804 = (0 : Int32) → (¬ (Int64.toInt32 ((F_bytes v786 v785) / (8 : Int64))) < (0 : Int32) ∧ (Int32.toNatClampNeg (Int64.toInt32 ((F_bytes v786 v785) / (8 : Int64)))) ≤ 4096) := by
  have T := own_T_of p0
  have B := own_bits p0
  have C1 := own_c p1 _ B.1
  have C2 := own_c p2 _ B.1
  have C3 := own_c p3 _ B.1
  intros; subst_vars; exact own_cap T _ B.1 B.2
theorem own_ob_27 (p0 : Int32) (p1 : Int32) (p2 : Int32) (p3 : Int32) (q4 : Int64) (p5 : Int32) : ∀ (v785 : Int32) (v795 : Int32) (v804 : Int32), (shlI (1 : Int32) ((p0 &&& (7 : Int32)) % (7 : Int32))) = v785 → (p5 &&& (v785 - (1 : Int32))) = v795 → (((ushrI p5 (17 : Int32)) &&& (3 : Int32)) % (3 : Int32)) = v804 → v804 = (0 : Int32) → (∀ (v431 : Int64), (shlL (1 : Int64) v795) = v431 → ((0 : Int64) &&& v431) = (0 : Int64)) := by
  intros; exact Int64.zero_and
theorem own_ob_28 (p0 : Int32) (p1 : Int32) (p2 : Int32) (p3 : Int32) (q4 : Int64) (p5 : Int32) : ∀ (v785 : Int32) (v795 : Int32) (d797 : Int32) (v804 : Int32) (v1762 : Int32) (v1782 : Int64), (shlI (1 : Int32) ((p0 &&& (7 : Int32)) % (7 : Int32))) = v785 → (p5 &&& (v785 - (1 : Int32))) = v795 → (if (1 : Int32) < v785 then (((v795 + (1 : Int32)) + (((ushrI p5 (6 : Int32)) &&& (63 : Int32)) % (v785 - (1 : Int32)))) &&& (v785 - (1 : Int32))) else v795) = d797 → (((ushrI p5 (17 : Int32)) &&& (3 : Int32)) % (3 : Int32)) = v804 → (F_numberOfTrailingZeros v785) = v1762 → (F_take_a0_inUse v795 (0 : Int64) (0 : Int64) v785 v1762) = v1782 → v804 = (0 : Int32) → (1 : Int32) < v785 → (∀ (v431 : Int64), (shlL (1 : Int64) d797) = v431 → (v1782 &&& v431) = (0 : Int64)) := by
  have T := own_T_of p0
  intros
  subst_vars
  exact own_ob7 T (by assumption) p5
theorem own_ob_29 (p0 : Int32) (p1 : Int32) (p2 : Int32) (p3 : Int32) (q4 : Int64) (p5 : Int32) : ∀ (v785 : Int32) (v795 : Int32) (d797 : Int32) (v804 : Int32), (shlI (1 : Int32) ((p0 &&& (7 : Int32)) % (7 : Int32))) = v785 → (p5 &&& (v785 - (1 : Int32))) = v795 → (if (1 : Int32) < v785 then (((v795 + (1 : Int32)) + (((ushrI p5 (6 : Int32)) &&& (63 : Int32)) % (v785 - (1 : Int32)))) &&& (v785 - (1 : Int32))) else v795) = d797 → (((ushrI p5 (17 : Int32)) &&& (3 : Int32)) % (3 : Int32)) = v804 → v804 = (0 : Int32) → (1 : Int32) < v785 → (∀ (v431 : Int64), (shlL (1 : Int64) d797) = v431 → ((0 : Int64) &&& v431) = (0 : Int64)) := by
  intros; exact Int64.zero_and
theorem own_ob_30 (p0 : Int32) (p1 : Int32) (p2 : Int32) (p3 : Int32) (q4 : Int64) (p5 : Int32) : ∀ (v785 : Int32) (v786 : Int32) (v790 : Int32) (v804 : Int32) (v1762 : Int32), (shlI (1 : Int32) ((p0 &&& (7 : Int32)) % (7 : Int32))) = v785 → ((1 : Int32) + ((ushrI p0 (3 : Int32)) &&& (4095 : Int32))) = v786 → ((p1 &&& (2147483647 : Int32)) % v786) = v790 → (((ushrI p5 (17 : Int32)) &&& (3 : Int32)) % (3 : Int32)) = v804 → (F_numberOfTrailingZeros v785) = v1762 → v804 = (0 : Int32) → (∀ (v510 : Int64), (shlL (Int32.toInt64 v790) v1762) = v510 → ¬ (Int64.toInt32 (ushrL v510 (6 : Int32))) < (0 : Int32) ∧ Int32.toNatClampNeg (Int64.toInt32 (ushrL v510 (6 : Int32))) < (Int32.toNatClampNeg (Int64.toInt32 ((F_bytes v786 v785) / (8 : Int64))))) := by
  have T := own_T_of p0
  have B := own_bits p0
  have C1 := own_c p1 _ B.1
  have C2 := own_c p2 _ B.1
  have C3 := own_c p3 _ B.1
  intros; subst_vars
  rw [own_T_ntz T]
  exact own_in T _ _ B.1 B.2 (C1).1 (C1).2
theorem own_ob_31 (p0 : Int32) (p1 : Int32) (p2 : Int32) (p3 : Int32) (q4 : Int64) (p5 : Int32) : ∀ (v785 : Int32) (v786 : Int32) (v791 : Int32) (v804 : Int32) (v1762 : Int32), (shlI (1 : Int32) ((p0 &&& (7 : Int32)) % (7 : Int32))) = v785 → ((1 : Int32) + ((ushrI p0 (3 : Int32)) &&& (4095 : Int32))) = v786 → ((p2 &&& (2147483647 : Int32)) % v786) = v791 → (((ushrI p5 (17 : Int32)) &&& (3 : Int32)) % (3 : Int32)) = v804 → (F_numberOfTrailingZeros v785) = v1762 → v804 = (0 : Int32) → (∀ (v510 : Int64), (shlL (Int32.toInt64 v791) v1762) = v510 → ¬ (Int64.toInt32 (ushrL v510 (6 : Int32))) < (0 : Int32) ∧ Int32.toNatClampNeg (Int64.toInt32 (ushrL v510 (6 : Int32))) < (Int32.toNatClampNeg (Int64.toInt32 ((F_bytes v786 v785) / (8 : Int64))))) := by
  have T := own_T_of p0
  have B := own_bits p0
  have C1 := own_c p1 _ B.1
  have C2 := own_c p2 _ B.1
  have C3 := own_c p3 _ B.1
  intros; subst_vars
  rw [own_T_ntz T]
  exact own_in T _ _ B.1 B.2 (C2).1 (C2).2
set_option maxRecDepth 65536 in
set_option maxHeartbeats 40000000 in
theorem rm0 (l : Launch) (Z : State) (az : Array Value) (hw : ∀ d ∈ tables_1, d.before az Z = true) (ws : List Jvm.Cond) (p0 : Int32) (p1 : Int32) (p2 : Int32) (p3 : Int32) (q4 : Int64) (p5 : Int32) (h0 : Heap) (n0 : Nat) (Z0 : n0 ≤ h0.size) :
    Met l x code maxLocals ret ws room_1 Z #[(.int p0), (.int p1), (.int p2), (.int p3), (.long q4), (.int p5)] h0 (fun v h' L => v = some (Value.int (F_law p0 p1 p2 p3 q4 p5)) ∧ Fr n0 L) := by
  refine enter (plainFor_of_name pn_0) (ef_0 p0 p1 p2 p3 q4 p5) ?_
  intro p e s m below meth c T0 kc kn Q hkc hkn hQ K' X0 e0
  have K : Fx p s m meth c code 36 "com/example/dayflower/dayflower/filter/FilterSlabHoldingPinLaw" "law" (some .boolean) Z := K'
  have N0 := Fr.nil n0
  have K0 : Keep h0 h0 [] := Keep.refl _ _
  refine k_iconst K X0 at_0 (v := (1 : Int32)) rfl (q := 1) rfl ?_
  refine k_iloadN K X0 at_1 rfl (q := 2) rfl ?_
  refine k_bipush K X0 at_2 (v := (7 : Int32)) rfl (q := 4) rfl ?_
  refine k_iand K X0 at_4 (q := 5) rfl ?_
  refine k_bipush K X0 at_5 (v := (7 : Int32)) rfl (q := 7) rfl ?_
  refine k_irem K X0 at_7 (by decide) (q := 8) rfl ?_
  refine k_ishl K X0 at_8 (q := 9) rfl ?_
  obtain ⟨v785, hv_v785⟩ : ∃ z : Int32, (shlI (1 : Int32) ((p0 &&& (7 : Int32)) % (7 : Int32))) = z := ⟨_, rfl⟩
  refine k_istore K X0 at_9 hv_v785 (Ls' := #[.val (.int p0), .val (.int p1), .val (.int p2), .val (.int p3), .val (.long q4), .second, .val (.int p5), .val (.int v785), .unset, .unset, .unset, .unset, .unset, .unset, .unset, .unset, .unset, .unset, .unset, .unset, .unset, .unset, .unset, .unset, .unset, .unset, .unset, .unset, .unset, .unset, .unset, .unset, .unset, .unset, .unset, .unset]) rfl (q := 11) rfl ?_
  refine k_iconst K X0 at_11 (v := (1 : Int32)) rfl (q := 12) rfl ?_
  refine k_iloadN K X0 at_12 rfl (q := 13) rfl ?_
  refine k_iconst K X0 at_13 (v := (3 : Int32)) rfl (q := 14) rfl ?_
  refine k_iushr K X0 at_14 (q := 15) rfl ?_
  refine k_sipush K X0 at_15 (v := (4095 : Int32)) rfl (q := 18) rfl ?_
  refine k_iand K X0 at_18 (q := 19) rfl ?_
  refine k_iadd K X0 at_19 (q := 20) rfl ?_
  obtain ⟨v786, hv_v786⟩ : ∃ z : Int32, ((1 : Int32) + ((ushrI p0 (3 : Int32)) &&& (4095 : Int32))) = z := ⟨_, rfl⟩
  refine k_istore K X0 at_20 hv_v786 (Ls' := #[.val (.int p0), .val (.int p1), .val (.int p2), .val (.int p3), .val (.long q4), .second, .val (.int p5), .val (.int v785), .val (.int v786), .unset, .unset, .unset, .unset, .unset, .unset, .unset, .unset, .unset, .unset, .unset, .unset, .unset, .unset, .unset, .unset, .unset, .unset, .unset, .unset, .unset, .unset, .unset, .unset, .unset, .unset, .unset]) rfl (q := 22) rfl ?_
  refine k_iload K X0 at_22 rfl (q := 24) rfl ?_
  refine k_bipush K X0 at_24 (v := (64 : Int32)) rfl (q := 26) rfl ?_
  have J789 : ∀ (d788 : Int64), (if v785 = (64 : Int32) then (-1 : Int64) else ((shlL (1 : Int64) v785) - (1 : Int64))) = d788 → Run p e below s kc kn Q T0 (mkF m 41 #[.val (.int p0), .val (.int p1), .val (.int p2), .val (.int p3), .val (.long q4), .second, .val (.int p5), .val (.int v785), .val (.int v786), .unset, .unset, .unset, .unset, .unset, .unset, .unset, .unset, .unset, .unset, .unset, .unset, .unset, .unset, .unset, .unset, .unset, .unset, .unset, .unset, .unset, .unset, .unset, .unset, .unset, .unset, .unset] [(.long d788)]) := by
    intro d788 hv_d788
    refine k_lstore K X0 at_41 rfl (Ls' := #[.val (.int p0), .val (.int p1), .val (.int p2), .val (.int p3), .val (.long q4), .second, .val (.int p5), .val (.int v785), .val (.int v786), .val (.long d788), .second, .unset, .unset, .unset, .unset, .unset, .unset, .unset, .unset, .unset, .unset, .unset, .unset, .unset, .unset, .unset, .unset, .unset, .unset, .unset, .unset, .unset, .unset, .unset, .unset, .unset]) rfl (q := 43) rfl ?_
    refine k_iloadN K X0 at_43 rfl (q := 44) rfl ?_
    refine k_ldc K X0 at_44 (wd hw 0 rfl) (q := 46) rfl ?_
    refine k_iand K X0 at_46 (q := 47) rfl ?_
    refine k_iload K X0 at_47 rfl (q := 49) rfl ?_
    refine k_irem K X0 at_49 (own_ob_0 p0 p1 p2 p3 q4 p5 v786 hv_v786) (q := 50) rfl ?_
    obtain ⟨v790, hv_v790⟩ : ∃ z : Int32, ((p1 &&& (2147483647 : Int32)) % v786) = z := ⟨_, rfl⟩
    refine k_istore K X0 at_50 hv_v790 (Ls' := #[.val (.int p0), .val (.int p1), .val (.int p2), .val (.int p3), .val (.long q4), .second, .val (.int p5), .val (.int v785), .val (.int v786), .val (.long d788), .second, .val (.int v790), .unset, .unset, .unset, .unset, .unset, .unset, .unset, .unset, .unset, .unset, .unset, .unset, .unset, .unset, .unset, .unset, .unset, .unset, .unset, .unset, .unset, .unset, .unset, .unset]) rfl (q := 52) rfl ?_
    refine k_iloadN K X0 at_52 rfl (q := 53) rfl ?_
    refine k_ldc K X0 at_53 (wd hw 0 rfl) (q := 55) rfl ?_
    refine k_iand K X0 at_55 (q := 56) rfl ?_
    refine k_iload K X0 at_56 rfl (q := 58) rfl ?_
    refine k_irem K X0 at_58 (own_ob_0 p0 p1 p2 p3 q4 p5 v786 hv_v786) (q := 59) rfl ?_
    obtain ⟨v791, hv_v791⟩ : ∃ z : Int32, ((p2 &&& (2147483647 : Int32)) % v786) = z := ⟨_, rfl⟩
    refine k_istore K X0 at_59 hv_v791 (Ls' := #[.val (.int p0), .val (.int p1), .val (.int p2), .val (.int p3), .val (.long q4), .second, .val (.int p5), .val (.int v785), .val (.int v786), .val (.long d788), .second, .val (.int v790), .val (.int v791), .unset, .unset, .unset, .unset, .unset, .unset, .unset, .unset, .unset, .unset, .unset, .unset, .unset, .unset, .unset, .unset, .unset, .unset, .unset, .unset, .unset, .unset, .unset]) rfl (q := 61) rfl ?_
    refine k_iloadN K X0 at_61 rfl (q := 62) rfl ?_
    refine k_ldc K X0 at_62 (wd hw 0 rfl) (q := 64) rfl ?_
    refine k_iand K X0 at_64 (q := 65) rfl ?_
    refine k_iload K X0 at_65 rfl (q := 67) rfl ?_
    refine k_irem K X0 at_67 (own_ob_0 p0 p1 p2 p3 q4 p5 v786 hv_v786) (q := 68) rfl ?_
    obtain ⟨v792, hv_v792⟩ : ∃ z : Int32, ((p3 &&& (2147483647 : Int32)) % v786) = z := ⟨_, rfl⟩
    refine k_istore K X0 at_68 hv_v792 (Ls' := #[.val (.int p0), .val (.int p1), .val (.int p2), .val (.int p3), .val (.long q4), .second, .val (.int p5), .val (.int v785), .val (.int v786), .val (.long d788), .second, .val (.int v790), .val (.int v791), .val (.int v792), .unset, .unset, .unset, .unset, .unset, .unset, .unset, .unset, .unset, .unset, .unset, .unset, .unset, .unset, .unset, .unset, .unset, .unset, .unset, .unset, .unset, .unset]) rfl (q := 70) rfl ?_
    refine k_lload K X0 at_70 rfl (q := 72) rfl ?_
    refine k_lload K X0 at_72 rfl (q := 74) rfl ?_
    refine k_land K X0 at_74 (q := 75) rfl ?_
    obtain ⟨v793, hv_v793⟩ : ∃ z : Int64, (q4 &&& d788) = z := ⟨_, rfl⟩
    refine k_lstore K X0 at_75 hv_v793 (Ls' := #[.val (.int p0), .val (.int p1), .val (.int p2), .val (.int p3), .val (.long q4), .second, .val (.int p5), .val (.int v785), .val (.int v786), .val (.long d788), .second, .val (.int v790), .val (.int v791), .val (.int v792), .val (.long v793), .second, .unset, .unset, .unset, .unset, .unset, .unset, .unset, .unset, .unset, .unset, .unset, .unset, .unset, .unset, .unset, .unset, .unset, .unset, .unset, .unset]) rfl (q := 77) rfl ?_
    refine k_lload K X0 at_77 rfl (q := 79) rfl ?_
    refine k_bipush K X0 at_79 (v := (17 : Int32)) rfl (q := 81) rfl ?_
    refine k_lushr K X0 at_81 (q := 82) rfl ?_
    refine k_lload K X0 at_82 rfl (q := 84) rfl ?_
    refine k_bipush K X0 at_84 (v := (47 : Int32)) rfl (q := 86) rfl ?_
    refine k_lshl K X0 at_86 (q := 87) rfl ?_
    refine k_lor K X0 at_87 (q := 88) rfl ?_
    refine k_lload K X0 at_88 rfl (q := 90) rfl ?_
    refine k_land K X0 at_90 (q := 91) rfl ?_
    obtain ⟨v794, hv_v794⟩ : ∃ z : Int64, (((ushrL q4 (17 : Int32)) ||| (shlL q4 (47 : Int32))) &&& d788) = z := ⟨_, rfl⟩
    refine k_lstore K X0 at_91 hv_v794 (Ls' := #[.val (.int p0), .val (.int p1), .val (.int p2), .val (.int p3), .val (.long q4), .second, .val (.int p5), .val (.int v785), .val (.int v786), .val (.long d788), .second, .val (.int v790), .val (.int v791), .val (.int v792), .val (.long v793), .second, .val (.long v794), .second, .unset, .unset, .unset, .unset, .unset, .unset, .unset, .unset, .unset, .unset, .unset, .unset, .unset, .unset, .unset, .unset, .unset, .unset]) rfl (q := 93) rfl ?_
    refine k_iload K X0 at_93 rfl (q := 95) rfl ?_
    refine k_iload K X0 at_95 rfl (q := 97) rfl ?_
    refine k_iconst K X0 at_97 (v := (1 : Int32)) rfl (q := 98) rfl ?_
    refine k_isub K X0 at_98 (q := 99) rfl ?_
    refine k_iand K X0 at_99 (q := 100) rfl ?_
    obtain ⟨v795, hv_v795⟩ : ∃ z : Int32, (p5 &&& (v785 - (1 : Int32))) = z := ⟨_, rfl⟩
    refine k_istore K X0 at_100 hv_v795 (Ls' := #[.val (.int p0), .val (.int p1), .val (.int p2), .val (.int p3), .val (.long q4), .second, .val (.int p5), .val (.int v785), .val (.int v786), .val (.long d788), .second, .val (.int v790), .val (.int v791), .val (.int v792), .val (.long v793), .second, .val (.long v794), .second, .val (.int v795), .unset, .unset, .unset, .unset, .unset, .unset, .unset, .unset, .unset, .unset, .unset, .unset, .unset, .unset, .unset, .unset, .unset]) rfl (q := 102) rfl ?_
    refine k_iload K X0 at_102 rfl (q := 104) rfl ?_
    refine k_istore K X0 at_104 rfl (Ls' := #[.val (.int p0), .val (.int p1), .val (.int p2), .val (.int p3), .val (.long q4), .second, .val (.int p5), .val (.int v785), .val (.int v786), .val (.long d788), .second, .val (.int v790), .val (.int v791), .val (.int v792), .val (.long v793), .second, .val (.long v794), .second, .val (.int v795), .val (.int v795), .unset, .unset, .unset, .unset, .unset, .unset, .unset, .unset, .unset, .unset, .unset, .unset, .unset, .unset, .unset, .unset]) rfl (q := 106) rfl ?_
    refine k_iload K X0 at_106 rfl (q := 108) rfl ?_
    refine k_iconst K X0 at_108 (v := (1 : Int32)) rfl (q := 109) rfl ?_
    have J798 : ∀ (d797 : Int32), (if (1 : Int32) < v785 then (((v795 + (1 : Int32)) + (((ushrI p5 (6 : Int32)) &&& (63 : Int32)) % (v785 - (1 : Int32)))) &&& (v785 - (1 : Int32))) else v795) = d797 → Run p e below s kc kn Q T0 (mkF m 137 #[.val (.int p0), .val (.int p1), .val (.int p2), .val (.int p3), .val (.long q4), .second, .val (.int p5), .val (.int v785), .val (.int v786), .val (.long d788), .second, .val (.int v790), .val (.int v791), .val (.int v792), .val (.long v793), .second, .val (.long v794), .second, .val (.int v795), .val (.int d797), .unset, .unset, .unset, .unset, .unset, .unset, .unset, .unset, .unset, .unset, .unset, .unset, .unset, .unset, .unset, .unset] []) := by
      intro d797 hv_d797
      refine k_iload K X0 at_137 rfl (q := 139) rfl ?_
      refine k_bipush K X0 at_139 (v := (12 : Int32)) rfl (q := 141) rfl ?_
      refine k_iushr K X0 at_141 (q := 142) rfl ?_
      refine k_iconst K X0 at_142 (v := (1 : Int32)) rfl (q := 143) rfl ?_
      refine k_iand K X0 at_143 (q := 144) rfl ?_
      have J801 : ∀ (d800 : Int32), (if ((ushrI p5 (12 : Int32)) &&& (1 : Int32)) = (0 : Int32) then (0 : Int32) else (1 : Int32)) = d800 → Run p e below s kc kn Q T0 (mkF m 152 #[.val (.int p0), .val (.int p1), .val (.int p2), .val (.int p3), .val (.long q4), .second, .val (.int p5), .val (.int v785), .val (.int v786), .val (.long d788), .second, .val (.int v790), .val (.int v791), .val (.int v792), .val (.long v793), .second, .val (.long v794), .second, .val (.int v795), .val (.int d797), .unset, .unset, .unset, .unset, .unset, .unset, .unset, .unset, .unset, .unset, .unset, .unset, .unset, .unset, .unset, .unset] [(.int d800)]) := by
        intro d800 hv_d800
        refine k_istore K X0 at_152 rfl (Ls' := #[.val (.int p0), .val (.int p1), .val (.int p2), .val (.int p3), .val (.long q4), .second, .val (.int p5), .val (.int v785), .val (.int v786), .val (.long d788), .second, .val (.int v790), .val (.int v791), .val (.int v792), .val (.long v793), .second, .val (.long v794), .second, .val (.int v795), .val (.int d797), .val (.int d800), .unset, .unset, .unset, .unset, .unset, .unset, .unset, .unset, .unset, .unset, .unset, .unset, .unset, .unset, .unset]) rfl (q := 154) rfl ?_
        refine k_iload K X0 at_154 rfl (q := 156) rfl ?_
        refine k_bipush K X0 at_156 (v := (13 : Int32)) rfl (q := 158) rfl ?_
        refine k_iushr K X0 at_158 (q := 159) rfl ?_
        refine k_iconst K X0 at_159 (v := (3 : Int32)) rfl (q := 160) rfl ?_
        refine k_iand K X0 at_160 (q := 161) rfl ?_
        refine k_iconst K X0 at_161 (v := (3 : Int32)) rfl (q := 162) rfl ?_
        refine k_irem K X0 at_162 (by decide) (q := 163) rfl ?_
        obtain ⟨v802, hv_v802⟩ : ∃ z : Int32, (((ushrI p5 (13 : Int32)) &&& (3 : Int32)) % (3 : Int32)) = z := ⟨_, rfl⟩
        refine k_istore K X0 at_163 hv_v802 (Ls' := #[.val (.int p0), .val (.int p1), .val (.int p2), .val (.int p3), .val (.long q4), .second, .val (.int p5), .val (.int v785), .val (.int v786), .val (.long d788), .second, .val (.int v790), .val (.int v791), .val (.int v792), .val (.long v793), .second, .val (.long v794), .second, .val (.int v795), .val (.int d797), .val (.int d800), .val (.int v802), .unset, .unset, .unset, .unset, .unset, .unset, .unset, .unset, .unset, .unset, .unset, .unset, .unset, .unset]) rfl (q := 165) rfl ?_
        refine k_iload K X0 at_165 rfl (q := 167) rfl ?_
        refine k_bipush K X0 at_167 (v := (15 : Int32)) rfl (q := 169) rfl ?_
        refine k_iushr K X0 at_169 (q := 170) rfl ?_
        refine k_iconst K X0 at_170 (v := (3 : Int32)) rfl (q := 171) rfl ?_
        refine k_iand K X0 at_171 (q := 172) rfl ?_
        refine k_iconst K X0 at_172 (v := (3 : Int32)) rfl (q := 173) rfl ?_
        refine k_irem K X0 at_173 (by decide) (q := 174) rfl ?_
        obtain ⟨v803, hv_v803⟩ : ∃ z : Int32, (((ushrI p5 (15 : Int32)) &&& (3 : Int32)) % (3 : Int32)) = z := ⟨_, rfl⟩
        refine k_istore K X0 at_174 hv_v803 (Ls' := #[.val (.int p0), .val (.int p1), .val (.int p2), .val (.int p3), .val (.long q4), .second, .val (.int p5), .val (.int v785), .val (.int v786), .val (.long d788), .second, .val (.int v790), .val (.int v791), .val (.int v792), .val (.long v793), .second, .val (.long v794), .second, .val (.int v795), .val (.int d797), .val (.int d800), .val (.int v802), .val (.int v803), .unset, .unset, .unset, .unset, .unset, .unset, .unset, .unset, .unset, .unset, .unset, .unset, .unset]) rfl (q := 176) rfl ?_
        refine k_iload K X0 at_176 rfl (q := 178) rfl ?_
        refine k_bipush K X0 at_178 (v := (17 : Int32)) rfl (q := 180) rfl ?_
        refine k_iushr K X0 at_180 (q := 181) rfl ?_
        refine k_iconst K X0 at_181 (v := (3 : Int32)) rfl (q := 182) rfl ?_
        refine k_iand K X0 at_182 (q := 183) rfl ?_
        refine k_iconst K X0 at_183 (v := (3 : Int32)) rfl (q := 184) rfl ?_
        refine k_irem K X0 at_184 (by decide) (q := 185) rfl ?_
        obtain ⟨v804, hv_v804⟩ : ∃ z : Int32, (((ushrI p5 (17 : Int32)) &&& (3 : Int32)) % (3 : Int32)) = z := ⟨_, rfl⟩
        refine k_istore K X0 at_185 hv_v804 (Ls' := #[.val (.int p0), .val (.int p1), .val (.int p2), .val (.int p3), .val (.long q4), .second, .val (.int p5), .val (.int v785), .val (.int v786), .val (.long d788), .second, .val (.int v790), .val (.int v791), .val (.int v792), .val (.long v793), .second, .val (.long v794), .second, .val (.int v795), .val (.int d797), .val (.int d800), .val (.int v802), .val (.int v803), .val (.int v804), .unset, .unset, .unset, .unset, .unset, .unset, .unset, .unset, .unset, .unset, .unset, .unset]) rfl (q := 187) rfl ?_
        refine k_iload K X0 at_187 rfl (q := 189) rfl ?_
        refine k_iload K X0 at_189 rfl (q := 191) rfl ?_
        refine k_iload K X0 at_191 rfl (q := 193) rfl ?_
        refine k_iload K X0 at_193 rfl (q := 195) rfl ?_
        refine k_staticP K X0 e0 at_195 (wd hw 1 rfl) (wd hw 2 rfl) (wd hw 3 rfl) (wd hw 4 rfl) (by decide) (rm1 l Z az hw [] v802 v790 v791 v792 h0) (W := 0) (by decide) (by decide) (by decide) (by decide) rfl pd_2 (argsL := [(.int v802), (.int v790), (.int v791), (.int v792)]) (rest := []) rfl rfl rfl (Nat.le_of_eq rfl) (q := 198) rfl ?_
        intro T805 X806 e807
        obtain ⟨v808, hv_v808⟩ : ∃ z : Int32, (F_pick v802 v790 v791 v792) = z := ⟨_, rfl⟩
        refine k_istore K X806 at_198 hv_v808 (Ls' := #[.val (.int p0), .val (.int p1), .val (.int p2), .val (.int p3), .val (.long q4), .second, .val (.int p5), .val (.int v785), .val (.int v786), .val (.long d788), .second, .val (.int v790), .val (.int v791), .val (.int v792), .val (.long v793), .second, .val (.long v794), .second, .val (.int v795), .val (.int d797), .val (.int d800), .val (.int v802), .val (.int v803), .val (.int v804), .val (.int v808), .unset, .unset, .unset, .unset, .unset, .unset, .unset, .unset, .unset, .unset, .unset]) rfl (q := 200) rfl ?_
        refine k_iload K X806 at_200 rfl (q := 202) rfl ?_
        refine k_iload K X806 at_202 rfl (q := 204) rfl ?_
        refine k_iload K X806 at_204 rfl (q := 206) rfl ?_
        refine k_iload K X806 at_206 rfl (q := 208) rfl ?_
        refine k_staticP K X806 e807 at_208 (wd hw 1 rfl) (wd hw 2 rfl) (wd hw 3 rfl) (wd hw 4 rfl) (by decide) (rm1 l Z az hw [] v803 v790 v791 v792 h0) (W := 0) (by decide) (by decide) (by decide) (by decide) rfl pd_2 (argsL := [(.int v803), (.int v790), (.int v791), (.int v792)]) (rest := []) rfl rfl rfl (Nat.le_of_eq rfl) (q := 211) rfl ?_
        intro T809 X810 e811
        obtain ⟨v812, hv_v812⟩ : ∃ z : Int32, (F_pick v803 v790 v791 v792) = z := ⟨_, rfl⟩
        refine k_istore K X810 at_211 hv_v812 (Ls' := #[.val (.int p0), .val (.int p1), .val (.int p2), .val (.int p3), .val (.long q4), .second, .val (.int p5), .val (.int v785), .val (.int v786), .val (.long d788), .second, .val (.int v790), .val (.int v791), .val (.int v792), .val (.long v793), .second, .val (.long v794), .second, .val (.int v795), .val (.int d797), .val (.int d800), .val (.int v802), .val (.int v803), .val (.int v804), .val (.int v808), .val (.int v812), .unset, .unset, .unset, .unset, .unset, .unset, .unset, .unset, .unset, .unset]) rfl (q := 213) rfl ?_
        refine k_iload K X810 at_213 rfl (q := 215) rfl ?_
        refine k_if_ne K X810 at_215 (by decide) (q := 226) rfl (q' := 218) rfl ?_ ?_
        · intro hc884
          refine k_iload K X810 at_226 rfl (q := 228) rfl ?_
          refine k_iconst K X810 at_228 (v := (1 : Int32)) rfl (q := 229) rfl ?_
          refine k_icmp_ne K X810 at_229 (by decide) (q := 245) rfl (q' := 232) rfl ?_ ?_
          · intro hc942
            refine k_iconst K X810 at_245 (v := (2 : Int32)) rfl (q := 246) rfl ?_
            refine k_newarray K X810 e811 at_246 (ty := .int) rfl (wd hw 5 rfl) (n := 2) (cap := 2) (by decide) (by decide) (by decide) (by decide) (by decide) (q := 248) rfl ?_
            intro T943 h944 b945 X946 e947 g948 E949 A950 
            have ge951 : n0 ≤ b945 := Nat.le_trans Z0 (Nat.le_of_eq g948.symm)
            have bn952 : h0.size ≤ b945 := Nat.le_trans K0.1 (Nat.le_of_eq g948.symm)
            have K953 := Keep.ext K0 E949
            have Z954 := Nat.le_trans Z0 E949.1
            have f955 : Ary Z h944 b945 .int 2 (fun i => Value.int (List.getD [(0 : Int32), (0 : Int32)] i 0)) := Ary.eqv A950 (by intro i hi; match i, hi with | 0, _ => rfl | 1, _ => rfl | (k + 2), hi => exact absurd hi (by omega))
            refine k_dup K X946 at_248 rfl (q := 249) rfl ?_
            refine k_iconst K X946 at_249 (v := (0 : Int32)) rfl (q := 250) rfl ?_
            refine k_iload K X946 at_250 rfl (q := 252) rfl ?_
            refine k_iastore K X946 e947 at_252 f955 (i := 0) (by decide) (by decide) (q := 253) rfl ?_
            intro T956 h957 X958 e959 W960 A961
            have f962 : Ary Z h957 b945 .int 2 (fun i => Value.int (List.getD [v808, (0 : Int32)] i 0)) := Ary.eqv A961 (fun i _ => setD Value.int [(0 : Int32), (0 : Int32)] 0 v808 0 (Nat.le_of_ble_eq_true rfl) i)
            have N963 := Fr.snoc X958 N0 ge951
            have K964 := Keep.wr K953 W960 (Or.inr bn952)
            have Z965 := Nat.le_trans Z954 (Nat.le_of_eq (Wr.size W960).symm)
            refine k_dup K X958 at_253 rfl (q := 254) rfl ?_
            refine k_iconst K X958 at_254 (v := (1 : Int32)) rfl (q := 255) rfl ?_
            refine k_iload K X958 at_255 rfl (q := 257) rfl ?_
            refine k_iastore K X958 e959 at_257 f962 (i := 1) (by decide) (by decide) (q := 258) rfl ?_
            intro T966 h967 X968 e969 W970 A971
            have f972 : Ary Z h967 b945 .int 2 (fun i => Value.int (List.getD [v808, v812] i 0)) := Ary.eqv A971 (fun i _ => setD Value.int [v808, (0 : Int32)] 1 v812 0 (Nat.le_of_ble_eq_true rfl) i)
            have N973 := Fr.snoc X968 N963 ge951
            have K974 := Keep.wr K964 W970 (Or.inr bn952)
            have Z975 := Nat.le_trans Z965 (Nat.le_of_eq (Wr.size W970).symm)
            refine k_astore K X968 at_258 rfl (Ls' := #[.val (.int p0), .val (.int p1), .val (.int p2), .val (.int p3), .val (.long q4), .second, .val (.int p5), .val (.int v785), .val (.int v786), .val (.long d788), .second, .val (.int v790), .val (.int v791), .val (.int v792), .val (.long v793), .second, .val (.long v794), .second, .val (.int v795), .val (.int d797), .val (.int d800), .val (.int v802), .val (.int v803), .val (.int v804), .val (.int v808), .val (.int v812), .val (.ref b945), .unset, .unset, .unset, .unset, .unset, .unset, .unset, .unset, .unset]) rfl (q := 260) rfl ?_
            refine k_iconst K X968 at_260 (v := (1 : Int32)) rfl (q := 261) rfl ?_
            refine k_newarray K X968 e969 at_261 (ty := .int) rfl (wd hw 5 rfl) (n := 1) (cap := 1) (by decide) (by decide) (by decide) (by decide) (by decide) (q := 263) rfl ?_
            intro T976 h977 b978 X979 e980 g981 E982 A983 
            have ne984 : b945 ≠ b978 := Nat.ne_of_lt (Nat.lt_of_lt_of_eq (f972).lt g981.symm)
            have ge985 : n0 ≤ b978 := Nat.le_trans Z975 (Nat.le_of_eq g981.symm)
            have bn986 : h0.size ≤ b978 := Nat.le_trans K974.1 (Nat.le_of_eq g981.symm)
            have f987 := Ary.ext f972 E982
            have K988 := Keep.ext K974 E982
            have Z989 := Nat.le_trans Z975 E982.1
            have f990 : Ary Z h977 b978 .int 1 (fun i => Value.int (List.getD [(0 : Int32)] i 0)) := Ary.eqv A983 (by intro i hi; match i, hi with | 0, _ => rfl | (k + 1), hi => exact absurd hi (by omega))
            refine k_dup K X979 at_263 rfl (q := 264) rfl ?_
            refine k_iconst K X979 at_264 (v := (0 : Int32)) rfl (q := 265) rfl ?_
            refine k_iload K X979 at_265 rfl (q := 267) rfl ?_
            refine k_iastore K X979 e980 at_267 f990 (i := 0) (by decide) (by decide) (q := 268) rfl ?_
            intro T991 h992 X993 e994 W995 A996
            have f997 : Ary Z h992 b978 .int 1 (fun i => Value.int (List.getD [v790] i 0)) := Ary.eqv A996 (fun i _ => setD Value.int [(0 : Int32)] 0 v790 0 (Nat.le_of_ble_eq_true rfl) i)
            have f998 := Ary.other f987 W995 ne984
            have N999 := Fr.snoc X993 N973 ge985
            have K1000 := Keep.wr K988 W995 (Or.inr bn986)
            have Z1001 := Nat.le_trans Z989 (Nat.le_of_eq (Wr.size W995).symm)
            refine k_astore K X993 at_268 rfl (Ls' := #[.val (.int p0), .val (.int p1), .val (.int p2), .val (.int p3), .val (.long q4), .second, .val (.int p5), .val (.int v785), .val (.int v786), .val (.long d788), .second, .val (.int v790), .val (.int v791), .val (.int v792), .val (.long v793), .second, .val (.long v794), .second, .val (.int v795), .val (.int d797), .val (.int d800), .val (.int v802), .val (.int v803), .val (.int v804), .val (.int v808), .val (.int v812), .val (.ref b945), .val (.ref b978), .unset, .unset, .unset, .unset, .unset, .unset, .unset, .unset]) rfl (q := 270) rfl ?_
            refine k_iconst K X993 at_270 (v := (1 : Int32)) rfl (q := 271) rfl ?_
            refine k_newarray K X993 e994 at_271 (ty := .int) rfl (wd hw 5 rfl) (n := 1) (cap := 1) (by decide) (by decide) (by decide) (by decide) (by decide) (q := 273) rfl ?_
            intro T1002 h1003 b1004 X1005 e1006 g1007 E1008 A1009 
            have ne1010 : b945 ≠ b1004 := Nat.ne_of_lt (Nat.lt_of_lt_of_eq (f998).lt g1007.symm)
            have ne1011 : b978 ≠ b1004 := Nat.ne_of_lt (Nat.lt_of_lt_of_eq (f997).lt g1007.symm)
            have ge1012 : n0 ≤ b1004 := Nat.le_trans Z1001 (Nat.le_of_eq g1007.symm)
            have bn1013 : h0.size ≤ b1004 := Nat.le_trans K1000.1 (Nat.le_of_eq g1007.symm)
            have f1014 := Ary.ext f998 E1008
            have f1015 := Ary.ext f997 E1008
            have K1016 := Keep.ext K1000 E1008
            have Z1017 := Nat.le_trans Z1001 E1008.1
            have f1018 : Ary Z h1003 b1004 .int 1 (fun i => Value.int (List.getD [(0 : Int32)] i 0)) := Ary.eqv A1009 (by intro i hi; match i, hi with | 0, _ => rfl | (k + 1), hi => exact absurd hi (by omega))
            refine k_dup K X1005 at_273 rfl (q := 274) rfl ?_
            refine k_iconst K X1005 at_274 (v := (0 : Int32)) rfl (q := 275) rfl ?_
            refine k_iload K X1005 at_275 rfl (q := 277) rfl ?_
            refine k_iastore K X1005 e1006 at_277 f1018 (i := 0) (by decide) (by decide) (q := 278) rfl ?_
            intro T1019 h1020 X1021 e1022 W1023 A1024
            have f1025 : Ary Z h1020 b1004 .int 1 (fun i => Value.int (List.getD [v791] i 0)) := Ary.eqv A1024 (fun i _ => setD Value.int [(0 : Int32)] 0 v791 0 (Nat.le_of_ble_eq_true rfl) i)
            have f1026 := Ary.other f1014 W1023 ne1010
            have f1027 := Ary.other f1015 W1023 ne1011
            have N1028 := Fr.snoc X1021 N999 ge1012
            have K1029 := Keep.wr K1016 W1023 (Or.inr bn1013)
            have Z1030 := Nat.le_trans Z1017 (Nat.le_of_eq (Wr.size W1023).symm)
            refine k_astore K X1021 at_278 rfl (Ls' := #[.val (.int p0), .val (.int p1), .val (.int p2), .val (.int p3), .val (.long q4), .second, .val (.int p5), .val (.int v785), .val (.int v786), .val (.long d788), .second, .val (.int v790), .val (.int v791), .val (.int v792), .val (.long v793), .second, .val (.long v794), .second, .val (.int v795), .val (.int d797), .val (.int d800), .val (.int v802), .val (.int v803), .val (.int v804), .val (.int v808), .val (.int v812), .val (.ref b945), .val (.ref b978), .val (.ref b1004), .unset, .unset, .unset, .unset, .unset, .unset, .unset]) rfl (q := 280) rfl ?_
            refine k_new K X1021 e1022 at_280 (wd hw 6 rfl) (wd hw 7 rfl) (wd hw 8 rfl) (by decide) (by decide) (q := 283) rfl ?_
            intro T1031 h1032 b1033 X1034 e1035 g1036 E1037 A1038 D1039
            have ne1040 : b945 ≠ b1033 := Nat.ne_of_lt (Nat.lt_of_lt_of_eq (f1026).lt g1036.symm)
            have ne1041 : b978 ≠ b1033 := Nat.ne_of_lt (Nat.lt_of_lt_of_eq (f1027).lt g1036.symm)
            have ne1042 : b1004 ≠ b1033 := Nat.ne_of_lt (Nat.lt_of_lt_of_eq (f1025).lt g1036.symm)
            have ge1043 : n0 ≤ b1033 := Nat.le_trans Z1030 (Nat.le_of_eq g1036.symm)
            have bn1044 : h0.size ≤ b1033 := Nat.le_trans K1029.1 (Nat.le_of_eq g1036.symm)
            have f1045 := Ary.ext f1026 E1037
            have f1046 := Ary.ext f1027 E1037
            have f1047 := Ary.ext f1025 E1037
            have K1048 := Keep.ext K1029 E1037
            have Z1049 := Nat.le_trans Z1030 E1037.1
            have f1050 : Fld Z h1032 b1033 "com/example/dayflower/dayflower/filter/FilterSlab" "lanes" "I" (.int (0 : Int32)) := D1039 (Or.inr (wd hw 23 rfl)) (ty := .int) (by decide)
            have f1051 : Fld Z h1032 b1033 "com/example/dayflower/dayflower/filter/FilterSlab" "laneShift" "I" (.int (0 : Int32)) := D1039 (Or.inr (wd hw 28 rfl)) (ty := .int) (by decide)
            have f1052 : Fld Z h1032 b1033 "com/example/dayflower/dayflower/filter/FilterSlab" "words" "[J" .null := D1039 (Or.inr (wd hw 36 rfl)) (ty := (.array .long)) (by decide)
            have f1053 : Fld Z h1032 b1033 "com/example/dayflower/dayflower/filter/FilterSlab" "inUse" "J" (.long (0 : Int64)) := D1039 (Or.inl (wd hw 43 rfl)) (ty := .long) (by decide)
            have f1054 : Fld Z h1032 b1033 "com/example/dayflower/dayflower/filter/FilterSlab" "dirty" "J" (.long (0 : Int64)) := D1039 (Or.inl (wd hw 45 rfl)) (ty := .long) (by decide)
            refine k_dup K X1034 at_283 rfl (q := 284) rfl ?_
            refine k_iload K X1034 at_284 rfl (q := 286) rfl ?_
            refine k_iload K X1034 at_286 rfl (q := 288) rfl ?_
            refine k_special K X1034 e1035 at_288 rfl (wd hw 9 rfl) (wd hw 10 rfl) (wd hw 8 rfl) (wd hw 11 rfl) (by decide) (rm2 l Z az hw [] b1033 v786 v785 (0 : Int32) (0 : Int32) .null (0 : Int64) (0 : Int64) h1032 n0 Z1049 A1038 f1050 ge1043 f1051 f1052 f1053 f1054 (own_ob_2 p0 p1 p2 p3 q4 p5 v785 v804 hv_v785 hv_v804 hc884 hc942) (own_ob_3 p0 p1 p2 p3 q4 p5 v785 v804 hv_v785 hv_v804 hc884 hc942) (own_ob_4 p0 p1 p2 p3 q4 p5 v785 v804 hv_v785 hv_v804 hc884 hc942) (own_ob_5 p0 p1 p2 p3 q4 p5 v785 v786 v804 hv_v785 hv_v786 hv_v804 hc884 hc942)) (W := 1) (by decide) (by decide) (by decide) (by decide) rfl pd_3 (argsL := [(.int v786), (.int v785)]) (rest := [(.ref b1033)]) rfl rfl rfl (Nat.le_of_eq rfl) (q := 291) rfl ?_
            rintro _ T1055 L1056 X1057 ⟨b1066, ge1067, bn1068, rfl, N1058, K1059, f1061, f1062, f1063, f1064, f1065, f1069⟩
            have ne1070 : b945 ≠ b1066 := Nat.ne_of_lt (Nat.lt_of_lt_of_le (f1045).lt bn1068)
            have ne1071 : b978 ≠ b1066 := Nat.ne_of_lt (Nat.lt_of_lt_of_le (f1046).lt bn1068)
            have ne1072 : b1004 ≠ b1066 := Nat.ne_of_lt (Nat.lt_of_lt_of_le (f1047).lt bn1068)
            have ne1073 : b1033 ≠ b1066 := Nat.ne_of_lt (Nat.lt_of_lt_of_le (A1038).lt bn1068)
            have bn1074 : h0.size ≤ b1066 := Nat.le_trans K1048.1 bn1068
            have f1075 := Ary.keep f1045 K1059 (ninS ne1040 nin0)
            have f1076 := Ary.keep f1046 K1059 (ninS ne1041 nin0)
            have f1077 := Ary.keep f1047 K1059 (ninS ne1042 nin0)
            have f1078 := Exa.keep A1038 K1059
            have N1079 := Fr.app N1028 N1058
            have K1080 := Keep.trans K1048 K1059 (allS (Or.inr bn1044) all0)
            have Z1081 := Nat.le_trans Z1049 K1059.1
            obtain ⟨v1082, hv_v1082⟩ : ∃ z : Int32, (F_numberOfTrailingZeros v785) = z := ⟨_, rfl⟩
            rw [hv_v1082] at f1063
            refine k_astore K X1057 at_291 rfl (Ls' := #[.val (.int p0), .val (.int p1), .val (.int p2), .val (.int p3), .val (.long q4), .second, .val (.int p5), .val (.int v785), .val (.int v786), .val (.long d788), .second, .val (.int v790), .val (.int v791), .val (.int v792), .val (.long v793), .second, .val (.long v794), .second, .val (.int v795), .val (.int d797), .val (.int d800), .val (.int v802), .val (.int v803), .val (.int v804), .val (.int v808), .val (.int v812), .val (.ref b945), .val (.ref b978), .val (.ref b1004), .val (.ref b1033), .unset, .unset, .unset, .unset, .unset, .unset]) rfl (q := 293) rfl ?_
            refine k_aload K X1057 at_293 rfl rfl (q := 295) rfl ?_
            refine k_iload K X1057 at_295 rfl (q := 297) rfl ?_
            refine k_virtual K X1057 rfl at_297 (wd hw 37 rfl) (wd hw 38 rfl) (wd hw 40 rfl) (wd hw 39 rfl) (wd hw 8 rfl) (wd hw 41 rfl) (by decide) f1078 (rm7 l Z az hw [] b1033 v795 (0 : Int64) (0 : Int64) v785 v1082 (.ref b1066) T1055.heap n0 Z1081 f1062 f1061 f1078 ge1043 f1064 f1063 f1065 (own_ob_6 p0 p1 p2 p3 q4 p5 v785 v795 v804 hv_v785 hv_v795 hv_v804 hc884 hc942) (own_ob_6 p0 p1 p2 p3 q4 p5 v785 v795 v804 hv_v785 hv_v795 hv_v804 hc884 hc942)) (W := 0) (by decide) (by decide) (by decide) (by decide) rfl pd_4 (argsL := [(.int v795)]) (rest := []) rfl rfl rfl (Nat.le_of_eq rfl) (q := 300) rfl ?_
            rintro _ T1083 L1084 X1085 ⟨rfl, N1086, K1087, f1089, f1090, f1091, f1092, f1093⟩
            have f1094 := Ary.keep f1075 K1087 (ninS ne1040 nin0)
            have f1095 := Ary.keep f1076 K1087 (ninS ne1041 nin0)
            have f1096 := Ary.keep f1077 K1087 (ninS ne1042 nin0)
            have f1097 := Exa.keep f1078 K1087
            have f1098 := Ary.keep f1069 K1087 (ninS (Ne.symm ne1073) nin0)
            have N1099 := Fr.app N1079 N1086
            have K1100 := Keep.trans K1080 K1087 (allS (Or.inr bn1044) all0)
            have Z1101 := Nat.le_trans Z1081 K1087.1
            obtain ⟨v1102, hv_v1102⟩ : ∃ z : Int64, (F_take_a0_inUse v795 (0 : Int64) (0 : Int64) v785 v1082) = z := ⟨_, rfl⟩
            rw [hv_v1102] at f1090
            refine k_iload K X1085 at_300 rfl (q := 302) rfl ?_
            refine k_iconst K X1085 at_302 (v := (1 : Int32)) rfl (q := 303) rfl ?_
            have J1134 : ∀ (T1135 : State) (h1138 : Heap) (Lc1142 : List Loc) (d1123 : Int64), Stand p l e room_1 s m #[(.int p0), (.int p1), (.int p2), (.int p3), (.long q4), (.int p5)] below meth c T1135 Lc1142 5 4105 → Fr n0 Lc1142 → T1135.heap = h1138 → Keep h0 h1138 [] → n0 ≤ h1138.size → Ary Z h1138 b945 .int 2 (fun i => Value.int (List.getD [v808, v812] i 0)) → Ary Z h1138 b978 .int 1 (fun i => Value.int (List.getD [v790] i 0)) → Ary Z h1138 b1004 .int 1 (fun i => Value.int (List.getD [v791] i 0)) → Exa Z h1138 b1033 "com/example/dayflower/dayflower/filter/FilterSlab" → Ary Z h1138 b1066 .long (Int32.toNatClampNeg (Int64.toInt32 ((F_bytes v786 v785) / (8 : Int64)))) (fun i => Value.long ((fun _ => (0 : Int64)) i)) → Fld Z h1138 b1033 "com/example/dayflower/dayflower/filter/FilterSlab" "dirty" "J" (.long (0 : Int64)) → Fld Z h1138 b1033 "com/example/dayflower/dayflower/filter/FilterSlab" "inUse" "J" (.long d1123) → Fld Z h1138 b1033 "com/example/dayflower/dayflower/filter/FilterSlab" "laneShift" "I" (.int v1082) → Fld Z h1138 b1033 "com/example/dayflower/dayflower/filter/FilterSlab" "lanes" "I" (.int v785) → Fld Z h1138 b1033 "com/example/dayflower/dayflower/filter/FilterSlab" "words" "[J" (.ref b1066) → (if (1 : Int32) < v785 then (F_take_a0_inUse d797 v1102 (0 : Int64) v785 v1082) else v1102) = d1123 → Run p e below s kc kn Q T1135 (mkF m 313 #[.val (.int p0), .val (.int p1), .val (.int p2), .val (.int p3), .val (.long q4), .second, .val (.int p5), .val (.int v785), .val (.int v786), .val (.long d788), .second, .val (.int v790), .val (.int v791), .val (.int v792), .val (.long v793), .second, .val (.long v794), .second, .val (.int v795), .val (.int d797), .val (.int d800), .val (.int v802), .val (.int v803), .val (.int v804), .val (.int v808), .val (.int v812), .val (.ref b945), .val (.ref b978), .val (.ref b1004), .val (.ref b1033), .unset, .unset, .unset, .unset, .unset, .unset] []) := by
              intro T1135 h1138 Lc1142 d1123 X1136 N1139 e1137 K1140 Z1141 f1124 f1125 f1126 f1127 f1128 f1129 f1130 f1131 f1132 f1133 hv_d1123
              refine k_aload K X1136 at_313 rfl rfl (q := 315) rfl ?_
              refine k_aload K X1136 at_315 rfl rfl (q := 317) rfl ?_
              refine k_lload K X1136 at_317 rfl (q := 319) rfl ?_
              refine k_virtual K X1136 e1137 at_319 (wd hw 46 rfl) (wd hw 47 rfl) (wd hw 49 rfl) (wd hw 48 rfl) (wd hw 8 rfl) (wd hw 50 rfl) (by decide) f1127 (rm81 l Z az hw [] b1033 b978 v793 v790 v1082 b1066 (Int32.toNatClampNeg (Int64.toInt32 ((F_bytes v786 v785) / (8 : Int64)))) (fun _ => (0 : Int64)) h1138 n0 Z1141 f1125 f1131 f1133 f1128 ge1067 ne1071 ne1073 (own_ob_9 p0 p1 p2 p3 q4 p5 v785 v786 v790 v804 v1082 hv_v785 hv_v786 hv_v790 hv_v804 hv_v1082 hc884 hc942)) (W := 0) (by decide) (by decide) (by decide) (by decide) rfl pd_5 (argsL := [(.ref b978), (.long v793)]) (rest := []) rfl rfl rfl (Nat.le_of_eq rfl) (q := 322) rfl ?_
              rintro _ T1143 L1144 X1145 ⟨rfl, N1146, K1147, f1149⟩
              have f1150 := Ary.keep f1124 K1147 (ninS ne1070 nin0)
              have f1151 := Ary.keep f1125 K1147 (ninS ne1071 nin0)
              have f1152 := Ary.keep f1126 K1147 (ninS ne1072 nin0)
              have f1153 := Exa.keep f1127 K1147
              have f1154 := Fld.keep f1129 K1147 (ninS ne1073 nin0)
              have f1155 := Fld.keep f1130 K1147 (ninS ne1073 nin0)
              have f1156 := Fld.keep f1131 K1147 (ninS ne1073 nin0)
              have f1157 := Fld.keep f1132 K1147 (ninS ne1073 nin0)
              have f1158 := Fld.keep f1133 K1147 (ninS ne1073 nin0)
              have N1159 := Fr.app N1139 N1146
              have K1160 := Keep.trans K1140 K1147 (allS (Or.inr bn1074) all0)
              have Z1161 := Nat.le_trans Z1141 K1147.1
              refine k_aload K X1145 at_322 rfl rfl (q := 324) rfl ?_
              refine k_aload K X1145 at_324 rfl rfl (q := 326) rfl ?_
              refine k_lload K X1145 at_326 rfl (q := 328) rfl ?_
              refine k_virtual K X1145 rfl at_328 (wd hw 46 rfl) (wd hw 47 rfl) (wd hw 49 rfl) (wd hw 48 rfl) (wd hw 8 rfl) (wd hw 50 rfl) (by decide) f1153 (rm81 l Z az hw [] b1033 b1004 v794 v791 v1082 b1066 (Int32.toNatClampNeg (Int64.toInt32 ((F_bytes v786 v785) / (8 : Int64)))) (F_add1_w_a0_words_g v793 v790 v1082 (Int32.toNatClampNeg (Int64.toInt32 ((F_bytes v786 v785) / (8 : Int64)))) (fun _ => (0 : Int64))) T1143.heap n0 Z1161 f1152 f1156 f1158 f1149 ge1067 ne1072 ne1073 (own_ob_10 p0 p1 p2 p3 q4 p5 v785 v786 v791 v804 v1082 hv_v785 hv_v786 hv_v791 hv_v804 hv_v1082 hc884 hc942)) (W := 0) (by decide) (by decide) (by decide) (by decide) rfl pd_5 (argsL := [(.ref b1004), (.long v794)]) (rest := []) rfl rfl rfl (Nat.le_of_eq rfl) (q := 331) rfl ?_
              rintro _ T1162 L1163 X1164 ⟨rfl, N1165, K1166, f1168⟩
              have f1169 := Ary.keep f1150 K1166 (ninS ne1070 nin0)
              have f1170 := Ary.keep f1152 K1166 (ninS ne1072 nin0)
              have f1171 := Exa.keep f1153 K1166
              have f1172 := Fld.keep f1154 K1166 (ninS ne1073 nin0)
              have f1173 := Fld.keep f1155 K1166 (ninS ne1073 nin0)
              have f1174 := Fld.keep f1156 K1166 (ninS ne1073 nin0)
              have f1175 := Fld.keep f1157 K1166 (ninS ne1073 nin0)
              have f1176 := Fld.keep f1158 K1166 (ninS ne1073 nin0)
              have N1177 := Fr.app N1159 N1165
              have K1178 := Keep.trans K1160 K1166 (allS (Or.inr bn1074) all0)
              have Z1179 := Nat.le_trans Z1161 K1166.1
              refine k_iload K X1164 at_331 rfl (q := 333) rfl ?_
              have J1208 : ∀ (T1209 : State) (h1212 : Heap) (Lc1216 : List Loc) (d1198 : Int64) (d1199 : Int64), Stand p l e room_1 s m #[(.int p0), (.int p1), (.int p2), (.int p3), (.long q4), (.int p5)] below meth c T1209 Lc1216 5 4105 → Fr n0 Lc1216 → T1209.heap = h1212 → Keep h0 h1212 [] → n0 ≤ h1212.size → Ary Z h1212 b945 .int 2 (fun i => Value.int (List.getD [v808, v812] i 0)) → Exa Z h1212 b1033 "com/example/dayflower/dayflower/filter/FilterSlab" → Fld Z h1212 b1033 "com/example/dayflower/dayflower/filter/FilterSlab" "dirty" "J" (.long d1198) → Fld Z h1212 b1033 "com/example/dayflower/dayflower/filter/FilterSlab" "inUse" "J" (.long d1199) → Fld Z h1212 b1033 "com/example/dayflower/dayflower/filter/FilterSlab" "laneShift" "I" (.int v1082) → Fld Z h1212 b1033 "com/example/dayflower/dayflower/filter/FilterSlab" "lanes" "I" (.int v785) → Fld Z h1212 b1033 "com/example/dayflower/dayflower/filter/FilterSlab" "words" "[J" (.ref b1066) → Ary Z h1212 b1066 .long (Int32.toNatClampNeg (Int64.toInt32 ((F_bytes v786 v785) / (8 : Int64)))) (fun i => Value.long ((F_add1_w_a0_words_g v794 v791 v1082 (Int32.toNatClampNeg (Int64.toInt32 ((F_bytes v786 v785) / (8 : Int64)))) (F_add1_w_a0_words_g v793 v790 v1082 (Int32.toNatClampNeg (Int64.toInt32 ((F_bytes v786 v785) / (8 : Int64)))) (fun _ => (0 : Int64)))) i)) → (if d800 = (0 : Int32) then (0 : Int64) else (F_free_a0_dirty v795 d1123 (0 : Int64) v785 v1082)) = d1198 → (if d800 = (0 : Int32) then d1123 else (F_free_a0_inUse v795 d1123 (0 : Int64) v785 v1082)) = d1199 → Run p e below s kc kn Q T1209 (mkF m 343 #[.val (.int p0), .val (.int p1), .val (.int p2), .val (.int p3), .val (.long q4), .second, .val (.int p5), .val (.int v785), .val (.int v786), .val (.long d788), .second, .val (.int v790), .val (.int v791), .val (.int v792), .val (.long v793), .second, .val (.long v794), .second, .val (.int v795), .val (.int d797), .val (.int d800), .val (.int v802), .val (.int v803), .val (.int v804), .val (.int v808), .val (.int v812), .val (.ref b945), .val (.ref b978), .val (.ref b1004), .val (.ref b1033), .unset, .unset, .unset, .unset, .unset, .unset] []) := by
                intro T1209 h1212 Lc1216 d1198 d1199 X1210 N1213 e1211 K1214 Z1215 f1200 f1201 f1202 f1203 f1204 f1205 f1206 f1207 hv_d1198 hv_d1199
                refine k_aload K X1210 at_343 rfl rfl (q := 345) rfl ?_
                refine k_aload K X1210 at_345 rfl rfl (q := 347) rfl ?_
                refine k_virtualP K X1210 e1211 at_347 (wd hw 51 rfl) (wd hw 52 rfl) (wd hw 54 rfl) (wd hw 53 rfl) (wd hw 8 rfl) (wd hw 55 rfl) (by decide) f1201 (rm92 l Z az hw [] b1033 b945 d1199 v808 v812 v1082 b1066 (Int32.toNatClampNeg (Int64.toInt32 ((F_bytes v786 v785) / (8 : Int64)))) (F_add1_w_a0_words_g v794 v791 v1082 (Int32.toNatClampNeg (Int64.toInt32 ((F_bytes v786 v785) / (8 : Int64)))) (F_add1_w_a0_words_g v793 v790 v1082 (Int32.toNatClampNeg (Int64.toInt32 ((F_bytes v786 v785) / (8 : Int64)))) (fun _ => (0 : Int64)))) h1212 f1203 f1200 f1204 f1206 f1207 (own_ob_11 p0 p1 p2 p3 q4 p5 v785 v786 v790 v791 v792 v802 v804 v808 v1082 hv_v785 hv_v786 hv_v790 hv_v791 hv_v792 hv_v802 hv_v804 hv_v808 hv_v1082 hc884 hc942) (own_ob_12 p0 p1 p2 p3 q4 p5 v785 v786 d788 v790 v791 v792 v793 v794 v795 d797 d800 v802 v803 v804 v808 v812 v1082 v1102 d1123 d1199 hv_v785 hv_v786 hv_d788 hv_v790 hv_v791 hv_v792 hv_v793 hv_v794 hv_v795 hv_d797 hv_d800 hv_v802 hv_v803 hv_v804 hv_v808 hv_v812 hv_v1082 hv_v1102 hv_d1123 hv_d1199 hc884 hc942)) (W := 0) (by decide) (by decide) (by decide) (by decide) rfl pd_6 (argsL := [(.ref b945)]) (rest := []) rfl rfl rfl (Nat.le_of_eq rfl) (q := 350) rfl ?_
                intro T1217 X1218 e1219
                obtain ⟨v1220, hv_v1220⟩ : ∃ z : Int64, (F_holding2 d1199 v808 v812 v1082 (Int32.toNatClampNeg (Int64.toInt32 ((F_bytes v786 v785) / (8 : Int64)))) (F_add1_w_a0_words_g v794 v791 v1082 (Int32.toNatClampNeg (Int64.toInt32 ((F_bytes v786 v785) / (8 : Int64)))) (F_add1_w_a0_words_g v793 v790 v1082 (Int32.toNatClampNeg (Int64.toInt32 ((F_bytes v786 v785) / (8 : Int64)))) (fun _ => (0 : Int64))))) = z := ⟨_, rfl⟩
                refine k_lstore K X1218 at_350 hv_v1220 (Ls' := #[.val (.int p0), .val (.int p1), .val (.int p2), .val (.int p3), .val (.long q4), .second, .val (.int p5), .val (.int v785), .val (.int v786), .val (.long d788), .second, .val (.int v790), .val (.int v791), .val (.int v792), .val (.long v793), .second, .val (.long v794), .second, .val (.int v795), .val (.int d797), .val (.int d800), .val (.int v802), .val (.int v803), .val (.int v804), .val (.int v808), .val (.int v812), .val (.ref b945), .val (.ref b978), .val (.ref b1004), .val (.ref b1033), .val (.long v1220), .second, .unset, .unset, .unset, .unset]) rfl (q := 352) rfl ?_
                refine k_lconst1 K X1218 at_352 (q := 353) rfl ?_
                refine k_iload K X1218 at_353 rfl (q := 355) rfl ?_
                refine k_lshl K X1218 at_355 (q := 356) rfl ?_
                refine k_lconst1 K X1218 at_356 (q := 357) rfl ?_
                refine k_iload K X1218 at_357 rfl (q := 359) rfl ?_
                refine k_lshl K X1218 at_359 (q := 360) rfl ?_
                refine k_lor K X1218 at_360 (q := 361) rfl ?_
                obtain ⟨v1221, hv_v1221⟩ : ∃ z : Int64, ((shlL (1 : Int64) v795) ||| (shlL (1 : Int64) d797)) = z := ⟨_, rfl⟩
                refine k_lstore K X1218 at_361 hv_v1221 (Ls' := #[.val (.int p0), .val (.int p1), .val (.int p2), .val (.int p3), .val (.long q4), .second, .val (.int p5), .val (.int v785), .val (.int v786), .val (.long d788), .second, .val (.int v790), .val (.int v791), .val (.int v792), .val (.long v793), .second, .val (.long v794), .second, .val (.int v795), .val (.int d797), .val (.int d800), .val (.int v802), .val (.int v803), .val (.int v804), .val (.int v808), .val (.int v812), .val (.ref b945), .val (.ref b978), .val (.ref b1004), .val (.ref b1033), .val (.long v1220), .second, .val (.long v1221), .second, .unset, .unset]) rfl (q := 363) rfl ?_
                refine k_iload K X1218 at_363 rfl (q := 365) rfl ?_
                have J1224 : ∀ (d1223 : Int64), (if d800 = (0 : Int32) then v1221 else (v1221 &&& ((shlL (1 : Int64) v795) ^^^ (-1 : Int64)))) = d1223 → Run p e below s kc kn Q T1217 (mkF m 381 #[.val (.int p0), .val (.int p1), .val (.int p2), .val (.int p3), .val (.long q4), .second, .val (.int p5), .val (.int v785), .val (.int v786), .val (.long d788), .second, .val (.int v790), .val (.int v791), .val (.int v792), .val (.long v793), .second, .val (.long v794), .second, .val (.int v795), .val (.int d797), .val (.int d800), .val (.int v802), .val (.int v803), .val (.int v804), .val (.int v808), .val (.int v812), .val (.ref b945), .val (.ref b978), .val (.ref b1004), .val (.ref b1033), .val (.long v1220), .second, .val (.long d1223), .second, .unset, .unset] []) := by
                  intro d1223 hv_d1223
                  refine k_lload K X1218 at_381 rfl (q := 383) rfl ?_
                  refine k_lstore K X1218 at_383 rfl (Ls' := #[.val (.int p0), .val (.int p1), .val (.int p2), .val (.int p3), .val (.long q4), .second, .val (.int p5), .val (.int v785), .val (.int v786), .val (.long d788), .second, .val (.int v790), .val (.int v791), .val (.int v792), .val (.long v793), .second, .val (.long v794), .second, .val (.int v795), .val (.int d797), .val (.int d800), .val (.int v802), .val (.int v803), .val (.int v804), .val (.int v808), .val (.int v812), .val (.ref b945), .val (.ref b978), .val (.ref b1004), .val (.ref b1033), .val (.long v1220), .second, .val (.long d1223), .second, .val (.long d1223), .second]) rfl (q := 385) rfl ?_
                  refine k_iload K X1218 at_385 rfl (q := 387) rfl ?_
                  refine k_iconst K X1218 at_387 (v := (1 : Int32)) rfl (q := 388) rfl ?_
                  have J1230 : ∀ (T1231 : State) (Lc1234 : List Loc) (d1229 : Int64), Stand p l e room_1 s m #[(.int p0), (.int p1), (.int p2), (.int p3), (.long q4), (.int p5)] below meth c T1231 Lc1234 5 4105 → Fr n0 Lc1234 → T1231.heap = h1212 → (if v804 < (1 : Int32) then d1223 else (d1223 &&& (F_lanesAt v808 v790 v793 v791 v794))) = d1229 → Run p e below s kc kn Q T1231 (mkF m 409 #[.val (.int p0), .val (.int p1), .val (.int p2), .val (.int p3), .val (.long q4), .second, .val (.int p5), .val (.int v785), .val (.int v786), .val (.long d788), .second, .val (.int v790), .val (.int v791), .val (.int v792), .val (.long v793), .second, .val (.long v794), .second, .val (.int v795), .val (.int d797), .val (.int d800), .val (.int v802), .val (.int v803), .val (.int v804), .val (.int v808), .val (.int v812), .val (.ref b945), .val (.ref b978), .val (.ref b1004), .val (.ref b1033), .val (.long v1220), .second, .val (.long d1223), .second, .val (.long d1229), .second] []) := by
                    intro T1231 Lc1234 d1229 X1232 N1235 e1233 hv_d1229
                    refine k_iload K X1232 at_409 rfl (q := 411) rfl ?_
                    refine k_iconst K X1232 at_411 (v := (2 : Int32)) rfl (q := 412) rfl ?_
                    have J1241 : ∀ (T1242 : State) (Lc1245 : List Loc) (d1240 : Int64), Stand p l e room_1 s m #[(.int p0), (.int p1), (.int p2), (.int p3), (.long q4), (.int p5)] below meth c T1242 Lc1245 5 4105 → Fr n0 Lc1245 → T1242.heap = h1212 → (if v804 < (2 : Int32) then d1229 else (d1229 &&& (F_lanesAt v812 v790 v793 v791 v794))) = d1240 → Run p e below s kc kn Q T1242 (mkF m 433 #[.val (.int p0), .val (.int p1), .val (.int p2), .val (.int p3), .val (.long q4), .second, .val (.int p5), .val (.int v785), .val (.int v786), .val (.long d788), .second, .val (.int v790), .val (.int v791), .val (.int v792), .val (.long v793), .second, .val (.long v794), .second, .val (.int v795), .val (.int d797), .val (.int d800), .val (.int v802), .val (.int v803), .val (.int v804), .val (.int v808), .val (.int v812), .val (.ref b945), .val (.ref b978), .val (.ref b1004), .val (.ref b1033), .val (.long v1220), .second, .val (.long d1223), .second, .val (.long d1240), .second] []) := by
                      intro T1242 Lc1245 d1240 X1243 N1246 e1244 hv_d1240
                      refine k_lload K X1243 at_433 rfl (q := 435) rfl ?_
                      refine k_lload K X1243 at_435 rfl (q := 437) rfl ?_
                      refine k_lcmp K X1243 at_437 (q := 438) rfl ?_
                      have J1249 : ∀ (d1248 : Int32), (if v1220 = d1240 then (1 : Int32) else (0 : Int32)) = d1248 → Run p e below s kc kn Q T1242 (mkF m 446 #[.val (.int p0), .val (.int p1), .val (.int p2), .val (.int p3), .val (.long q4), .second, .val (.int p5), .val (.int v785), .val (.int v786), .val (.long d788), .second, .val (.int v790), .val (.int v791), .val (.int v792), .val (.long v793), .second, .val (.long v794), .second, .val (.int v795), .val (.int d797), .val (.int d800), .val (.int v802), .val (.int v803), .val (.int v804), .val (.int v808), .val (.int v812), .val (.ref b945), .val (.ref b978), .val (.ref b1004), .val (.ref b1033), .val (.long v1220), .second, .val (.long d1223), .second, .val (.long d1240), .second] [(.int d1248)]) := by
                        intro d1248 hv_d1248
                        exact k_retz K X1243 e1244 at_446 (Nat.le_trans (by decide) hkc) (Nat.le_trans (by decide) hkn) (hQ _ _ _ ⟨(by show some (Value.int (nar .boolean d1248)) = some (Value.int (F_law p0 p1 p2 p3 q4 p5)); first | (simp only [F_law, hv_v785, hv_v786, hv_d788, hv_v790, hv_v791, hv_v792, hv_v793, hv_v794, hv_v795, hv_d797, hv_d800, hv_v802, hv_v803, hv_v804, hv_v808, hv_v812, hv_v1082, hv_v1102, hv_d1123, hv_d1198, hv_d1199, hv_v1220, hv_v1221, hv_d1223, hv_d1229, hv_d1240, hv_d1248, if_neg hc884, if_neg hc942]; done) | (subst hv_v785; subst hv_v786; subst hv_d788; subst hv_v790; subst hv_v791; subst hv_v792; subst hv_v793; subst hv_v794; subst hv_v795; subst hv_d797; subst hv_d800; subst hv_v802; subst hv_v803; subst hv_v804; subst hv_v808; subst hv_v812; subst hv_v1082; subst hv_v1102; subst hv_d1123; subst hv_d1198; subst hv_d1199; subst hv_v1220; subst hv_v1221; subst hv_d1223; subst hv_d1229; subst hv_d1240; subst hv_d1248; simp only [F_law, if_neg hc884, if_neg hc942])), N1246⟩)
                      refine k_lcmp_ne K X1243 at_438 (by decide) (q := 445) rfl (q' := 441) rfl ?_ ?_
                      · intro hc1250
                        refine k_iconst K X1243 at_445 (v := (0 : Int32)) rfl (q := 446) rfl ?_
                        exact J1249 _ (by first | (simp only [if_neg hc1250]; done) | rfl)
                      · intro hc1250
                        refine k_iconst K X1243 at_441 (v := (1 : Int32)) rfl (q := 442) rfl ?_
                        refine k_goto K X1243 at_442 (by decide) (q := 446) rfl ?_
                        exact J1249 _ (by first | (simp only [if_pos hc1250]; done) | rfl)
                    refine k_icmp_lt K X1232 at_412 (by decide) (q := 433) rfl (q' := 415) rfl ?_ ?_
                    · intro hc1251
                      exact J1241 T1231 _ _ X1232 N1235 e1233 (by first | (simp only [if_pos hc1251]; done) | rfl)
                    · intro hc1251
                      refine k_lload K X1232 at_415 rfl (q := 417) rfl ?_
                      refine k_iload K X1232 at_417 rfl (q := 419) rfl ?_
                      refine k_iload K X1232 at_419 rfl (q := 421) rfl ?_
                      refine k_lload K X1232 at_421 rfl (q := 423) rfl ?_
                      refine k_iload K X1232 at_423 rfl (q := 425) rfl ?_
                      refine k_lload K X1232 at_425 rfl (q := 427) rfl ?_
                      refine k_staticP K X1232 e1233 at_427 (wd hw 64 rfl) (wd hw 65 rfl) (wd hw 3 rfl) (wd hw 66 rfl) (by decide) (rm11 l Z az hw [] v812 v790 v793 v791 v794 h1212) (W := 2) (by decide) (by decide) (by decide) (by decide) rfl pd_7 (argsL := [(.int v812), (.int v790), (.long v793), (.int v791), (.long v794)]) (rest := [(.long d1229)]) rfl rfl rfl (Nat.le_of_eq rfl) (q := 430) rfl ?_
                      intro T1252 X1253 e1254
                      refine k_land K X1253 at_430 (q := 431) rfl ?_
                      refine k_lstore K X1253 at_431 rfl (Ls' := #[.val (.int p0), .val (.int p1), .val (.int p2), .val (.int p3), .val (.long q4), .second, .val (.int p5), .val (.int v785), .val (.int v786), .val (.long d788), .second, .val (.int v790), .val (.int v791), .val (.int v792), .val (.long v793), .second, .val (.long v794), .second, .val (.int v795), .val (.int d797), .val (.int d800), .val (.int v802), .val (.int v803), .val (.int v804), .val (.int v808), .val (.int v812), .val (.ref b945), .val (.ref b978), .val (.ref b1004), .val (.ref b1033), .val (.long v1220), .second, .val (.long d1223), .second, .val (.long (d1229 &&& (F_lanesAt v812 v790 v793 v791 v794))), .second]) rfl (q := 433) rfl ?_
                      exact J1241 T1252 _ _ X1253 N1235 e1254 (by first | (simp only [if_neg hc1251]; done) | rfl)
                  refine k_icmp_lt K X1218 at_388 (by decide) (q := 409) rfl (q' := 391) rfl ?_ ?_
                  · intro hc1255
                    exact J1230 T1217 _ _ X1218 N1213 e1219 (by first | (simp only [if_pos hc1255]; done) | rfl)
                  · intro hc1255
                    refine k_lload K X1218 at_391 rfl (q := 393) rfl ?_
                    refine k_iload K X1218 at_393 rfl (q := 395) rfl ?_
                    refine k_iload K X1218 at_395 rfl (q := 397) rfl ?_
                    refine k_lload K X1218 at_397 rfl (q := 399) rfl ?_
                    refine k_iload K X1218 at_399 rfl (q := 401) rfl ?_
                    refine k_lload K X1218 at_401 rfl (q := 403) rfl ?_
                    refine k_staticP K X1218 e1219 at_403 (wd hw 64 rfl) (wd hw 65 rfl) (wd hw 3 rfl) (wd hw 66 rfl) (by decide) (rm11 l Z az hw [] v808 v790 v793 v791 v794 h1212) (W := 2) (by decide) (by decide) (by decide) (by decide) rfl pd_7 (argsL := [(.int v808), (.int v790), (.long v793), (.int v791), (.long v794)]) (rest := [(.long d1223)]) rfl rfl rfl (Nat.le_of_eq rfl) (q := 406) rfl ?_
                    intro T1256 X1257 e1258
                    refine k_land K X1257 at_406 (q := 407) rfl ?_
                    refine k_lstore K X1257 at_407 rfl (Ls' := #[.val (.int p0), .val (.int p1), .val (.int p2), .val (.int p3), .val (.long q4), .second, .val (.int p5), .val (.int v785), .val (.int v786), .val (.long d788), .second, .val (.int v790), .val (.int v791), .val (.int v792), .val (.long v793), .second, .val (.long v794), .second, .val (.int v795), .val (.int d797), .val (.int d800), .val (.int v802), .val (.int v803), .val (.int v804), .val (.int v808), .val (.int v812), .val (.ref b945), .val (.ref b978), .val (.ref b1004), .val (.ref b1033), .val (.long v1220), .second, .val (.long d1223), .second, .val (.long (d1223 &&& (F_lanesAt v808 v790 v793 v791 v794))), .second]) rfl (q := 409) rfl ?_
                    exact J1230 T1256 _ _ X1257 N1213 e1258 (by first | (simp only [if_neg hc1255]; done) | rfl)
                refine k_if_eq K X1218 at_365 (by decide) (q := 381) rfl (q' := 368) rfl ?_ ?_
                · intro hc1259
                  exact J1224 _ (by first | (simp only [if_pos hc1259]; done) | rfl)
                · intro hc1259
                  refine k_lload K X1218 at_368 rfl (q := 370) rfl ?_
                  refine k_lconst1 K X1218 at_370 (q := 371) rfl ?_
                  refine k_iload K X1218 at_371 rfl (q := 373) rfl ?_
                  refine k_lshl K X1218 at_373 (q := 374) rfl ?_
                  refine k_ldc2 K X1218 at_374 (wd hw 62 rfl) (q := 377) rfl ?_
                  refine k_lxor K X1218 at_377 (q := 378) rfl ?_
                  refine k_land K X1218 at_378 (q := 379) rfl ?_
                  refine k_lstore K X1218 at_379 rfl (Ls' := #[.val (.int p0), .val (.int p1), .val (.int p2), .val (.int p3), .val (.long q4), .second, .val (.int p5), .val (.int v785), .val (.int v786), .val (.long d788), .second, .val (.int v790), .val (.int v791), .val (.int v792), .val (.long v793), .second, .val (.long v794), .second, .val (.int v795), .val (.int d797), .val (.int d800), .val (.int v802), .val (.int v803), .val (.int v804), .val (.int v808), .val (.int v812), .val (.ref b945), .val (.ref b978), .val (.ref b1004), .val (.ref b1033), .val (.long v1220), .second, .val (.long (v1221 &&& ((shlL (1 : Int64) v795) ^^^ (-1 : Int64)))), .second, .unset, .unset]) rfl (q := 381) rfl ?_
                  exact J1224 _ (by first | (simp only [if_neg hc1259]; done) | rfl)
              refine k_if_eq K X1164 at_333 (by decide) (q := 343) rfl (q' := 336) rfl ?_ ?_
              · intro hc1260
                exact J1208 T1162 _ _ _ _ X1164 N1177 rfl K1178 Z1179 f1169 f1171 f1172 f1173 f1174 f1175 f1176 f1168 (by first | (simp only [if_pos hc1260]; done) | rfl) (by first | (simp only [if_pos hc1260]; done) | rfl)
              · intro hc1260
                refine k_aload K X1164 at_336 rfl rfl (q := 338) rfl ?_
                refine k_iload K X1164 at_338 rfl (q := 340) rfl ?_
                refine k_virtual K X1164 rfl at_340 (wd hw 56 rfl) (wd hw 57 rfl) (wd hw 59 rfl) (wd hw 58 rfl) (wd hw 8 rfl) (wd hw 60 rfl) (by decide) f1171 (rm10 l Z az hw [] b1033 v795 d1123 (0 : Int64) v785 v1082 (.ref b1066) T1162.heap n0 Z1179 f1173 f1171 ge1043 f1172 f1175 f1174 f1176) (W := 0) (by decide) (by decide) (by decide) (by decide) rfl pd_4 (argsL := [(.int v795)]) (rest := []) rfl rfl rfl (Nat.le_of_eq rfl) (q := 343) rfl ?_
                rintro _ T1261 L1262 X1263 ⟨rfl, N1264, K1265, f1267, f1268, f1269, f1270, f1271⟩
                have f1272 := Ary.keep f1169 K1265 (ninS ne1040 nin0)
                have f1273 := Exa.keep f1171 K1265
                have f1274 := Ary.keep f1168 K1265 (ninS (Ne.symm ne1073) nin0)
                have N1275 := Fr.app N1177 N1264
                have K1276 := Keep.trans K1178 K1265 (allS (Or.inr bn1044) all0)
                have Z1277 := Nat.le_trans Z1179 K1265.1
                exact J1208 T1261 _ _ _ _ X1263 N1275 rfl K1276 Z1277 f1272 f1273 f1267 f1268 f1269 f1270 f1271 f1274 (by first | (simp only [if_neg hc1260]; done) | rfl) (by first | (simp only [if_neg hc1260]; done) | rfl)
            refine k_icmp_le K X1085 at_303 (by decide) (q := 313) rfl (q' := 306) rfl ?_ ?_
            · intro hc1278
              exact J1134 T1083 _ _ _ X1085 N1099 rfl K1100 Z1101 f1094 f1095 f1096 f1097 f1098 f1089 f1090 f1091 f1092 f1093 (by first | (simp only [if_neg hc1278]; done) | rfl)
            · intro hc1278
              refine k_aload K X1085 at_306 rfl rfl (q := 308) rfl ?_
              refine k_iload K X1085 at_308 rfl (q := 310) rfl ?_
              refine k_virtual K X1085 rfl at_310 (wd hw 37 rfl) (wd hw 38 rfl) (wd hw 40 rfl) (wd hw 39 rfl) (wd hw 8 rfl) (wd hw 41 rfl) (by decide) f1097 (rm7 l Z az hw [] b1033 d797 v1102 (0 : Int64) v785 v1082 (.ref b1066) T1083.heap n0 Z1101 f1090 f1089 f1097 ge1043 f1092 f1091 f1093 (own_ob_7 p0 p1 p2 p3 q4 p5 v785 v795 d797 v804 v1082 v1102 hv_v785 hv_v795 hv_d797 hv_v804 hv_v1082 hv_v1102 hc884 hc942 hc1278) (own_ob_8 p0 p1 p2 p3 q4 p5 v785 v795 d797 v804 hv_v785 hv_v795 hv_d797 hv_v804 hc884 hc942 hc1278)) (W := 0) (by decide) (by decide) (by decide) (by decide) rfl pd_4 (argsL := [(.int d797)]) (rest := []) rfl rfl rfl (Nat.le_of_eq rfl) (q := 313) rfl ?_
              rintro _ T1279 L1280 X1281 ⟨rfl, N1282, K1283, f1285, f1286, f1287, f1288, f1289⟩
              have f1290 := Ary.keep f1094 K1283 (ninS ne1040 nin0)
              have f1291 := Ary.keep f1095 K1283 (ninS ne1041 nin0)
              have f1292 := Ary.keep f1096 K1283 (ninS ne1042 nin0)
              have f1293 := Exa.keep f1097 K1283
              have f1294 := Ary.keep f1098 K1283 (ninS (Ne.symm ne1073) nin0)
              have N1295 := Fr.app N1099 N1282
              have K1296 := Keep.trans K1100 K1283 (allS (Or.inr bn1044) all0)
              have Z1297 := Nat.le_trans Z1101 K1283.1
              exact J1134 T1279 _ _ _ X1281 N1295 rfl K1296 Z1297 f1290 f1291 f1292 f1293 f1294 f1285 f1286 f1287 f1288 f1289 (by first | (simp only [if_pos hc1278]; done) | rfl)
          · intro hc942
            refine k_iconst K X810 at_232 (v := (1 : Int32)) rfl (q := 233) rfl ?_
            refine k_newarray K X810 e811 at_233 (ty := .int) rfl (wd hw 5 rfl) (n := 1) (cap := 1) (by decide) (by decide) (by decide) (by decide) (by decide) (q := 235) rfl ?_
            intro T1298 h1299 b1300 X1301 e1302 g1303 E1304 A1305 
            have ge1306 : n0 ≤ b1300 := Nat.le_trans Z0 (Nat.le_of_eq g1303.symm)
            have bn1307 : h0.size ≤ b1300 := Nat.le_trans K0.1 (Nat.le_of_eq g1303.symm)
            have K1308 := Keep.ext K0 E1304
            have Z1309 := Nat.le_trans Z0 E1304.1
            have f1310 : Ary Z h1299 b1300 .int 1 (fun i => Value.int (List.getD [(0 : Int32)] i 0)) := Ary.eqv A1305 (by intro i hi; match i, hi with | 0, _ => rfl | (k + 1), hi => exact absurd hi (by omega))
            refine k_dup K X1301 at_235 rfl (q := 236) rfl ?_
            refine k_iconst K X1301 at_236 (v := (0 : Int32)) rfl (q := 237) rfl ?_
            refine k_iload K X1301 at_237 rfl (q := 239) rfl ?_
            refine k_iastore K X1301 e1302 at_239 f1310 (i := 0) (by decide) (by decide) (q := 240) rfl ?_
            intro T1311 h1312 X1313 e1314 W1315 A1316
            have f1317 : Ary Z h1312 b1300 .int 1 (fun i => Value.int (List.getD [v808] i 0)) := Ary.eqv A1316 (fun i _ => setD Value.int [(0 : Int32)] 0 v808 0 (Nat.le_of_ble_eq_true rfl) i)
            have N1318 := Fr.snoc X1313 N0 ge1306
            have K1319 := Keep.wr K1308 W1315 (Or.inr bn1307)
            have Z1320 := Nat.le_trans Z1309 (Nat.le_of_eq (Wr.size W1315).symm)
            refine k_astore K X1313 at_240 rfl (Ls' := #[.val (.int p0), .val (.int p1), .val (.int p2), .val (.int p3), .val (.long q4), .second, .val (.int p5), .val (.int v785), .val (.int v786), .val (.long d788), .second, .val (.int v790), .val (.int v791), .val (.int v792), .val (.long v793), .second, .val (.long v794), .second, .val (.int v795), .val (.int d797), .val (.int d800), .val (.int v802), .val (.int v803), .val (.int v804), .val (.int v808), .val (.int v812), .val (.ref b1300), .unset, .unset, .unset, .unset, .unset, .unset, .unset, .unset, .unset]) rfl (q := 242) rfl ?_
            refine k_goto K X1313 at_242 (by decide) (q := 260) rfl ?_
            refine k_iconst K X1313 at_260 (v := (1 : Int32)) rfl (q := 261) rfl ?_
            refine k_newarray K X1313 e1314 at_261 (ty := .int) rfl (wd hw 5 rfl) (n := 1) (cap := 1) (by decide) (by decide) (by decide) (by decide) (by decide) (q := 263) rfl ?_
            intro T1321 h1322 b1323 X1324 e1325 g1326 E1327 A1328 
            have ne1329 : b1300 ≠ b1323 := Nat.ne_of_lt (Nat.lt_of_lt_of_eq (f1317).lt g1326.symm)
            have ge1330 : n0 ≤ b1323 := Nat.le_trans Z1320 (Nat.le_of_eq g1326.symm)
            have bn1331 : h0.size ≤ b1323 := Nat.le_trans K1319.1 (Nat.le_of_eq g1326.symm)
            have f1332 := Ary.ext f1317 E1327
            have K1333 := Keep.ext K1319 E1327
            have Z1334 := Nat.le_trans Z1320 E1327.1
            have f1335 : Ary Z h1322 b1323 .int 1 (fun i => Value.int (List.getD [(0 : Int32)] i 0)) := Ary.eqv A1328 (by intro i hi; match i, hi with | 0, _ => rfl | (k + 1), hi => exact absurd hi (by omega))
            refine k_dup K X1324 at_263 rfl (q := 264) rfl ?_
            refine k_iconst K X1324 at_264 (v := (0 : Int32)) rfl (q := 265) rfl ?_
            refine k_iload K X1324 at_265 rfl (q := 267) rfl ?_
            refine k_iastore K X1324 e1325 at_267 f1335 (i := 0) (by decide) (by decide) (q := 268) rfl ?_
            intro T1336 h1337 X1338 e1339 W1340 A1341
            have f1342 : Ary Z h1337 b1323 .int 1 (fun i => Value.int (List.getD [v790] i 0)) := Ary.eqv A1341 (fun i _ => setD Value.int [(0 : Int32)] 0 v790 0 (Nat.le_of_ble_eq_true rfl) i)
            have f1343 := Ary.other f1332 W1340 ne1329
            have N1344 := Fr.snoc X1338 N1318 ge1330
            have K1345 := Keep.wr K1333 W1340 (Or.inr bn1331)
            have Z1346 := Nat.le_trans Z1334 (Nat.le_of_eq (Wr.size W1340).symm)
            refine k_astore K X1338 at_268 rfl (Ls' := #[.val (.int p0), .val (.int p1), .val (.int p2), .val (.int p3), .val (.long q4), .second, .val (.int p5), .val (.int v785), .val (.int v786), .val (.long d788), .second, .val (.int v790), .val (.int v791), .val (.int v792), .val (.long v793), .second, .val (.long v794), .second, .val (.int v795), .val (.int d797), .val (.int d800), .val (.int v802), .val (.int v803), .val (.int v804), .val (.int v808), .val (.int v812), .val (.ref b1300), .val (.ref b1323), .unset, .unset, .unset, .unset, .unset, .unset, .unset, .unset]) rfl (q := 270) rfl ?_
            refine k_iconst K X1338 at_270 (v := (1 : Int32)) rfl (q := 271) rfl ?_
            refine k_newarray K X1338 e1339 at_271 (ty := .int) rfl (wd hw 5 rfl) (n := 1) (cap := 1) (by decide) (by decide) (by decide) (by decide) (by decide) (q := 273) rfl ?_
            intro T1347 h1348 b1349 X1350 e1351 g1352 E1353 A1354 
            have ne1355 : b1300 ≠ b1349 := Nat.ne_of_lt (Nat.lt_of_lt_of_eq (f1343).lt g1352.symm)
            have ne1356 : b1323 ≠ b1349 := Nat.ne_of_lt (Nat.lt_of_lt_of_eq (f1342).lt g1352.symm)
            have ge1357 : n0 ≤ b1349 := Nat.le_trans Z1346 (Nat.le_of_eq g1352.symm)
            have bn1358 : h0.size ≤ b1349 := Nat.le_trans K1345.1 (Nat.le_of_eq g1352.symm)
            have f1359 := Ary.ext f1343 E1353
            have f1360 := Ary.ext f1342 E1353
            have K1361 := Keep.ext K1345 E1353
            have Z1362 := Nat.le_trans Z1346 E1353.1
            have f1363 : Ary Z h1348 b1349 .int 1 (fun i => Value.int (List.getD [(0 : Int32)] i 0)) := Ary.eqv A1354 (by intro i hi; match i, hi with | 0, _ => rfl | (k + 1), hi => exact absurd hi (by omega))
            refine k_dup K X1350 at_273 rfl (q := 274) rfl ?_
            refine k_iconst K X1350 at_274 (v := (0 : Int32)) rfl (q := 275) rfl ?_
            refine k_iload K X1350 at_275 rfl (q := 277) rfl ?_
            refine k_iastore K X1350 e1351 at_277 f1363 (i := 0) (by decide) (by decide) (q := 278) rfl ?_
            intro T1364 h1365 X1366 e1367 W1368 A1369
            have f1370 : Ary Z h1365 b1349 .int 1 (fun i => Value.int (List.getD [v791] i 0)) := Ary.eqv A1369 (fun i _ => setD Value.int [(0 : Int32)] 0 v791 0 (Nat.le_of_ble_eq_true rfl) i)
            have f1371 := Ary.other f1359 W1368 ne1355
            have f1372 := Ary.other f1360 W1368 ne1356
            have N1373 := Fr.snoc X1366 N1344 ge1357
            have K1374 := Keep.wr K1361 W1368 (Or.inr bn1358)
            have Z1375 := Nat.le_trans Z1362 (Nat.le_of_eq (Wr.size W1368).symm)
            refine k_astore K X1366 at_278 rfl (Ls' := #[.val (.int p0), .val (.int p1), .val (.int p2), .val (.int p3), .val (.long q4), .second, .val (.int p5), .val (.int v785), .val (.int v786), .val (.long d788), .second, .val (.int v790), .val (.int v791), .val (.int v792), .val (.long v793), .second, .val (.long v794), .second, .val (.int v795), .val (.int d797), .val (.int d800), .val (.int v802), .val (.int v803), .val (.int v804), .val (.int v808), .val (.int v812), .val (.ref b1300), .val (.ref b1323), .val (.ref b1349), .unset, .unset, .unset, .unset, .unset, .unset, .unset]) rfl (q := 280) rfl ?_
            refine k_new K X1366 e1367 at_280 (wd hw 6 rfl) (wd hw 7 rfl) (wd hw 8 rfl) (by decide) (by decide) (q := 283) rfl ?_
            intro T1376 h1377 b1378 X1379 e1380 g1381 E1382 A1383 D1384
            have ne1385 : b1300 ≠ b1378 := Nat.ne_of_lt (Nat.lt_of_lt_of_eq (f1371).lt g1381.symm)
            have ne1386 : b1323 ≠ b1378 := Nat.ne_of_lt (Nat.lt_of_lt_of_eq (f1372).lt g1381.symm)
            have ne1387 : b1349 ≠ b1378 := Nat.ne_of_lt (Nat.lt_of_lt_of_eq (f1370).lt g1381.symm)
            have ge1388 : n0 ≤ b1378 := Nat.le_trans Z1375 (Nat.le_of_eq g1381.symm)
            have bn1389 : h0.size ≤ b1378 := Nat.le_trans K1374.1 (Nat.le_of_eq g1381.symm)
            have f1390 := Ary.ext f1371 E1382
            have f1391 := Ary.ext f1372 E1382
            have f1392 := Ary.ext f1370 E1382
            have K1393 := Keep.ext K1374 E1382
            have Z1394 := Nat.le_trans Z1375 E1382.1
            have f1395 : Fld Z h1377 b1378 "com/example/dayflower/dayflower/filter/FilterSlab" "lanes" "I" (.int (0 : Int32)) := D1384 (Or.inr (wd hw 23 rfl)) (ty := .int) (by decide)
            have f1396 : Fld Z h1377 b1378 "com/example/dayflower/dayflower/filter/FilterSlab" "laneShift" "I" (.int (0 : Int32)) := D1384 (Or.inr (wd hw 28 rfl)) (ty := .int) (by decide)
            have f1397 : Fld Z h1377 b1378 "com/example/dayflower/dayflower/filter/FilterSlab" "words" "[J" .null := D1384 (Or.inr (wd hw 36 rfl)) (ty := (.array .long)) (by decide)
            have f1398 : Fld Z h1377 b1378 "com/example/dayflower/dayflower/filter/FilterSlab" "inUse" "J" (.long (0 : Int64)) := D1384 (Or.inl (wd hw 43 rfl)) (ty := .long) (by decide)
            have f1399 : Fld Z h1377 b1378 "com/example/dayflower/dayflower/filter/FilterSlab" "dirty" "J" (.long (0 : Int64)) := D1384 (Or.inl (wd hw 45 rfl)) (ty := .long) (by decide)
            refine k_dup K X1379 at_283 rfl (q := 284) rfl ?_
            refine k_iload K X1379 at_284 rfl (q := 286) rfl ?_
            refine k_iload K X1379 at_286 rfl (q := 288) rfl ?_
            refine k_special K X1379 e1380 at_288 rfl (wd hw 9 rfl) (wd hw 10 rfl) (wd hw 8 rfl) (wd hw 11 rfl) (by decide) (rm2 l Z az hw [] b1378 v786 v785 (0 : Int32) (0 : Int32) .null (0 : Int64) (0 : Int64) h1377 n0 Z1394 A1383 f1395 ge1388 f1396 f1397 f1398 f1399 (own_ob_13 p0 p1 p2 p3 q4 p5 v785 v804 hv_v785 hv_v804 hc884 hc942) (own_ob_14 p0 p1 p2 p3 q4 p5 v785 v804 hv_v785 hv_v804 hc884 hc942) (own_ob_15 p0 p1 p2 p3 q4 p5 v785 v804 hv_v785 hv_v804 hc884 hc942) (own_ob_16 p0 p1 p2 p3 q4 p5 v785 v786 v804 hv_v785 hv_v786 hv_v804 hc884 hc942)) (W := 1) (by decide) (by decide) (by decide) (by decide) rfl pd_3 (argsL := [(.int v786), (.int v785)]) (rest := [(.ref b1378)]) rfl rfl rfl (Nat.le_of_eq rfl) (q := 291) rfl ?_
            rintro _ T1400 L1401 X1402 ⟨b1411, ge1412, bn1413, rfl, N1403, K1404, f1406, f1407, f1408, f1409, f1410, f1414⟩
            have ne1415 : b1300 ≠ b1411 := Nat.ne_of_lt (Nat.lt_of_lt_of_le (f1390).lt bn1413)
            have ne1416 : b1323 ≠ b1411 := Nat.ne_of_lt (Nat.lt_of_lt_of_le (f1391).lt bn1413)
            have ne1417 : b1349 ≠ b1411 := Nat.ne_of_lt (Nat.lt_of_lt_of_le (f1392).lt bn1413)
            have ne1418 : b1378 ≠ b1411 := Nat.ne_of_lt (Nat.lt_of_lt_of_le (A1383).lt bn1413)
            have bn1419 : h0.size ≤ b1411 := Nat.le_trans K1393.1 bn1413
            have f1420 := Ary.keep f1390 K1404 (ninS ne1385 nin0)
            have f1421 := Ary.keep f1391 K1404 (ninS ne1386 nin0)
            have f1422 := Ary.keep f1392 K1404 (ninS ne1387 nin0)
            have f1423 := Exa.keep A1383 K1404
            have N1424 := Fr.app N1373 N1403
            have K1425 := Keep.trans K1393 K1404 (allS (Or.inr bn1389) all0)
            have Z1426 := Nat.le_trans Z1394 K1404.1
            obtain ⟨v1427, hv_v1427⟩ : ∃ z : Int32, (F_numberOfTrailingZeros v785) = z := ⟨_, rfl⟩
            rw [hv_v1427] at f1408
            refine k_astore K X1402 at_291 rfl (Ls' := #[.val (.int p0), .val (.int p1), .val (.int p2), .val (.int p3), .val (.long q4), .second, .val (.int p5), .val (.int v785), .val (.int v786), .val (.long d788), .second, .val (.int v790), .val (.int v791), .val (.int v792), .val (.long v793), .second, .val (.long v794), .second, .val (.int v795), .val (.int d797), .val (.int d800), .val (.int v802), .val (.int v803), .val (.int v804), .val (.int v808), .val (.int v812), .val (.ref b1300), .val (.ref b1323), .val (.ref b1349), .val (.ref b1378), .unset, .unset, .unset, .unset, .unset, .unset]) rfl (q := 293) rfl ?_
            refine k_aload K X1402 at_293 rfl rfl (q := 295) rfl ?_
            refine k_iload K X1402 at_295 rfl (q := 297) rfl ?_
            refine k_virtual K X1402 rfl at_297 (wd hw 37 rfl) (wd hw 38 rfl) (wd hw 40 rfl) (wd hw 39 rfl) (wd hw 8 rfl) (wd hw 41 rfl) (by decide) f1423 (rm7 l Z az hw [] b1378 v795 (0 : Int64) (0 : Int64) v785 v1427 (.ref b1411) T1400.heap n0 Z1426 f1407 f1406 f1423 ge1388 f1409 f1408 f1410 (own_ob_17 p0 p1 p2 p3 q4 p5 v785 v795 v804 hv_v785 hv_v795 hv_v804 hc884 hc942) (own_ob_17 p0 p1 p2 p3 q4 p5 v785 v795 v804 hv_v785 hv_v795 hv_v804 hc884 hc942)) (W := 0) (by decide) (by decide) (by decide) (by decide) rfl pd_4 (argsL := [(.int v795)]) (rest := []) rfl rfl rfl (Nat.le_of_eq rfl) (q := 300) rfl ?_
            rintro _ T1428 L1429 X1430 ⟨rfl, N1431, K1432, f1434, f1435, f1436, f1437, f1438⟩
            have f1439 := Ary.keep f1420 K1432 (ninS ne1385 nin0)
            have f1440 := Ary.keep f1421 K1432 (ninS ne1386 nin0)
            have f1441 := Ary.keep f1422 K1432 (ninS ne1387 nin0)
            have f1442 := Exa.keep f1423 K1432
            have f1443 := Ary.keep f1414 K1432 (ninS (Ne.symm ne1418) nin0)
            have N1444 := Fr.app N1424 N1431
            have K1445 := Keep.trans K1425 K1432 (allS (Or.inr bn1389) all0)
            have Z1446 := Nat.le_trans Z1426 K1432.1
            obtain ⟨v1447, hv_v1447⟩ : ∃ z : Int64, (F_take_a0_inUse v795 (0 : Int64) (0 : Int64) v785 v1427) = z := ⟨_, rfl⟩
            rw [hv_v1447] at f1435
            refine k_iload K X1430 at_300 rfl (q := 302) rfl ?_
            refine k_iconst K X1430 at_302 (v := (1 : Int32)) rfl (q := 303) rfl ?_
            have J1479 : ∀ (T1480 : State) (h1483 : Heap) (Lc1487 : List Loc) (d1468 : Int64), Stand p l e room_1 s m #[(.int p0), (.int p1), (.int p2), (.int p3), (.long q4), (.int p5)] below meth c T1480 Lc1487 5 4104 → Fr n0 Lc1487 → T1480.heap = h1483 → Keep h0 h1483 [] → n0 ≤ h1483.size → Ary Z h1483 b1300 .int 1 (fun i => Value.int (List.getD [v808] i 0)) → Ary Z h1483 b1323 .int 1 (fun i => Value.int (List.getD [v790] i 0)) → Ary Z h1483 b1349 .int 1 (fun i => Value.int (List.getD [v791] i 0)) → Exa Z h1483 b1378 "com/example/dayflower/dayflower/filter/FilterSlab" → Ary Z h1483 b1411 .long (Int32.toNatClampNeg (Int64.toInt32 ((F_bytes v786 v785) / (8 : Int64)))) (fun i => Value.long ((fun _ => (0 : Int64)) i)) → Fld Z h1483 b1378 "com/example/dayflower/dayflower/filter/FilterSlab" "dirty" "J" (.long (0 : Int64)) → Fld Z h1483 b1378 "com/example/dayflower/dayflower/filter/FilterSlab" "inUse" "J" (.long d1468) → Fld Z h1483 b1378 "com/example/dayflower/dayflower/filter/FilterSlab" "laneShift" "I" (.int v1427) → Fld Z h1483 b1378 "com/example/dayflower/dayflower/filter/FilterSlab" "lanes" "I" (.int v785) → Fld Z h1483 b1378 "com/example/dayflower/dayflower/filter/FilterSlab" "words" "[J" (.ref b1411) → (if (1 : Int32) < v785 then (F_take_a0_inUse d797 v1447 (0 : Int64) v785 v1427) else v1447) = d1468 → Run p e below s kc kn Q T1480 (mkF m 313 #[.val (.int p0), .val (.int p1), .val (.int p2), .val (.int p3), .val (.long q4), .second, .val (.int p5), .val (.int v785), .val (.int v786), .val (.long d788), .second, .val (.int v790), .val (.int v791), .val (.int v792), .val (.long v793), .second, .val (.long v794), .second, .val (.int v795), .val (.int d797), .val (.int d800), .val (.int v802), .val (.int v803), .val (.int v804), .val (.int v808), .val (.int v812), .val (.ref b1300), .val (.ref b1323), .val (.ref b1349), .val (.ref b1378), .unset, .unset, .unset, .unset, .unset, .unset] []) := by
              intro T1480 h1483 Lc1487 d1468 X1481 N1484 e1482 K1485 Z1486 f1469 f1470 f1471 f1472 f1473 f1474 f1475 f1476 f1477 f1478 hv_d1468
              refine k_aload K X1481 at_313 rfl rfl (q := 315) rfl ?_
              refine k_aload K X1481 at_315 rfl rfl (q := 317) rfl ?_
              refine k_lload K X1481 at_317 rfl (q := 319) rfl ?_
              refine k_virtual K X1481 e1482 at_319 (wd hw 46 rfl) (wd hw 47 rfl) (wd hw 49 rfl) (wd hw 48 rfl) (wd hw 8 rfl) (wd hw 50 rfl) (by decide) f1472 (rm81 l Z az hw [] b1378 b1323 v793 v790 v1427 b1411 (Int32.toNatClampNeg (Int64.toInt32 ((F_bytes v786 v785) / (8 : Int64)))) (fun _ => (0 : Int64)) h1483 n0 Z1486 f1470 f1476 f1478 f1473 ge1412 ne1416 ne1418 (own_ob_20 p0 p1 p2 p3 q4 p5 v785 v786 v790 v804 v1427 hv_v785 hv_v786 hv_v790 hv_v804 hv_v1427 hc884 hc942)) (W := 0) (by decide) (by decide) (by decide) (by decide) rfl pd_5 (argsL := [(.ref b1323), (.long v793)]) (rest := []) rfl rfl rfl (Nat.le_of_eq rfl) (q := 322) rfl ?_
              rintro _ T1488 L1489 X1490 ⟨rfl, N1491, K1492, f1494⟩
              have f1495 := Ary.keep f1469 K1492 (ninS ne1415 nin0)
              have f1496 := Ary.keep f1470 K1492 (ninS ne1416 nin0)
              have f1497 := Ary.keep f1471 K1492 (ninS ne1417 nin0)
              have f1498 := Exa.keep f1472 K1492
              have f1499 := Fld.keep f1474 K1492 (ninS ne1418 nin0)
              have f1500 := Fld.keep f1475 K1492 (ninS ne1418 nin0)
              have f1501 := Fld.keep f1476 K1492 (ninS ne1418 nin0)
              have f1502 := Fld.keep f1477 K1492 (ninS ne1418 nin0)
              have f1503 := Fld.keep f1478 K1492 (ninS ne1418 nin0)
              have N1504 := Fr.app N1484 N1491
              have K1505 := Keep.trans K1485 K1492 (allS (Or.inr bn1419) all0)
              have Z1506 := Nat.le_trans Z1486 K1492.1
              refine k_aload K X1490 at_322 rfl rfl (q := 324) rfl ?_
              refine k_aload K X1490 at_324 rfl rfl (q := 326) rfl ?_
              refine k_lload K X1490 at_326 rfl (q := 328) rfl ?_
              refine k_virtual K X1490 rfl at_328 (wd hw 46 rfl) (wd hw 47 rfl) (wd hw 49 rfl) (wd hw 48 rfl) (wd hw 8 rfl) (wd hw 50 rfl) (by decide) f1498 (rm81 l Z az hw [] b1378 b1349 v794 v791 v1427 b1411 (Int32.toNatClampNeg (Int64.toInt32 ((F_bytes v786 v785) / (8 : Int64)))) (F_add1_w_a0_words_g v793 v790 v1427 (Int32.toNatClampNeg (Int64.toInt32 ((F_bytes v786 v785) / (8 : Int64)))) (fun _ => (0 : Int64))) T1488.heap n0 Z1506 f1497 f1501 f1503 f1494 ge1412 ne1417 ne1418 (own_ob_21 p0 p1 p2 p3 q4 p5 v785 v786 v791 v804 v1427 hv_v785 hv_v786 hv_v791 hv_v804 hv_v1427 hc884 hc942)) (W := 0) (by decide) (by decide) (by decide) (by decide) rfl pd_5 (argsL := [(.ref b1349), (.long v794)]) (rest := []) rfl rfl rfl (Nat.le_of_eq rfl) (q := 331) rfl ?_
              rintro _ T1507 L1508 X1509 ⟨rfl, N1510, K1511, f1513⟩
              have f1514 := Ary.keep f1495 K1511 (ninS ne1415 nin0)
              have f1515 := Ary.keep f1497 K1511 (ninS ne1417 nin0)
              have f1516 := Exa.keep f1498 K1511
              have f1517 := Fld.keep f1499 K1511 (ninS ne1418 nin0)
              have f1518 := Fld.keep f1500 K1511 (ninS ne1418 nin0)
              have f1519 := Fld.keep f1501 K1511 (ninS ne1418 nin0)
              have f1520 := Fld.keep f1502 K1511 (ninS ne1418 nin0)
              have f1521 := Fld.keep f1503 K1511 (ninS ne1418 nin0)
              have N1522 := Fr.app N1504 N1510
              have K1523 := Keep.trans K1505 K1511 (allS (Or.inr bn1419) all0)
              have Z1524 := Nat.le_trans Z1506 K1511.1
              refine k_iload K X1509 at_331 rfl (q := 333) rfl ?_
              have J1553 : ∀ (T1554 : State) (h1557 : Heap) (Lc1561 : List Loc) (d1543 : Int64) (d1544 : Int64), Stand p l e room_1 s m #[(.int p0), (.int p1), (.int p2), (.int p3), (.long q4), (.int p5)] below meth c T1554 Lc1561 5 4104 → Fr n0 Lc1561 → T1554.heap = h1557 → Keep h0 h1557 [] → n0 ≤ h1557.size → Ary Z h1557 b1300 .int 1 (fun i => Value.int (List.getD [v808] i 0)) → Exa Z h1557 b1378 "com/example/dayflower/dayflower/filter/FilterSlab" → Fld Z h1557 b1378 "com/example/dayflower/dayflower/filter/FilterSlab" "dirty" "J" (.long d1543) → Fld Z h1557 b1378 "com/example/dayflower/dayflower/filter/FilterSlab" "inUse" "J" (.long d1544) → Fld Z h1557 b1378 "com/example/dayflower/dayflower/filter/FilterSlab" "laneShift" "I" (.int v1427) → Fld Z h1557 b1378 "com/example/dayflower/dayflower/filter/FilterSlab" "lanes" "I" (.int v785) → Fld Z h1557 b1378 "com/example/dayflower/dayflower/filter/FilterSlab" "words" "[J" (.ref b1411) → Ary Z h1557 b1411 .long (Int32.toNatClampNeg (Int64.toInt32 ((F_bytes v786 v785) / (8 : Int64)))) (fun i => Value.long ((F_add1_w_a0_words_g v794 v791 v1427 (Int32.toNatClampNeg (Int64.toInt32 ((F_bytes v786 v785) / (8 : Int64)))) (F_add1_w_a0_words_g v793 v790 v1427 (Int32.toNatClampNeg (Int64.toInt32 ((F_bytes v786 v785) / (8 : Int64)))) (fun _ => (0 : Int64)))) i)) → (if d800 = (0 : Int32) then (0 : Int64) else (F_free_a0_dirty v795 d1468 (0 : Int64) v785 v1427)) = d1543 → (if d800 = (0 : Int32) then d1468 else (F_free_a0_inUse v795 d1468 (0 : Int64) v785 v1427)) = d1544 → Run p e below s kc kn Q T1554 (mkF m 343 #[.val (.int p0), .val (.int p1), .val (.int p2), .val (.int p3), .val (.long q4), .second, .val (.int p5), .val (.int v785), .val (.int v786), .val (.long d788), .second, .val (.int v790), .val (.int v791), .val (.int v792), .val (.long v793), .second, .val (.long v794), .second, .val (.int v795), .val (.int d797), .val (.int d800), .val (.int v802), .val (.int v803), .val (.int v804), .val (.int v808), .val (.int v812), .val (.ref b1300), .val (.ref b1323), .val (.ref b1349), .val (.ref b1378), .unset, .unset, .unset, .unset, .unset, .unset] []) := by
                intro T1554 h1557 Lc1561 d1543 d1544 X1555 N1558 e1556 K1559 Z1560 f1545 f1546 f1547 f1548 f1549 f1550 f1551 f1552 hv_d1543 hv_d1544
                refine k_aload K X1555 at_343 rfl rfl (q := 345) rfl ?_
                refine k_aload K X1555 at_345 rfl rfl (q := 347) rfl ?_
                refine k_virtualP K X1555 e1556 at_347 (wd hw 51 rfl) (wd hw 52 rfl) (wd hw 54 rfl) (wd hw 53 rfl) (wd hw 8 rfl) (wd hw 55 rfl) (by decide) f1546 (rm91 l Z az hw [] b1378 b1300 d1544 v808 v1427 b1411 (Int32.toNatClampNeg (Int64.toInt32 ((F_bytes v786 v785) / (8 : Int64)))) (F_add1_w_a0_words_g v794 v791 v1427 (Int32.toNatClampNeg (Int64.toInt32 ((F_bytes v786 v785) / (8 : Int64)))) (F_add1_w_a0_words_g v793 v790 v1427 (Int32.toNatClampNeg (Int64.toInt32 ((F_bytes v786 v785) / (8 : Int64)))) (fun _ => (0 : Int64)))) h1557 f1548 f1545 f1549 f1551 f1552 (own_ob_22 p0 p1 p2 p3 q4 p5 v785 v786 v790 v791 v792 v802 v804 v808 v1427 hv_v785 hv_v786 hv_v790 hv_v791 hv_v792 hv_v802 hv_v804 hv_v808 hv_v1427 hc884 hc942)) (W := 0) (by decide) (by decide) (by decide) (by decide) rfl pd_6 (argsL := [(.ref b1300)]) (rest := []) rfl rfl rfl (Nat.le_of_eq rfl) (q := 350) rfl ?_
                intro T1562 X1563 e1564
                obtain ⟨v1565, hv_v1565⟩ : ∃ z : Int64, (F_holding1 d1544 v808 v1427 (Int32.toNatClampNeg (Int64.toInt32 ((F_bytes v786 v785) / (8 : Int64)))) (F_add1_w_a0_words_g v794 v791 v1427 (Int32.toNatClampNeg (Int64.toInt32 ((F_bytes v786 v785) / (8 : Int64)))) (F_add1_w_a0_words_g v793 v790 v1427 (Int32.toNatClampNeg (Int64.toInt32 ((F_bytes v786 v785) / (8 : Int64)))) (fun _ => (0 : Int64))))) = z := ⟨_, rfl⟩
                refine k_lstore K X1563 at_350 hv_v1565 (Ls' := #[.val (.int p0), .val (.int p1), .val (.int p2), .val (.int p3), .val (.long q4), .second, .val (.int p5), .val (.int v785), .val (.int v786), .val (.long d788), .second, .val (.int v790), .val (.int v791), .val (.int v792), .val (.long v793), .second, .val (.long v794), .second, .val (.int v795), .val (.int d797), .val (.int d800), .val (.int v802), .val (.int v803), .val (.int v804), .val (.int v808), .val (.int v812), .val (.ref b1300), .val (.ref b1323), .val (.ref b1349), .val (.ref b1378), .val (.long v1565), .second, .unset, .unset, .unset, .unset]) rfl (q := 352) rfl ?_
                refine k_lconst1 K X1563 at_352 (q := 353) rfl ?_
                refine k_iload K X1563 at_353 rfl (q := 355) rfl ?_
                refine k_lshl K X1563 at_355 (q := 356) rfl ?_
                refine k_lconst1 K X1563 at_356 (q := 357) rfl ?_
                refine k_iload K X1563 at_357 rfl (q := 359) rfl ?_
                refine k_lshl K X1563 at_359 (q := 360) rfl ?_
                refine k_lor K X1563 at_360 (q := 361) rfl ?_
                obtain ⟨v1566, hv_v1566⟩ : ∃ z : Int64, ((shlL (1 : Int64) v795) ||| (shlL (1 : Int64) d797)) = z := ⟨_, rfl⟩
                refine k_lstore K X1563 at_361 hv_v1566 (Ls' := #[.val (.int p0), .val (.int p1), .val (.int p2), .val (.int p3), .val (.long q4), .second, .val (.int p5), .val (.int v785), .val (.int v786), .val (.long d788), .second, .val (.int v790), .val (.int v791), .val (.int v792), .val (.long v793), .second, .val (.long v794), .second, .val (.int v795), .val (.int d797), .val (.int d800), .val (.int v802), .val (.int v803), .val (.int v804), .val (.int v808), .val (.int v812), .val (.ref b1300), .val (.ref b1323), .val (.ref b1349), .val (.ref b1378), .val (.long v1565), .second, .val (.long v1566), .second, .unset, .unset]) rfl (q := 363) rfl ?_
                refine k_iload K X1563 at_363 rfl (q := 365) rfl ?_
                have J1569 : ∀ (d1568 : Int64), (if d800 = (0 : Int32) then v1566 else (v1566 &&& ((shlL (1 : Int64) v795) ^^^ (-1 : Int64)))) = d1568 → Run p e below s kc kn Q T1562 (mkF m 381 #[.val (.int p0), .val (.int p1), .val (.int p2), .val (.int p3), .val (.long q4), .second, .val (.int p5), .val (.int v785), .val (.int v786), .val (.long d788), .second, .val (.int v790), .val (.int v791), .val (.int v792), .val (.long v793), .second, .val (.long v794), .second, .val (.int v795), .val (.int d797), .val (.int d800), .val (.int v802), .val (.int v803), .val (.int v804), .val (.int v808), .val (.int v812), .val (.ref b1300), .val (.ref b1323), .val (.ref b1349), .val (.ref b1378), .val (.long v1565), .second, .val (.long d1568), .second, .unset, .unset] []) := by
                  intro d1568 hv_d1568
                  refine k_lload K X1563 at_381 rfl (q := 383) rfl ?_
                  refine k_lstore K X1563 at_383 rfl (Ls' := #[.val (.int p0), .val (.int p1), .val (.int p2), .val (.int p3), .val (.long q4), .second, .val (.int p5), .val (.int v785), .val (.int v786), .val (.long d788), .second, .val (.int v790), .val (.int v791), .val (.int v792), .val (.long v793), .second, .val (.long v794), .second, .val (.int v795), .val (.int d797), .val (.int d800), .val (.int v802), .val (.int v803), .val (.int v804), .val (.int v808), .val (.int v812), .val (.ref b1300), .val (.ref b1323), .val (.ref b1349), .val (.ref b1378), .val (.long v1565), .second, .val (.long d1568), .second, .val (.long d1568), .second]) rfl (q := 385) rfl ?_
                  refine k_iload K X1563 at_385 rfl (q := 387) rfl ?_
                  refine k_iconst K X1563 at_387 (v := (1 : Int32)) rfl (q := 388) rfl ?_
                  have J1575 : ∀ (T1576 : State) (Lc1579 : List Loc) (d1574 : Int64), Stand p l e room_1 s m #[(.int p0), (.int p1), (.int p2), (.int p3), (.long q4), (.int p5)] below meth c T1576 Lc1579 5 4104 → Fr n0 Lc1579 → T1576.heap = h1557 → (if v804 < (1 : Int32) then d1568 else (d1568 &&& (F_lanesAt v808 v790 v793 v791 v794))) = d1574 → Run p e below s kc kn Q T1576 (mkF m 409 #[.val (.int p0), .val (.int p1), .val (.int p2), .val (.int p3), .val (.long q4), .second, .val (.int p5), .val (.int v785), .val (.int v786), .val (.long d788), .second, .val (.int v790), .val (.int v791), .val (.int v792), .val (.long v793), .second, .val (.long v794), .second, .val (.int v795), .val (.int d797), .val (.int d800), .val (.int v802), .val (.int v803), .val (.int v804), .val (.int v808), .val (.int v812), .val (.ref b1300), .val (.ref b1323), .val (.ref b1349), .val (.ref b1378), .val (.long v1565), .second, .val (.long d1568), .second, .val (.long d1574), .second] []) := by
                    intro T1576 Lc1579 d1574 X1577 N1580 e1578 hv_d1574
                    refine k_iload K X1577 at_409 rfl (q := 411) rfl ?_
                    refine k_iconst K X1577 at_411 (v := (2 : Int32)) rfl (q := 412) rfl ?_
                    have J1586 : ∀ (T1587 : State) (Lc1590 : List Loc) (d1585 : Int64), Stand p l e room_1 s m #[(.int p0), (.int p1), (.int p2), (.int p3), (.long q4), (.int p5)] below meth c T1587 Lc1590 5 4104 → Fr n0 Lc1590 → T1587.heap = h1557 → (if v804 < (2 : Int32) then d1574 else (d1574 &&& (F_lanesAt v812 v790 v793 v791 v794))) = d1585 → Run p e below s kc kn Q T1587 (mkF m 433 #[.val (.int p0), .val (.int p1), .val (.int p2), .val (.int p3), .val (.long q4), .second, .val (.int p5), .val (.int v785), .val (.int v786), .val (.long d788), .second, .val (.int v790), .val (.int v791), .val (.int v792), .val (.long v793), .second, .val (.long v794), .second, .val (.int v795), .val (.int d797), .val (.int d800), .val (.int v802), .val (.int v803), .val (.int v804), .val (.int v808), .val (.int v812), .val (.ref b1300), .val (.ref b1323), .val (.ref b1349), .val (.ref b1378), .val (.long v1565), .second, .val (.long d1568), .second, .val (.long d1585), .second] []) := by
                      intro T1587 Lc1590 d1585 X1588 N1591 e1589 hv_d1585
                      refine k_lload K X1588 at_433 rfl (q := 435) rfl ?_
                      refine k_lload K X1588 at_435 rfl (q := 437) rfl ?_
                      refine k_lcmp K X1588 at_437 (q := 438) rfl ?_
                      have J1594 : ∀ (d1593 : Int32), (if v1565 = d1585 then (1 : Int32) else (0 : Int32)) = d1593 → Run p e below s kc kn Q T1587 (mkF m 446 #[.val (.int p0), .val (.int p1), .val (.int p2), .val (.int p3), .val (.long q4), .second, .val (.int p5), .val (.int v785), .val (.int v786), .val (.long d788), .second, .val (.int v790), .val (.int v791), .val (.int v792), .val (.long v793), .second, .val (.long v794), .second, .val (.int v795), .val (.int d797), .val (.int d800), .val (.int v802), .val (.int v803), .val (.int v804), .val (.int v808), .val (.int v812), .val (.ref b1300), .val (.ref b1323), .val (.ref b1349), .val (.ref b1378), .val (.long v1565), .second, .val (.long d1568), .second, .val (.long d1585), .second] [(.int d1593)]) := by
                        intro d1593 hv_d1593
                        exact k_retz K X1588 e1589 at_446 (Nat.le_trans (by decide) hkc) (Nat.le_trans (by decide) hkn) (hQ _ _ _ ⟨(by show some (Value.int (nar .boolean d1593)) = some (Value.int (F_law p0 p1 p2 p3 q4 p5)); first | (simp only [F_law, hv_v785, hv_v786, hv_d788, hv_v790, hv_v791, hv_v792, hv_v793, hv_v794, hv_v795, hv_d797, hv_d800, hv_v802, hv_v803, hv_v804, hv_v808, hv_v812, hv_v1427, hv_v1447, hv_d1468, hv_d1543, hv_d1544, hv_v1565, hv_v1566, hv_d1568, hv_d1574, hv_d1585, hv_d1593, if_neg hc884, if_pos hc942]; done) | (subst hv_v785; subst hv_v786; subst hv_d788; subst hv_v790; subst hv_v791; subst hv_v792; subst hv_v793; subst hv_v794; subst hv_v795; subst hv_d797; subst hv_d800; subst hv_v802; subst hv_v803; subst hv_v804; subst hv_v808; subst hv_v812; subst hv_v1427; subst hv_v1447; subst hv_d1468; subst hv_d1543; subst hv_d1544; subst hv_v1565; subst hv_v1566; subst hv_d1568; subst hv_d1574; subst hv_d1585; subst hv_d1593; simp only [F_law, if_neg hc884, if_pos hc942])), N1591⟩)
                      refine k_lcmp_ne K X1588 at_438 (by decide) (q := 445) rfl (q' := 441) rfl ?_ ?_
                      · intro hc1595
                        refine k_iconst K X1588 at_445 (v := (0 : Int32)) rfl (q := 446) rfl ?_
                        exact J1594 _ (by first | (simp only [if_neg hc1595]; done) | rfl)
                      · intro hc1595
                        refine k_iconst K X1588 at_441 (v := (1 : Int32)) rfl (q := 442) rfl ?_
                        refine k_goto K X1588 at_442 (by decide) (q := 446) rfl ?_
                        exact J1594 _ (by first | (simp only [if_pos hc1595]; done) | rfl)
                    refine k_icmp_lt K X1577 at_412 (by decide) (q := 433) rfl (q' := 415) rfl ?_ ?_
                    · intro hc1596
                      exact J1586 T1576 _ _ X1577 N1580 e1578 (by first | (simp only [if_pos hc1596]; done) | rfl)
                    · intro hc1596
                      refine k_lload K X1577 at_415 rfl (q := 417) rfl ?_
                      refine k_iload K X1577 at_417 rfl (q := 419) rfl ?_
                      refine k_iload K X1577 at_419 rfl (q := 421) rfl ?_
                      refine k_lload K X1577 at_421 rfl (q := 423) rfl ?_
                      refine k_iload K X1577 at_423 rfl (q := 425) rfl ?_
                      refine k_lload K X1577 at_425 rfl (q := 427) rfl ?_
                      refine k_staticP K X1577 e1578 at_427 (wd hw 64 rfl) (wd hw 65 rfl) (wd hw 3 rfl) (wd hw 66 rfl) (by decide) (rm11 l Z az hw [] v812 v790 v793 v791 v794 h1557) (W := 2) (by decide) (by decide) (by decide) (by decide) rfl pd_7 (argsL := [(.int v812), (.int v790), (.long v793), (.int v791), (.long v794)]) (rest := [(.long d1574)]) rfl rfl rfl (Nat.le_of_eq rfl) (q := 430) rfl ?_
                      intro T1597 X1598 e1599
                      refine k_land K X1598 at_430 (q := 431) rfl ?_
                      refine k_lstore K X1598 at_431 rfl (Ls' := #[.val (.int p0), .val (.int p1), .val (.int p2), .val (.int p3), .val (.long q4), .second, .val (.int p5), .val (.int v785), .val (.int v786), .val (.long d788), .second, .val (.int v790), .val (.int v791), .val (.int v792), .val (.long v793), .second, .val (.long v794), .second, .val (.int v795), .val (.int d797), .val (.int d800), .val (.int v802), .val (.int v803), .val (.int v804), .val (.int v808), .val (.int v812), .val (.ref b1300), .val (.ref b1323), .val (.ref b1349), .val (.ref b1378), .val (.long v1565), .second, .val (.long d1568), .second, .val (.long (d1574 &&& (F_lanesAt v812 v790 v793 v791 v794))), .second]) rfl (q := 433) rfl ?_
                      exact J1586 T1597 _ _ X1598 N1580 e1599 (by first | (simp only [if_neg hc1596]; done) | rfl)
                  refine k_icmp_lt K X1563 at_388 (by decide) (q := 409) rfl (q' := 391) rfl ?_ ?_
                  · intro hc1600
                    exact J1575 T1562 _ _ X1563 N1558 e1564 (by first | (simp only [if_pos hc1600]; done) | rfl)
                  · intro hc1600
                    refine k_lload K X1563 at_391 rfl (q := 393) rfl ?_
                    refine k_iload K X1563 at_393 rfl (q := 395) rfl ?_
                    refine k_iload K X1563 at_395 rfl (q := 397) rfl ?_
                    refine k_lload K X1563 at_397 rfl (q := 399) rfl ?_
                    refine k_iload K X1563 at_399 rfl (q := 401) rfl ?_
                    refine k_lload K X1563 at_401 rfl (q := 403) rfl ?_
                    refine k_staticP K X1563 e1564 at_403 (wd hw 64 rfl) (wd hw 65 rfl) (wd hw 3 rfl) (wd hw 66 rfl) (by decide) (rm11 l Z az hw [] v808 v790 v793 v791 v794 h1557) (W := 2) (by decide) (by decide) (by decide) (by decide) rfl pd_7 (argsL := [(.int v808), (.int v790), (.long v793), (.int v791), (.long v794)]) (rest := [(.long d1568)]) rfl rfl rfl (Nat.le_of_eq rfl) (q := 406) rfl ?_
                    intro T1601 X1602 e1603
                    refine k_land K X1602 at_406 (q := 407) rfl ?_
                    refine k_lstore K X1602 at_407 rfl (Ls' := #[.val (.int p0), .val (.int p1), .val (.int p2), .val (.int p3), .val (.long q4), .second, .val (.int p5), .val (.int v785), .val (.int v786), .val (.long d788), .second, .val (.int v790), .val (.int v791), .val (.int v792), .val (.long v793), .second, .val (.long v794), .second, .val (.int v795), .val (.int d797), .val (.int d800), .val (.int v802), .val (.int v803), .val (.int v804), .val (.int v808), .val (.int v812), .val (.ref b1300), .val (.ref b1323), .val (.ref b1349), .val (.ref b1378), .val (.long v1565), .second, .val (.long d1568), .second, .val (.long (d1568 &&& (F_lanesAt v808 v790 v793 v791 v794))), .second]) rfl (q := 409) rfl ?_
                    exact J1575 T1601 _ _ X1602 N1558 e1603 (by first | (simp only [if_neg hc1600]; done) | rfl)
                refine k_if_eq K X1563 at_365 (by decide) (q := 381) rfl (q' := 368) rfl ?_ ?_
                · intro hc1604
                  exact J1569 _ (by first | (simp only [if_pos hc1604]; done) | rfl)
                · intro hc1604
                  refine k_lload K X1563 at_368 rfl (q := 370) rfl ?_
                  refine k_lconst1 K X1563 at_370 (q := 371) rfl ?_
                  refine k_iload K X1563 at_371 rfl (q := 373) rfl ?_
                  refine k_lshl K X1563 at_373 (q := 374) rfl ?_
                  refine k_ldc2 K X1563 at_374 (wd hw 62 rfl) (q := 377) rfl ?_
                  refine k_lxor K X1563 at_377 (q := 378) rfl ?_
                  refine k_land K X1563 at_378 (q := 379) rfl ?_
                  refine k_lstore K X1563 at_379 rfl (Ls' := #[.val (.int p0), .val (.int p1), .val (.int p2), .val (.int p3), .val (.long q4), .second, .val (.int p5), .val (.int v785), .val (.int v786), .val (.long d788), .second, .val (.int v790), .val (.int v791), .val (.int v792), .val (.long v793), .second, .val (.long v794), .second, .val (.int v795), .val (.int d797), .val (.int d800), .val (.int v802), .val (.int v803), .val (.int v804), .val (.int v808), .val (.int v812), .val (.ref b1300), .val (.ref b1323), .val (.ref b1349), .val (.ref b1378), .val (.long v1565), .second, .val (.long (v1566 &&& ((shlL (1 : Int64) v795) ^^^ (-1 : Int64)))), .second, .unset, .unset]) rfl (q := 381) rfl ?_
                  exact J1569 _ (by first | (simp only [if_neg hc1604]; done) | rfl)
              refine k_if_eq K X1509 at_333 (by decide) (q := 343) rfl (q' := 336) rfl ?_ ?_
              · intro hc1605
                exact J1553 T1507 _ _ _ _ X1509 N1522 rfl K1523 Z1524 f1514 f1516 f1517 f1518 f1519 f1520 f1521 f1513 (by first | (simp only [if_pos hc1605]; done) | rfl) (by first | (simp only [if_pos hc1605]; done) | rfl)
              · intro hc1605
                refine k_aload K X1509 at_336 rfl rfl (q := 338) rfl ?_
                refine k_iload K X1509 at_338 rfl (q := 340) rfl ?_
                refine k_virtual K X1509 rfl at_340 (wd hw 56 rfl) (wd hw 57 rfl) (wd hw 59 rfl) (wd hw 58 rfl) (wd hw 8 rfl) (wd hw 60 rfl) (by decide) f1516 (rm10 l Z az hw [] b1378 v795 d1468 (0 : Int64) v785 v1427 (.ref b1411) T1507.heap n0 Z1524 f1518 f1516 ge1388 f1517 f1520 f1519 f1521) (W := 0) (by decide) (by decide) (by decide) (by decide) rfl pd_4 (argsL := [(.int v795)]) (rest := []) rfl rfl rfl (Nat.le_of_eq rfl) (q := 343) rfl ?_
                rintro _ T1606 L1607 X1608 ⟨rfl, N1609, K1610, f1612, f1613, f1614, f1615, f1616⟩
                have f1617 := Ary.keep f1514 K1610 (ninS ne1385 nin0)
                have f1618 := Exa.keep f1516 K1610
                have f1619 := Ary.keep f1513 K1610 (ninS (Ne.symm ne1418) nin0)
                have N1620 := Fr.app N1522 N1609
                have K1621 := Keep.trans K1523 K1610 (allS (Or.inr bn1389) all0)
                have Z1622 := Nat.le_trans Z1524 K1610.1
                exact J1553 T1606 _ _ _ _ X1608 N1620 rfl K1621 Z1622 f1617 f1618 f1612 f1613 f1614 f1615 f1616 f1619 (by first | (simp only [if_neg hc1605]; done) | rfl) (by first | (simp only [if_neg hc1605]; done) | rfl)
            refine k_icmp_le K X1430 at_303 (by decide) (q := 313) rfl (q' := 306) rfl ?_ ?_
            · intro hc1623
              exact J1479 T1428 _ _ _ X1430 N1444 rfl K1445 Z1446 f1439 f1440 f1441 f1442 f1443 f1434 f1435 f1436 f1437 f1438 (by first | (simp only [if_neg hc1623]; done) | rfl)
            · intro hc1623
              refine k_aload K X1430 at_306 rfl rfl (q := 308) rfl ?_
              refine k_iload K X1430 at_308 rfl (q := 310) rfl ?_
              refine k_virtual K X1430 rfl at_310 (wd hw 37 rfl) (wd hw 38 rfl) (wd hw 40 rfl) (wd hw 39 rfl) (wd hw 8 rfl) (wd hw 41 rfl) (by decide) f1442 (rm7 l Z az hw [] b1378 d797 v1447 (0 : Int64) v785 v1427 (.ref b1411) T1428.heap n0 Z1446 f1435 f1434 f1442 ge1388 f1437 f1436 f1438 (own_ob_18 p0 p1 p2 p3 q4 p5 v785 v795 d797 v804 v1427 v1447 hv_v785 hv_v795 hv_d797 hv_v804 hv_v1427 hv_v1447 hc884 hc942 hc1623) (own_ob_19 p0 p1 p2 p3 q4 p5 v785 v795 d797 v804 hv_v785 hv_v795 hv_d797 hv_v804 hc884 hc942 hc1623)) (W := 0) (by decide) (by decide) (by decide) (by decide) rfl pd_4 (argsL := [(.int d797)]) (rest := []) rfl rfl rfl (Nat.le_of_eq rfl) (q := 313) rfl ?_
              rintro _ T1624 L1625 X1626 ⟨rfl, N1627, K1628, f1630, f1631, f1632, f1633, f1634⟩
              have f1635 := Ary.keep f1439 K1628 (ninS ne1385 nin0)
              have f1636 := Ary.keep f1440 K1628 (ninS ne1386 nin0)
              have f1637 := Ary.keep f1441 K1628 (ninS ne1387 nin0)
              have f1638 := Exa.keep f1442 K1628
              have f1639 := Ary.keep f1443 K1628 (ninS (Ne.symm ne1418) nin0)
              have N1640 := Fr.app N1444 N1627
              have K1641 := Keep.trans K1445 K1628 (allS (Or.inr bn1389) all0)
              have Z1642 := Nat.le_trans Z1446 K1628.1
              exact J1479 T1624 _ _ _ X1626 N1640 rfl K1641 Z1642 f1635 f1636 f1637 f1638 f1639 f1630 f1631 f1632 f1633 f1634 (by first | (simp only [if_pos hc1623]; done) | rfl)
        · intro hc884
          refine k_iconst K X810 at_218 (v := (0 : Int32)) rfl (q := 219) rfl ?_
          refine k_newarray K X810 e811 at_219 (ty := .int) rfl (wd hw 5 rfl) (n := 0) (cap := 0) (by decide) (by decide) (by decide) (by decide) (by decide) (q := 221) rfl ?_
          intro T1643 h1644 b1645 X1646 e1647 g1648 E1649 A1650 
          have ge1651 : n0 ≤ b1645 := Nat.le_trans Z0 (Nat.le_of_eq g1648.symm)
          have bn1652 : h0.size ≤ b1645 := Nat.le_trans K0.1 (Nat.le_of_eq g1648.symm)
          have K1653 := Keep.ext K0 E1649
          have Z1654 := Nat.le_trans Z0 E1649.1
          have f1655 : Ary Z h1644 b1645 .int 0 (fun i => Value.int (List.getD [] i 0)) := Ary.eqv A1650 (by intro i hi; omega)
          refine k_astore K X1646 at_221 rfl (Ls' := #[.val (.int p0), .val (.int p1), .val (.int p2), .val (.int p3), .val (.long q4), .second, .val (.int p5), .val (.int v785), .val (.int v786), .val (.long d788), .second, .val (.int v790), .val (.int v791), .val (.int v792), .val (.long v793), .second, .val (.long v794), .second, .val (.int v795), .val (.int d797), .val (.int d800), .val (.int v802), .val (.int v803), .val (.int v804), .val (.int v808), .val (.int v812), .val (.ref b1645), .unset, .unset, .unset, .unset, .unset, .unset, .unset, .unset, .unset]) rfl (q := 223) rfl ?_
          refine k_goto K X1646 at_223 (by decide) (q := 260) rfl ?_
          refine k_iconst K X1646 at_260 (v := (1 : Int32)) rfl (q := 261) rfl ?_
          refine k_newarray K X1646 e1647 at_261 (ty := .int) rfl (wd hw 5 rfl) (n := 1) (cap := 1) (by decide) (by decide) (by decide) (by decide) (by decide) (q := 263) rfl ?_
          intro T1656 h1657 b1658 X1659 e1660 g1661 E1662 A1663 
          have ne1664 : b1645 ≠ b1658 := Nat.ne_of_lt (Nat.lt_of_lt_of_eq (f1655).lt g1661.symm)
          have ge1665 : n0 ≤ b1658 := Nat.le_trans Z1654 (Nat.le_of_eq g1661.symm)
          have bn1666 : h0.size ≤ b1658 := Nat.le_trans K1653.1 (Nat.le_of_eq g1661.symm)
          have f1667 := Ary.ext f1655 E1662
          have K1668 := Keep.ext K1653 E1662
          have Z1669 := Nat.le_trans Z1654 E1662.1
          have f1670 : Ary Z h1657 b1658 .int 1 (fun i => Value.int (List.getD [(0 : Int32)] i 0)) := Ary.eqv A1663 (by intro i hi; match i, hi with | 0, _ => rfl | (k + 1), hi => exact absurd hi (by omega))
          refine k_dup K X1659 at_263 rfl (q := 264) rfl ?_
          refine k_iconst K X1659 at_264 (v := (0 : Int32)) rfl (q := 265) rfl ?_
          refine k_iload K X1659 at_265 rfl (q := 267) rfl ?_
          refine k_iastore K X1659 e1660 at_267 f1670 (i := 0) (by decide) (by decide) (q := 268) rfl ?_
          intro T1671 h1672 X1673 e1674 W1675 A1676
          have f1677 : Ary Z h1672 b1658 .int 1 (fun i => Value.int (List.getD [v790] i 0)) := Ary.eqv A1676 (fun i _ => setD Value.int [(0 : Int32)] 0 v790 0 (Nat.le_of_ble_eq_true rfl) i)
          have f1678 := Ary.other f1667 W1675 ne1664
          have N1679 := Fr.snoc X1673 N0 ge1665
          have K1680 := Keep.wr K1668 W1675 (Or.inr bn1666)
          have Z1681 := Nat.le_trans Z1669 (Nat.le_of_eq (Wr.size W1675).symm)
          refine k_astore K X1673 at_268 rfl (Ls' := #[.val (.int p0), .val (.int p1), .val (.int p2), .val (.int p3), .val (.long q4), .second, .val (.int p5), .val (.int v785), .val (.int v786), .val (.long d788), .second, .val (.int v790), .val (.int v791), .val (.int v792), .val (.long v793), .second, .val (.long v794), .second, .val (.int v795), .val (.int d797), .val (.int d800), .val (.int v802), .val (.int v803), .val (.int v804), .val (.int v808), .val (.int v812), .val (.ref b1645), .val (.ref b1658), .unset, .unset, .unset, .unset, .unset, .unset, .unset, .unset]) rfl (q := 270) rfl ?_
          refine k_iconst K X1673 at_270 (v := (1 : Int32)) rfl (q := 271) rfl ?_
          refine k_newarray K X1673 e1674 at_271 (ty := .int) rfl (wd hw 5 rfl) (n := 1) (cap := 1) (by decide) (by decide) (by decide) (by decide) (by decide) (q := 273) rfl ?_
          intro T1682 h1683 b1684 X1685 e1686 g1687 E1688 A1689 
          have ne1690 : b1645 ≠ b1684 := Nat.ne_of_lt (Nat.lt_of_lt_of_eq (f1678).lt g1687.symm)
          have ne1691 : b1658 ≠ b1684 := Nat.ne_of_lt (Nat.lt_of_lt_of_eq (f1677).lt g1687.symm)
          have ge1692 : n0 ≤ b1684 := Nat.le_trans Z1681 (Nat.le_of_eq g1687.symm)
          have bn1693 : h0.size ≤ b1684 := Nat.le_trans K1680.1 (Nat.le_of_eq g1687.symm)
          have f1694 := Ary.ext f1678 E1688
          have f1695 := Ary.ext f1677 E1688
          have K1696 := Keep.ext K1680 E1688
          have Z1697 := Nat.le_trans Z1681 E1688.1
          have f1698 : Ary Z h1683 b1684 .int 1 (fun i => Value.int (List.getD [(0 : Int32)] i 0)) := Ary.eqv A1689 (by intro i hi; match i, hi with | 0, _ => rfl | (k + 1), hi => exact absurd hi (by omega))
          refine k_dup K X1685 at_273 rfl (q := 274) rfl ?_
          refine k_iconst K X1685 at_274 (v := (0 : Int32)) rfl (q := 275) rfl ?_
          refine k_iload K X1685 at_275 rfl (q := 277) rfl ?_
          refine k_iastore K X1685 e1686 at_277 f1698 (i := 0) (by decide) (by decide) (q := 278) rfl ?_
          intro T1699 h1700 X1701 e1702 W1703 A1704
          have f1705 : Ary Z h1700 b1684 .int 1 (fun i => Value.int (List.getD [v791] i 0)) := Ary.eqv A1704 (fun i _ => setD Value.int [(0 : Int32)] 0 v791 0 (Nat.le_of_ble_eq_true rfl) i)
          have f1706 := Ary.other f1694 W1703 ne1690
          have f1707 := Ary.other f1695 W1703 ne1691
          have N1708 := Fr.snoc X1701 N1679 ge1692
          have K1709 := Keep.wr K1696 W1703 (Or.inr bn1693)
          have Z1710 := Nat.le_trans Z1697 (Nat.le_of_eq (Wr.size W1703).symm)
          refine k_astore K X1701 at_278 rfl (Ls' := #[.val (.int p0), .val (.int p1), .val (.int p2), .val (.int p3), .val (.long q4), .second, .val (.int p5), .val (.int v785), .val (.int v786), .val (.long d788), .second, .val (.int v790), .val (.int v791), .val (.int v792), .val (.long v793), .second, .val (.long v794), .second, .val (.int v795), .val (.int d797), .val (.int d800), .val (.int v802), .val (.int v803), .val (.int v804), .val (.int v808), .val (.int v812), .val (.ref b1645), .val (.ref b1658), .val (.ref b1684), .unset, .unset, .unset, .unset, .unset, .unset, .unset]) rfl (q := 280) rfl ?_
          refine k_new K X1701 e1702 at_280 (wd hw 6 rfl) (wd hw 7 rfl) (wd hw 8 rfl) (by decide) (by decide) (q := 283) rfl ?_
          intro T1711 h1712 b1713 X1714 e1715 g1716 E1717 A1718 D1719
          have ne1720 : b1645 ≠ b1713 := Nat.ne_of_lt (Nat.lt_of_lt_of_eq (f1706).lt g1716.symm)
          have ne1721 : b1658 ≠ b1713 := Nat.ne_of_lt (Nat.lt_of_lt_of_eq (f1707).lt g1716.symm)
          have ne1722 : b1684 ≠ b1713 := Nat.ne_of_lt (Nat.lt_of_lt_of_eq (f1705).lt g1716.symm)
          have ge1723 : n0 ≤ b1713 := Nat.le_trans Z1710 (Nat.le_of_eq g1716.symm)
          have bn1724 : h0.size ≤ b1713 := Nat.le_trans K1709.1 (Nat.le_of_eq g1716.symm)
          have f1725 := Ary.ext f1706 E1717
          have f1726 := Ary.ext f1707 E1717
          have f1727 := Ary.ext f1705 E1717
          have K1728 := Keep.ext K1709 E1717
          have Z1729 := Nat.le_trans Z1710 E1717.1
          have f1730 : Fld Z h1712 b1713 "com/example/dayflower/dayflower/filter/FilterSlab" "lanes" "I" (.int (0 : Int32)) := D1719 (Or.inr (wd hw 23 rfl)) (ty := .int) (by decide)
          have f1731 : Fld Z h1712 b1713 "com/example/dayflower/dayflower/filter/FilterSlab" "laneShift" "I" (.int (0 : Int32)) := D1719 (Or.inr (wd hw 28 rfl)) (ty := .int) (by decide)
          have f1732 : Fld Z h1712 b1713 "com/example/dayflower/dayflower/filter/FilterSlab" "words" "[J" .null := D1719 (Or.inr (wd hw 36 rfl)) (ty := (.array .long)) (by decide)
          have f1733 : Fld Z h1712 b1713 "com/example/dayflower/dayflower/filter/FilterSlab" "inUse" "J" (.long (0 : Int64)) := D1719 (Or.inl (wd hw 43 rfl)) (ty := .long) (by decide)
          have f1734 : Fld Z h1712 b1713 "com/example/dayflower/dayflower/filter/FilterSlab" "dirty" "J" (.long (0 : Int64)) := D1719 (Or.inl (wd hw 45 rfl)) (ty := .long) (by decide)
          refine k_dup K X1714 at_283 rfl (q := 284) rfl ?_
          refine k_iload K X1714 at_284 rfl (q := 286) rfl ?_
          refine k_iload K X1714 at_286 rfl (q := 288) rfl ?_
          refine k_special K X1714 e1715 at_288 rfl (wd hw 9 rfl) (wd hw 10 rfl) (wd hw 8 rfl) (wd hw 11 rfl) (by decide) (rm2 l Z az hw [] b1713 v786 v785 (0 : Int32) (0 : Int32) .null (0 : Int64) (0 : Int64) h1712 n0 Z1729 A1718 f1730 ge1723 f1731 f1732 f1733 f1734 (own_ob_23 p0 p1 p2 p3 q4 p5 v785 v804 hv_v785 hv_v804 hc884) (own_ob_24 p0 p1 p2 p3 q4 p5 v785 v804 hv_v785 hv_v804 hc884) (own_ob_25 p0 p1 p2 p3 q4 p5 v785 v804 hv_v785 hv_v804 hc884) (own_ob_26 p0 p1 p2 p3 q4 p5 v785 v786 v804 hv_v785 hv_v786 hv_v804 hc884)) (W := 1) (by decide) (by decide) (by decide) (by decide) rfl pd_3 (argsL := [(.int v786), (.int v785)]) (rest := [(.ref b1713)]) rfl rfl rfl (Nat.le_of_eq rfl) (q := 291) rfl ?_
          rintro _ T1735 L1736 X1737 ⟨b1746, ge1747, bn1748, rfl, N1738, K1739, f1741, f1742, f1743, f1744, f1745, f1749⟩
          have ne1750 : b1645 ≠ b1746 := Nat.ne_of_lt (Nat.lt_of_lt_of_le (f1725).lt bn1748)
          have ne1751 : b1658 ≠ b1746 := Nat.ne_of_lt (Nat.lt_of_lt_of_le (f1726).lt bn1748)
          have ne1752 : b1684 ≠ b1746 := Nat.ne_of_lt (Nat.lt_of_lt_of_le (f1727).lt bn1748)
          have ne1753 : b1713 ≠ b1746 := Nat.ne_of_lt (Nat.lt_of_lt_of_le (A1718).lt bn1748)
          have bn1754 : h0.size ≤ b1746 := Nat.le_trans K1728.1 bn1748
          have f1755 := Ary.keep f1725 K1739 (ninS ne1720 nin0)
          have f1756 := Ary.keep f1726 K1739 (ninS ne1721 nin0)
          have f1757 := Ary.keep f1727 K1739 (ninS ne1722 nin0)
          have f1758 := Exa.keep A1718 K1739
          have N1759 := Fr.app N1708 N1738
          have K1760 := Keep.trans K1728 K1739 (allS (Or.inr bn1724) all0)
          have Z1761 := Nat.le_trans Z1729 K1739.1
          obtain ⟨v1762, hv_v1762⟩ : ∃ z : Int32, (F_numberOfTrailingZeros v785) = z := ⟨_, rfl⟩
          rw [hv_v1762] at f1743
          refine k_astore K X1737 at_291 rfl (Ls' := #[.val (.int p0), .val (.int p1), .val (.int p2), .val (.int p3), .val (.long q4), .second, .val (.int p5), .val (.int v785), .val (.int v786), .val (.long d788), .second, .val (.int v790), .val (.int v791), .val (.int v792), .val (.long v793), .second, .val (.long v794), .second, .val (.int v795), .val (.int d797), .val (.int d800), .val (.int v802), .val (.int v803), .val (.int v804), .val (.int v808), .val (.int v812), .val (.ref b1645), .val (.ref b1658), .val (.ref b1684), .val (.ref b1713), .unset, .unset, .unset, .unset, .unset, .unset]) rfl (q := 293) rfl ?_
          refine k_aload K X1737 at_293 rfl rfl (q := 295) rfl ?_
          refine k_iload K X1737 at_295 rfl (q := 297) rfl ?_
          refine k_virtual K X1737 rfl at_297 (wd hw 37 rfl) (wd hw 38 rfl) (wd hw 40 rfl) (wd hw 39 rfl) (wd hw 8 rfl) (wd hw 41 rfl) (by decide) f1758 (rm7 l Z az hw [] b1713 v795 (0 : Int64) (0 : Int64) v785 v1762 (.ref b1746) T1735.heap n0 Z1761 f1742 f1741 f1758 ge1723 f1744 f1743 f1745 (own_ob_27 p0 p1 p2 p3 q4 p5 v785 v795 v804 hv_v785 hv_v795 hv_v804 hc884) (own_ob_27 p0 p1 p2 p3 q4 p5 v785 v795 v804 hv_v785 hv_v795 hv_v804 hc884)) (W := 0) (by decide) (by decide) (by decide) (by decide) rfl pd_4 (argsL := [(.int v795)]) (rest := []) rfl rfl rfl (Nat.le_of_eq rfl) (q := 300) rfl ?_
          rintro _ T1763 L1764 X1765 ⟨rfl, N1766, K1767, f1769, f1770, f1771, f1772, f1773⟩
          have f1774 := Ary.keep f1755 K1767 (ninS ne1720 nin0)
          have f1775 := Ary.keep f1756 K1767 (ninS ne1721 nin0)
          have f1776 := Ary.keep f1757 K1767 (ninS ne1722 nin0)
          have f1777 := Exa.keep f1758 K1767
          have f1778 := Ary.keep f1749 K1767 (ninS (Ne.symm ne1753) nin0)
          have N1779 := Fr.app N1759 N1766
          have K1780 := Keep.trans K1760 K1767 (allS (Or.inr bn1724) all0)
          have Z1781 := Nat.le_trans Z1761 K1767.1
          obtain ⟨v1782, hv_v1782⟩ : ∃ z : Int64, (F_take_a0_inUse v795 (0 : Int64) (0 : Int64) v785 v1762) = z := ⟨_, rfl⟩
          rw [hv_v1782] at f1770
          refine k_iload K X1765 at_300 rfl (q := 302) rfl ?_
          refine k_iconst K X1765 at_302 (v := (1 : Int32)) rfl (q := 303) rfl ?_
          have J1814 : ∀ (T1815 : State) (h1818 : Heap) (Lc1822 : List Loc) (d1803 : Int64), Stand p l e room_1 s m #[(.int p0), (.int p1), (.int p2), (.int p3), (.long q4), (.int p5)] below meth c T1815 Lc1822 5 4103 → Fr n0 Lc1822 → T1815.heap = h1818 → Keep h0 h1818 [] → n0 ≤ h1818.size → Ary Z h1818 b1645 .int 0 (fun i => Value.int (List.getD [] i 0)) → Ary Z h1818 b1658 .int 1 (fun i => Value.int (List.getD [v790] i 0)) → Ary Z h1818 b1684 .int 1 (fun i => Value.int (List.getD [v791] i 0)) → Exa Z h1818 b1713 "com/example/dayflower/dayflower/filter/FilterSlab" → Ary Z h1818 b1746 .long (Int32.toNatClampNeg (Int64.toInt32 ((F_bytes v786 v785) / (8 : Int64)))) (fun i => Value.long ((fun _ => (0 : Int64)) i)) → Fld Z h1818 b1713 "com/example/dayflower/dayflower/filter/FilterSlab" "dirty" "J" (.long (0 : Int64)) → Fld Z h1818 b1713 "com/example/dayflower/dayflower/filter/FilterSlab" "inUse" "J" (.long d1803) → Fld Z h1818 b1713 "com/example/dayflower/dayflower/filter/FilterSlab" "laneShift" "I" (.int v1762) → Fld Z h1818 b1713 "com/example/dayflower/dayflower/filter/FilterSlab" "lanes" "I" (.int v785) → Fld Z h1818 b1713 "com/example/dayflower/dayflower/filter/FilterSlab" "words" "[J" (.ref b1746) → (if (1 : Int32) < v785 then (F_take_a0_inUse d797 v1782 (0 : Int64) v785 v1762) else v1782) = d1803 → Run p e below s kc kn Q T1815 (mkF m 313 #[.val (.int p0), .val (.int p1), .val (.int p2), .val (.int p3), .val (.long q4), .second, .val (.int p5), .val (.int v785), .val (.int v786), .val (.long d788), .second, .val (.int v790), .val (.int v791), .val (.int v792), .val (.long v793), .second, .val (.long v794), .second, .val (.int v795), .val (.int d797), .val (.int d800), .val (.int v802), .val (.int v803), .val (.int v804), .val (.int v808), .val (.int v812), .val (.ref b1645), .val (.ref b1658), .val (.ref b1684), .val (.ref b1713), .unset, .unset, .unset, .unset, .unset, .unset] []) := by
            intro T1815 h1818 Lc1822 d1803 X1816 N1819 e1817 K1820 Z1821 f1804 f1805 f1806 f1807 f1808 f1809 f1810 f1811 f1812 f1813 hv_d1803
            refine k_aload K X1816 at_313 rfl rfl (q := 315) rfl ?_
            refine k_aload K X1816 at_315 rfl rfl (q := 317) rfl ?_
            refine k_lload K X1816 at_317 rfl (q := 319) rfl ?_
            refine k_virtual K X1816 e1817 at_319 (wd hw 46 rfl) (wd hw 47 rfl) (wd hw 49 rfl) (wd hw 48 rfl) (wd hw 8 rfl) (wd hw 50 rfl) (by decide) f1807 (rm81 l Z az hw [] b1713 b1658 v793 v790 v1762 b1746 (Int32.toNatClampNeg (Int64.toInt32 ((F_bytes v786 v785) / (8 : Int64)))) (fun _ => (0 : Int64)) h1818 n0 Z1821 f1805 f1811 f1813 f1808 ge1747 ne1751 ne1753 (own_ob_30 p0 p1 p2 p3 q4 p5 v785 v786 v790 v804 v1762 hv_v785 hv_v786 hv_v790 hv_v804 hv_v1762 hc884)) (W := 0) (by decide) (by decide) (by decide) (by decide) rfl pd_5 (argsL := [(.ref b1658), (.long v793)]) (rest := []) rfl rfl rfl (Nat.le_of_eq rfl) (q := 322) rfl ?_
            rintro _ T1823 L1824 X1825 ⟨rfl, N1826, K1827, f1829⟩
            have f1830 := Ary.keep f1804 K1827 (ninS ne1750 nin0)
            have f1831 := Ary.keep f1805 K1827 (ninS ne1751 nin0)
            have f1832 := Ary.keep f1806 K1827 (ninS ne1752 nin0)
            have f1833 := Exa.keep f1807 K1827
            have f1834 := Fld.keep f1809 K1827 (ninS ne1753 nin0)
            have f1835 := Fld.keep f1810 K1827 (ninS ne1753 nin0)
            have f1836 := Fld.keep f1811 K1827 (ninS ne1753 nin0)
            have f1837 := Fld.keep f1812 K1827 (ninS ne1753 nin0)
            have f1838 := Fld.keep f1813 K1827 (ninS ne1753 nin0)
            have N1839 := Fr.app N1819 N1826
            have K1840 := Keep.trans K1820 K1827 (allS (Or.inr bn1754) all0)
            have Z1841 := Nat.le_trans Z1821 K1827.1
            refine k_aload K X1825 at_322 rfl rfl (q := 324) rfl ?_
            refine k_aload K X1825 at_324 rfl rfl (q := 326) rfl ?_
            refine k_lload K X1825 at_326 rfl (q := 328) rfl ?_
            refine k_virtual K X1825 rfl at_328 (wd hw 46 rfl) (wd hw 47 rfl) (wd hw 49 rfl) (wd hw 48 rfl) (wd hw 8 rfl) (wd hw 50 rfl) (by decide) f1833 (rm81 l Z az hw [] b1713 b1684 v794 v791 v1762 b1746 (Int32.toNatClampNeg (Int64.toInt32 ((F_bytes v786 v785) / (8 : Int64)))) (F_add1_w_a0_words_g v793 v790 v1762 (Int32.toNatClampNeg (Int64.toInt32 ((F_bytes v786 v785) / (8 : Int64)))) (fun _ => (0 : Int64))) T1823.heap n0 Z1841 f1832 f1836 f1838 f1829 ge1747 ne1752 ne1753 (own_ob_31 p0 p1 p2 p3 q4 p5 v785 v786 v791 v804 v1762 hv_v785 hv_v786 hv_v791 hv_v804 hv_v1762 hc884)) (W := 0) (by decide) (by decide) (by decide) (by decide) rfl pd_5 (argsL := [(.ref b1684), (.long v794)]) (rest := []) rfl rfl rfl (Nat.le_of_eq rfl) (q := 331) rfl ?_
            rintro _ T1842 L1843 X1844 ⟨rfl, N1845, K1846, f1848⟩
            have f1849 := Ary.keep f1830 K1846 (ninS ne1750 nin0)
            have f1850 := Ary.keep f1832 K1846 (ninS ne1752 nin0)
            have f1851 := Exa.keep f1833 K1846
            have f1852 := Fld.keep f1834 K1846 (ninS ne1753 nin0)
            have f1853 := Fld.keep f1835 K1846 (ninS ne1753 nin0)
            have f1854 := Fld.keep f1836 K1846 (ninS ne1753 nin0)
            have f1855 := Fld.keep f1837 K1846 (ninS ne1753 nin0)
            have f1856 := Fld.keep f1838 K1846 (ninS ne1753 nin0)
            have N1857 := Fr.app N1839 N1845
            have K1858 := Keep.trans K1840 K1846 (allS (Or.inr bn1754) all0)
            have Z1859 := Nat.le_trans Z1841 K1846.1
            refine k_iload K X1844 at_331 rfl (q := 333) rfl ?_
            have J1888 : ∀ (T1889 : State) (h1892 : Heap) (Lc1896 : List Loc) (d1878 : Int64) (d1879 : Int64), Stand p l e room_1 s m #[(.int p0), (.int p1), (.int p2), (.int p3), (.long q4), (.int p5)] below meth c T1889 Lc1896 5 4103 → Fr n0 Lc1896 → T1889.heap = h1892 → Keep h0 h1892 [] → n0 ≤ h1892.size → Ary Z h1892 b1645 .int 0 (fun i => Value.int (List.getD [] i 0)) → Exa Z h1892 b1713 "com/example/dayflower/dayflower/filter/FilterSlab" → Fld Z h1892 b1713 "com/example/dayflower/dayflower/filter/FilterSlab" "dirty" "J" (.long d1878) → Fld Z h1892 b1713 "com/example/dayflower/dayflower/filter/FilterSlab" "inUse" "J" (.long d1879) → Fld Z h1892 b1713 "com/example/dayflower/dayflower/filter/FilterSlab" "laneShift" "I" (.int v1762) → Fld Z h1892 b1713 "com/example/dayflower/dayflower/filter/FilterSlab" "lanes" "I" (.int v785) → Fld Z h1892 b1713 "com/example/dayflower/dayflower/filter/FilterSlab" "words" "[J" (.ref b1746) → Ary Z h1892 b1746 .long (Int32.toNatClampNeg (Int64.toInt32 ((F_bytes v786 v785) / (8 : Int64)))) (fun i => Value.long ((F_add1_w_a0_words_g v794 v791 v1762 (Int32.toNatClampNeg (Int64.toInt32 ((F_bytes v786 v785) / (8 : Int64)))) (F_add1_w_a0_words_g v793 v790 v1762 (Int32.toNatClampNeg (Int64.toInt32 ((F_bytes v786 v785) / (8 : Int64)))) (fun _ => (0 : Int64)))) i)) → (if d800 = (0 : Int32) then (0 : Int64) else (F_free_a0_dirty v795 d1803 (0 : Int64) v785 v1762)) = d1878 → (if d800 = (0 : Int32) then d1803 else (F_free_a0_inUse v795 d1803 (0 : Int64) v785 v1762)) = d1879 → Run p e below s kc kn Q T1889 (mkF m 343 #[.val (.int p0), .val (.int p1), .val (.int p2), .val (.int p3), .val (.long q4), .second, .val (.int p5), .val (.int v785), .val (.int v786), .val (.long d788), .second, .val (.int v790), .val (.int v791), .val (.int v792), .val (.long v793), .second, .val (.long v794), .second, .val (.int v795), .val (.int d797), .val (.int d800), .val (.int v802), .val (.int v803), .val (.int v804), .val (.int v808), .val (.int v812), .val (.ref b1645), .val (.ref b1658), .val (.ref b1684), .val (.ref b1713), .unset, .unset, .unset, .unset, .unset, .unset] []) := by
              intro T1889 h1892 Lc1896 d1878 d1879 X1890 N1893 e1891 K1894 Z1895 f1880 f1881 f1882 f1883 f1884 f1885 f1886 f1887 hv_d1878 hv_d1879
              refine k_aload K X1890 at_343 rfl rfl (q := 345) rfl ?_
              refine k_aload K X1890 at_345 rfl rfl (q := 347) rfl ?_
              refine k_virtualP K X1890 e1891 at_347 (wd hw 51 rfl) (wd hw 52 rfl) (wd hw 54 rfl) (wd hw 53 rfl) (wd hw 8 rfl) (wd hw 55 rfl) (by decide) f1881 (rm90 l Z az hw [] b1713 b1645 d1879 h1892 f1883 f1880) (W := 0) (by decide) (by decide) (by decide) (by decide) rfl pd_6 (argsL := [(.ref b1645)]) (rest := []) rfl rfl rfl (Nat.le_of_eq rfl) (q := 350) rfl ?_
              intro T1897 X1898 e1899
              obtain ⟨v1900, hv_v1900⟩ : ∃ z : Int64, (F_holding0 d1879) = z := ⟨_, rfl⟩
              refine k_lstore K X1898 at_350 hv_v1900 (Ls' := #[.val (.int p0), .val (.int p1), .val (.int p2), .val (.int p3), .val (.long q4), .second, .val (.int p5), .val (.int v785), .val (.int v786), .val (.long d788), .second, .val (.int v790), .val (.int v791), .val (.int v792), .val (.long v793), .second, .val (.long v794), .second, .val (.int v795), .val (.int d797), .val (.int d800), .val (.int v802), .val (.int v803), .val (.int v804), .val (.int v808), .val (.int v812), .val (.ref b1645), .val (.ref b1658), .val (.ref b1684), .val (.ref b1713), .val (.long v1900), .second, .unset, .unset, .unset, .unset]) rfl (q := 352) rfl ?_
              refine k_lconst1 K X1898 at_352 (q := 353) rfl ?_
              refine k_iload K X1898 at_353 rfl (q := 355) rfl ?_
              refine k_lshl K X1898 at_355 (q := 356) rfl ?_
              refine k_lconst1 K X1898 at_356 (q := 357) rfl ?_
              refine k_iload K X1898 at_357 rfl (q := 359) rfl ?_
              refine k_lshl K X1898 at_359 (q := 360) rfl ?_
              refine k_lor K X1898 at_360 (q := 361) rfl ?_
              obtain ⟨v1901, hv_v1901⟩ : ∃ z : Int64, ((shlL (1 : Int64) v795) ||| (shlL (1 : Int64) d797)) = z := ⟨_, rfl⟩
              refine k_lstore K X1898 at_361 hv_v1901 (Ls' := #[.val (.int p0), .val (.int p1), .val (.int p2), .val (.int p3), .val (.long q4), .second, .val (.int p5), .val (.int v785), .val (.int v786), .val (.long d788), .second, .val (.int v790), .val (.int v791), .val (.int v792), .val (.long v793), .second, .val (.long v794), .second, .val (.int v795), .val (.int d797), .val (.int d800), .val (.int v802), .val (.int v803), .val (.int v804), .val (.int v808), .val (.int v812), .val (.ref b1645), .val (.ref b1658), .val (.ref b1684), .val (.ref b1713), .val (.long v1900), .second, .val (.long v1901), .second, .unset, .unset]) rfl (q := 363) rfl ?_
              refine k_iload K X1898 at_363 rfl (q := 365) rfl ?_
              have J1904 : ∀ (d1903 : Int64), (if d800 = (0 : Int32) then v1901 else (v1901 &&& ((shlL (1 : Int64) v795) ^^^ (-1 : Int64)))) = d1903 → Run p e below s kc kn Q T1897 (mkF m 381 #[.val (.int p0), .val (.int p1), .val (.int p2), .val (.int p3), .val (.long q4), .second, .val (.int p5), .val (.int v785), .val (.int v786), .val (.long d788), .second, .val (.int v790), .val (.int v791), .val (.int v792), .val (.long v793), .second, .val (.long v794), .second, .val (.int v795), .val (.int d797), .val (.int d800), .val (.int v802), .val (.int v803), .val (.int v804), .val (.int v808), .val (.int v812), .val (.ref b1645), .val (.ref b1658), .val (.ref b1684), .val (.ref b1713), .val (.long v1900), .second, .val (.long d1903), .second, .unset, .unset] []) := by
                intro d1903 hv_d1903
                refine k_lload K X1898 at_381 rfl (q := 383) rfl ?_
                refine k_lstore K X1898 at_383 rfl (Ls' := #[.val (.int p0), .val (.int p1), .val (.int p2), .val (.int p3), .val (.long q4), .second, .val (.int p5), .val (.int v785), .val (.int v786), .val (.long d788), .second, .val (.int v790), .val (.int v791), .val (.int v792), .val (.long v793), .second, .val (.long v794), .second, .val (.int v795), .val (.int d797), .val (.int d800), .val (.int v802), .val (.int v803), .val (.int v804), .val (.int v808), .val (.int v812), .val (.ref b1645), .val (.ref b1658), .val (.ref b1684), .val (.ref b1713), .val (.long v1900), .second, .val (.long d1903), .second, .val (.long d1903), .second]) rfl (q := 385) rfl ?_
                refine k_iload K X1898 at_385 rfl (q := 387) rfl ?_
                refine k_iconst K X1898 at_387 (v := (1 : Int32)) rfl (q := 388) rfl ?_
                have J1910 : ∀ (T1911 : State) (Lc1914 : List Loc) (d1909 : Int64), Stand p l e room_1 s m #[(.int p0), (.int p1), (.int p2), (.int p3), (.long q4), (.int p5)] below meth c T1911 Lc1914 5 4103 → Fr n0 Lc1914 → T1911.heap = h1892 → (if v804 < (1 : Int32) then d1903 else (d1903 &&& (F_lanesAt v808 v790 v793 v791 v794))) = d1909 → Run p e below s kc kn Q T1911 (mkF m 409 #[.val (.int p0), .val (.int p1), .val (.int p2), .val (.int p3), .val (.long q4), .second, .val (.int p5), .val (.int v785), .val (.int v786), .val (.long d788), .second, .val (.int v790), .val (.int v791), .val (.int v792), .val (.long v793), .second, .val (.long v794), .second, .val (.int v795), .val (.int d797), .val (.int d800), .val (.int v802), .val (.int v803), .val (.int v804), .val (.int v808), .val (.int v812), .val (.ref b1645), .val (.ref b1658), .val (.ref b1684), .val (.ref b1713), .val (.long v1900), .second, .val (.long d1903), .second, .val (.long d1909), .second] []) := by
                  intro T1911 Lc1914 d1909 X1912 N1915 e1913 hv_d1909
                  refine k_iload K X1912 at_409 rfl (q := 411) rfl ?_
                  refine k_iconst K X1912 at_411 (v := (2 : Int32)) rfl (q := 412) rfl ?_
                  have J1921 : ∀ (T1922 : State) (Lc1925 : List Loc) (d1920 : Int64), Stand p l e room_1 s m #[(.int p0), (.int p1), (.int p2), (.int p3), (.long q4), (.int p5)] below meth c T1922 Lc1925 5 4103 → Fr n0 Lc1925 → T1922.heap = h1892 → (if v804 < (2 : Int32) then d1909 else (d1909 &&& (F_lanesAt v812 v790 v793 v791 v794))) = d1920 → Run p e below s kc kn Q T1922 (mkF m 433 #[.val (.int p0), .val (.int p1), .val (.int p2), .val (.int p3), .val (.long q4), .second, .val (.int p5), .val (.int v785), .val (.int v786), .val (.long d788), .second, .val (.int v790), .val (.int v791), .val (.int v792), .val (.long v793), .second, .val (.long v794), .second, .val (.int v795), .val (.int d797), .val (.int d800), .val (.int v802), .val (.int v803), .val (.int v804), .val (.int v808), .val (.int v812), .val (.ref b1645), .val (.ref b1658), .val (.ref b1684), .val (.ref b1713), .val (.long v1900), .second, .val (.long d1903), .second, .val (.long d1920), .second] []) := by
                    intro T1922 Lc1925 d1920 X1923 N1926 e1924 hv_d1920
                    refine k_lload K X1923 at_433 rfl (q := 435) rfl ?_
                    refine k_lload K X1923 at_435 rfl (q := 437) rfl ?_
                    refine k_lcmp K X1923 at_437 (q := 438) rfl ?_
                    have J1929 : ∀ (d1928 : Int32), (if v1900 = d1920 then (1 : Int32) else (0 : Int32)) = d1928 → Run p e below s kc kn Q T1922 (mkF m 446 #[.val (.int p0), .val (.int p1), .val (.int p2), .val (.int p3), .val (.long q4), .second, .val (.int p5), .val (.int v785), .val (.int v786), .val (.long d788), .second, .val (.int v790), .val (.int v791), .val (.int v792), .val (.long v793), .second, .val (.long v794), .second, .val (.int v795), .val (.int d797), .val (.int d800), .val (.int v802), .val (.int v803), .val (.int v804), .val (.int v808), .val (.int v812), .val (.ref b1645), .val (.ref b1658), .val (.ref b1684), .val (.ref b1713), .val (.long v1900), .second, .val (.long d1903), .second, .val (.long d1920), .second] [(.int d1928)]) := by
                      intro d1928 hv_d1928
                      exact k_retz K X1923 e1924 at_446 (Nat.le_trans (by decide) hkc) (Nat.le_trans (by decide) hkn) (hQ _ _ _ ⟨(by show some (Value.int (nar .boolean d1928)) = some (Value.int (F_law p0 p1 p2 p3 q4 p5)); first | (simp only [F_law, hv_v785, hv_v786, hv_d788, hv_v790, hv_v791, hv_v792, hv_v793, hv_v794, hv_v795, hv_d797, hv_d800, hv_v802, hv_v803, hv_v804, hv_v808, hv_v812, hv_v1762, hv_v1782, hv_d1803, hv_d1878, hv_d1879, hv_v1900, hv_v1901, hv_d1903, hv_d1909, hv_d1920, hv_d1928, if_pos hc884]; done) | (subst hv_v785; subst hv_v786; subst hv_d788; subst hv_v790; subst hv_v791; subst hv_v792; subst hv_v793; subst hv_v794; subst hv_v795; subst hv_d797; subst hv_d800; subst hv_v802; subst hv_v803; subst hv_v804; subst hv_v808; subst hv_v812; subst hv_v1762; subst hv_v1782; subst hv_d1803; subst hv_d1878; subst hv_d1879; subst hv_v1900; subst hv_v1901; subst hv_d1903; subst hv_d1909; subst hv_d1920; subst hv_d1928; simp only [F_law, if_pos hc884])), N1926⟩)
                    refine k_lcmp_ne K X1923 at_438 (by decide) (q := 445) rfl (q' := 441) rfl ?_ ?_
                    · intro hc1930
                      refine k_iconst K X1923 at_445 (v := (0 : Int32)) rfl (q := 446) rfl ?_
                      exact J1929 _ (by first | (simp only [if_neg hc1930]; done) | rfl)
                    · intro hc1930
                      refine k_iconst K X1923 at_441 (v := (1 : Int32)) rfl (q := 442) rfl ?_
                      refine k_goto K X1923 at_442 (by decide) (q := 446) rfl ?_
                      exact J1929 _ (by first | (simp only [if_pos hc1930]; done) | rfl)
                  refine k_icmp_lt K X1912 at_412 (by decide) (q := 433) rfl (q' := 415) rfl ?_ ?_
                  · intro hc1931
                    exact J1921 T1911 _ _ X1912 N1915 e1913 (by first | (simp only [if_pos hc1931]; done) | rfl)
                  · intro hc1931
                    refine k_lload K X1912 at_415 rfl (q := 417) rfl ?_
                    refine k_iload K X1912 at_417 rfl (q := 419) rfl ?_
                    refine k_iload K X1912 at_419 rfl (q := 421) rfl ?_
                    refine k_lload K X1912 at_421 rfl (q := 423) rfl ?_
                    refine k_iload K X1912 at_423 rfl (q := 425) rfl ?_
                    refine k_lload K X1912 at_425 rfl (q := 427) rfl ?_
                    refine k_staticP K X1912 e1913 at_427 (wd hw 64 rfl) (wd hw 65 rfl) (wd hw 3 rfl) (wd hw 66 rfl) (by decide) (rm11 l Z az hw [] v812 v790 v793 v791 v794 h1892) (W := 2) (by decide) (by decide) (by decide) (by decide) rfl pd_7 (argsL := [(.int v812), (.int v790), (.long v793), (.int v791), (.long v794)]) (rest := [(.long d1909)]) rfl rfl rfl (Nat.le_of_eq rfl) (q := 430) rfl ?_
                    intro T1932 X1933 e1934
                    refine k_land K X1933 at_430 (q := 431) rfl ?_
                    refine k_lstore K X1933 at_431 rfl (Ls' := #[.val (.int p0), .val (.int p1), .val (.int p2), .val (.int p3), .val (.long q4), .second, .val (.int p5), .val (.int v785), .val (.int v786), .val (.long d788), .second, .val (.int v790), .val (.int v791), .val (.int v792), .val (.long v793), .second, .val (.long v794), .second, .val (.int v795), .val (.int d797), .val (.int d800), .val (.int v802), .val (.int v803), .val (.int v804), .val (.int v808), .val (.int v812), .val (.ref b1645), .val (.ref b1658), .val (.ref b1684), .val (.ref b1713), .val (.long v1900), .second, .val (.long d1903), .second, .val (.long (d1909 &&& (F_lanesAt v812 v790 v793 v791 v794))), .second]) rfl (q := 433) rfl ?_
                    exact J1921 T1932 _ _ X1933 N1915 e1934 (by first | (simp only [if_neg hc1931]; done) | rfl)
                refine k_icmp_lt K X1898 at_388 (by decide) (q := 409) rfl (q' := 391) rfl ?_ ?_
                · intro hc1935
                  exact J1910 T1897 _ _ X1898 N1893 e1899 (by first | (simp only [if_pos hc1935]; done) | rfl)
                · intro hc1935
                  refine k_lload K X1898 at_391 rfl (q := 393) rfl ?_
                  refine k_iload K X1898 at_393 rfl (q := 395) rfl ?_
                  refine k_iload K X1898 at_395 rfl (q := 397) rfl ?_
                  refine k_lload K X1898 at_397 rfl (q := 399) rfl ?_
                  refine k_iload K X1898 at_399 rfl (q := 401) rfl ?_
                  refine k_lload K X1898 at_401 rfl (q := 403) rfl ?_
                  refine k_staticP K X1898 e1899 at_403 (wd hw 64 rfl) (wd hw 65 rfl) (wd hw 3 rfl) (wd hw 66 rfl) (by decide) (rm11 l Z az hw [] v808 v790 v793 v791 v794 h1892) (W := 2) (by decide) (by decide) (by decide) (by decide) rfl pd_7 (argsL := [(.int v808), (.int v790), (.long v793), (.int v791), (.long v794)]) (rest := [(.long d1903)]) rfl rfl rfl (Nat.le_of_eq rfl) (q := 406) rfl ?_
                  intro T1936 X1937 e1938
                  refine k_land K X1937 at_406 (q := 407) rfl ?_
                  refine k_lstore K X1937 at_407 rfl (Ls' := #[.val (.int p0), .val (.int p1), .val (.int p2), .val (.int p3), .val (.long q4), .second, .val (.int p5), .val (.int v785), .val (.int v786), .val (.long d788), .second, .val (.int v790), .val (.int v791), .val (.int v792), .val (.long v793), .second, .val (.long v794), .second, .val (.int v795), .val (.int d797), .val (.int d800), .val (.int v802), .val (.int v803), .val (.int v804), .val (.int v808), .val (.int v812), .val (.ref b1645), .val (.ref b1658), .val (.ref b1684), .val (.ref b1713), .val (.long v1900), .second, .val (.long d1903), .second, .val (.long (d1903 &&& (F_lanesAt v808 v790 v793 v791 v794))), .second]) rfl (q := 409) rfl ?_
                  exact J1910 T1936 _ _ X1937 N1893 e1938 (by first | (simp only [if_neg hc1935]; done) | rfl)
              refine k_if_eq K X1898 at_365 (by decide) (q := 381) rfl (q' := 368) rfl ?_ ?_
              · intro hc1939
                exact J1904 _ (by first | (simp only [if_pos hc1939]; done) | rfl)
              · intro hc1939
                refine k_lload K X1898 at_368 rfl (q := 370) rfl ?_
                refine k_lconst1 K X1898 at_370 (q := 371) rfl ?_
                refine k_iload K X1898 at_371 rfl (q := 373) rfl ?_
                refine k_lshl K X1898 at_373 (q := 374) rfl ?_
                refine k_ldc2 K X1898 at_374 (wd hw 62 rfl) (q := 377) rfl ?_
                refine k_lxor K X1898 at_377 (q := 378) rfl ?_
                refine k_land K X1898 at_378 (q := 379) rfl ?_
                refine k_lstore K X1898 at_379 rfl (Ls' := #[.val (.int p0), .val (.int p1), .val (.int p2), .val (.int p3), .val (.long q4), .second, .val (.int p5), .val (.int v785), .val (.int v786), .val (.long d788), .second, .val (.int v790), .val (.int v791), .val (.int v792), .val (.long v793), .second, .val (.long v794), .second, .val (.int v795), .val (.int d797), .val (.int d800), .val (.int v802), .val (.int v803), .val (.int v804), .val (.int v808), .val (.int v812), .val (.ref b1645), .val (.ref b1658), .val (.ref b1684), .val (.ref b1713), .val (.long v1900), .second, .val (.long (v1901 &&& ((shlL (1 : Int64) v795) ^^^ (-1 : Int64)))), .second, .unset, .unset]) rfl (q := 381) rfl ?_
                exact J1904 _ (by first | (simp only [if_neg hc1939]; done) | rfl)
            refine k_if_eq K X1844 at_333 (by decide) (q := 343) rfl (q' := 336) rfl ?_ ?_
            · intro hc1940
              exact J1888 T1842 _ _ _ _ X1844 N1857 rfl K1858 Z1859 f1849 f1851 f1852 f1853 f1854 f1855 f1856 f1848 (by first | (simp only [if_pos hc1940]; done) | rfl) (by first | (simp only [if_pos hc1940]; done) | rfl)
            · intro hc1940
              refine k_aload K X1844 at_336 rfl rfl (q := 338) rfl ?_
              refine k_iload K X1844 at_338 rfl (q := 340) rfl ?_
              refine k_virtual K X1844 rfl at_340 (wd hw 56 rfl) (wd hw 57 rfl) (wd hw 59 rfl) (wd hw 58 rfl) (wd hw 8 rfl) (wd hw 60 rfl) (by decide) f1851 (rm10 l Z az hw [] b1713 v795 d1803 (0 : Int64) v785 v1762 (.ref b1746) T1842.heap n0 Z1859 f1853 f1851 ge1723 f1852 f1855 f1854 f1856) (W := 0) (by decide) (by decide) (by decide) (by decide) rfl pd_4 (argsL := [(.int v795)]) (rest := []) rfl rfl rfl (Nat.le_of_eq rfl) (q := 343) rfl ?_
              rintro _ T1941 L1942 X1943 ⟨rfl, N1944, K1945, f1947, f1948, f1949, f1950, f1951⟩
              have f1952 := Ary.keep f1849 K1945 (ninS ne1720 nin0)
              have f1953 := Exa.keep f1851 K1945
              have f1954 := Ary.keep f1848 K1945 (ninS (Ne.symm ne1753) nin0)
              have N1955 := Fr.app N1857 N1944
              have K1956 := Keep.trans K1858 K1945 (allS (Or.inr bn1724) all0)
              have Z1957 := Nat.le_trans Z1859 K1945.1
              exact J1888 T1941 _ _ _ _ X1943 N1955 rfl K1956 Z1957 f1952 f1953 f1947 f1948 f1949 f1950 f1951 f1954 (by first | (simp only [if_neg hc1940]; done) | rfl) (by first | (simp only [if_neg hc1940]; done) | rfl)
          refine k_icmp_le K X1765 at_303 (by decide) (q := 313) rfl (q' := 306) rfl ?_ ?_
          · intro hc1958
            exact J1814 T1763 _ _ _ X1765 N1779 rfl K1780 Z1781 f1774 f1775 f1776 f1777 f1778 f1769 f1770 f1771 f1772 f1773 (by first | (simp only [if_neg hc1958]; done) | rfl)
          · intro hc1958
            refine k_aload K X1765 at_306 rfl rfl (q := 308) rfl ?_
            refine k_iload K X1765 at_308 rfl (q := 310) rfl ?_
            refine k_virtual K X1765 rfl at_310 (wd hw 37 rfl) (wd hw 38 rfl) (wd hw 40 rfl) (wd hw 39 rfl) (wd hw 8 rfl) (wd hw 41 rfl) (by decide) f1777 (rm7 l Z az hw [] b1713 d797 v1782 (0 : Int64) v785 v1762 (.ref b1746) T1763.heap n0 Z1781 f1770 f1769 f1777 ge1723 f1772 f1771 f1773 (own_ob_28 p0 p1 p2 p3 q4 p5 v785 v795 d797 v804 v1762 v1782 hv_v785 hv_v795 hv_d797 hv_v804 hv_v1762 hv_v1782 hc884 hc1958) (own_ob_29 p0 p1 p2 p3 q4 p5 v785 v795 d797 v804 hv_v785 hv_v795 hv_d797 hv_v804 hc884 hc1958)) (W := 0) (by decide) (by decide) (by decide) (by decide) rfl pd_4 (argsL := [(.int d797)]) (rest := []) rfl rfl rfl (Nat.le_of_eq rfl) (q := 313) rfl ?_
            rintro _ T1959 L1960 X1961 ⟨rfl, N1962, K1963, f1965, f1966, f1967, f1968, f1969⟩
            have f1970 := Ary.keep f1774 K1963 (ninS ne1720 nin0)
            have f1971 := Ary.keep f1775 K1963 (ninS ne1721 nin0)
            have f1972 := Ary.keep f1776 K1963 (ninS ne1722 nin0)
            have f1973 := Exa.keep f1777 K1963
            have f1974 := Ary.keep f1778 K1963 (ninS (Ne.symm ne1753) nin0)
            have N1975 := Fr.app N1779 N1962
            have K1976 := Keep.trans K1780 K1963 (allS (Or.inr bn1724) all0)
            have Z1977 := Nat.le_trans Z1781 K1963.1
            exact J1814 T1959 _ _ _ X1961 N1975 rfl K1976 Z1977 f1970 f1971 f1972 f1973 f1974 f1965 f1966 f1967 f1968 f1969 (by first | (simp only [if_pos hc1958]; done) | rfl)
      refine k_if_eq K X0 at_144 (by decide) (q := 151) rfl (q' := 147) rfl ?_ ?_
      · intro hc1978
        refine k_iconst K X0 at_151 (v := (0 : Int32)) rfl (q := 152) rfl ?_
        exact J801 _ (by first | (simp only [if_pos hc1978]; done) | rfl)
      · intro hc1978
        refine k_iconst K X0 at_147 (v := (1 : Int32)) rfl (q := 148) rfl ?_
        refine k_goto K X0 at_148 (by decide) (q := 152) rfl ?_
        exact J801 _ (by first | (simp only [if_neg hc1978]; done) | rfl)
    refine k_icmp_le K X0 at_109 (by decide) (q := 137) rfl (q' := 112) rfl ?_ ?_
    · intro hc1979
      exact J798 _ (by first | (simp only [if_neg hc1979]; done) | rfl)
    · intro hc1979
      refine k_iload K X0 at_112 rfl (q := 114) rfl ?_
      refine k_iconst K X0 at_114 (v := (1 : Int32)) rfl (q := 115) rfl ?_
      refine k_iadd K X0 at_115 (q := 116) rfl ?_
      refine k_iload K X0 at_116 rfl (q := 118) rfl ?_
      refine k_bipush K X0 at_118 (v := (6 : Int32)) rfl (q := 120) rfl ?_
      refine k_iushr K X0 at_120 (q := 121) rfl ?_
      refine k_bipush K X0 at_121 (v := (63 : Int32)) rfl (q := 123) rfl ?_
      refine k_iand K X0 at_123 (q := 124) rfl ?_
      refine k_iload K X0 at_124 rfl (q := 126) rfl ?_
      refine k_iconst K X0 at_126 (v := (1 : Int32)) rfl (q := 127) rfl ?_
      refine k_isub K X0 at_127 (q := 128) rfl ?_
      refine k_irem K X0 at_128 (own_ob_1 p0 p1 p2 p3 q4 p5 v785 hv_v785 hc1979) (q := 129) rfl ?_
      refine k_iadd K X0 at_129 (q := 130) rfl ?_
      refine k_iload K X0 at_130 rfl (q := 132) rfl ?_
      refine k_iconst K X0 at_132 (v := (1 : Int32)) rfl (q := 133) rfl ?_
      refine k_isub K X0 at_133 (q := 134) rfl ?_
      refine k_iand K X0 at_134 (q := 135) rfl ?_
      refine k_istore K X0 at_135 rfl (Ls' := #[.val (.int p0), .val (.int p1), .val (.int p2), .val (.int p3), .val (.long q4), .second, .val (.int p5), .val (.int v785), .val (.int v786), .val (.long d788), .second, .val (.int v790), .val (.int v791), .val (.int v792), .val (.long v793), .second, .val (.long v794), .second, .val (.int v795), .val (.int (((v795 + (1 : Int32)) + (((ushrI p5 (6 : Int32)) &&& (63 : Int32)) % (v785 - (1 : Int32)))) &&& (v785 - (1 : Int32)))), .unset, .unset, .unset, .unset, .unset, .unset, .unset, .unset, .unset, .unset, .unset, .unset, .unset, .unset, .unset, .unset]) rfl (q := 137) rfl ?_
      exact J798 _ (by first | (simp only [if_pos hc1979]; done) | rfl)
  refine k_icmp_ne K X0 at_26 (by decide) (q := 35) rfl (q' := 29) rfl ?_ ?_
  · intro hc1980
    refine k_lconst1 K X0 at_35 (q := 36) rfl ?_
    refine k_iload K X0 at_36 rfl (q := 38) rfl ?_
    refine k_lshl K X0 at_38 (q := 39) rfl ?_
    refine k_lconst1 K X0 at_39 (q := 40) rfl ?_
    refine k_lsub K X0 at_40 (q := 41) rfl ?_
    exact J789 _ (by first | (simp only [if_neg hc1980]; done) | rfl)
  · intro hc1980
    refine k_ldc2 K X0 at_29 (wd hw 62 rfl) (q := 32) rfl ?_
    refine k_goto K X0 at_32 (by decide) (q := 41) rfl ?_
    exact J789 _ (by first | (simp only [if_pos hc1980]; done) | rfl)
theorem own_use {k l W : Int32} (h : own_T k l W) (e d : Int32) (hd : (if (1 : Int32) < l then (e &&& (l - 1)) + 1 + (ushrI e 6 &&& 63) % (l - 1) &&& (l - 1) else e &&& (l - 1)) = d) : (if (1 : Int32) < l then F_take_a0_inUse d (F_take_a0_inUse (e &&& (l - 1)) 0 0 l k) 0 l k else F_take_a0_inUse (e &&& (l - 1)) 0 0 l k) = shlL 1 (e &&& (l - 1)) ||| shlL 1 d ∧ ∀ i, l.toInt.toNat ≤ i → (shlL 1 (e &&& (l - 1)) ||| shlL 1 d).toBitVec.getLsbD i = false := by
  have lh : l.toInt ≤ 64 := by have := own_T_hi h; rw [own_ltI] at this; have e4 : (64 : Int32).toInt = 64 := rfl; omega
  have t1 := own_t1 h e
  have td : 0 ≤ d.toInt ∧ d.toInt < l.toInt := by
    rw [← hd]; split
    · exact own_t1 h _
    · exact t1
  refine ⟨?_, fun i hi => ?_⟩
  · by_cases c : 1 < l
    · rw [if_pos c]; simp only [F_take_a0_inUse, own_0or]
    · rw [if_neg c] at hd ⊢; subst hd; simp only [F_take_a0_inUse, own_0or, Int64.or_self]
  · rw [Int64.toBitVec_or, BitVec.getLsbD_or, own_one _ t1.1 (by omega), own_one _ td.1 (by omega), decide_eq_false (by omega), decide_eq_false (by omega)]
    rfl
theorem own_ixe (a k : Int32) : own_ix a k = Int32.toNatClampNeg (Int64.toInt32 (ushrL (shlL (Int32.toInt64 a) k) 6)) := rfl
theorem own_LA (q x1 x2 : Int32) (m1 m2 : Int64) : F_lanesAt q x1 m1 x2 m2 = (if q = x1 then m1 else 0) ||| (if q = x2 then m2 else 0) := by
  simp only [F_lanesAt, own_0or]
  by_cases c : q = x2
  · rw [if_pos c, if_pos c]
  · rw [if_neg c, if_neg c, own_or0]
theorem own_ifb (q x : Int32) (m : Int64) (i : Nat) : (if q = x then m else 0).toBitVec.getLsbD i = (decide (q = x) && m.toBitVec.getLsbD i) := by
  by_cases c : q = x
  · rw [if_pos c, decide_eq_true c, Bool.true_and]
  · rw [if_neg c, decide_eq_false c, Bool.false_and]
    show (0#64).getLsbD _ = _
    rw [BitVec.getLsbD_zero]
theorem own_G {k : Int32} (q x1 x2 : Int32) (m1 m2 : Int64) (N : Nat) : F_add1_w_a0_words_g m2 x2 k N (F_add1_w_a0_words_g m1 x1 k N (fun _ => 0)) (own_ix q k) = (if own_ix q k = own_ix x1 k then shlL m1 (Int64.toInt32 (shlL (Int32.toInt64 x1) k)) else 0) ||| (if own_ix q k = own_ix x2 k then shlL m2 (Int64.toInt32 (shlL (Int32.toInt64 x2) k)) else 0) := by
  simp only [F_add1_w_a0_words_g, upd, own_0or, ← own_ixe]
  by_cases c2 : own_ix q k = own_ix x2 k
  · simp only [c2, if_true]
  · simp only [c2, if_false, own_or0]
theorem own_rd {k l W : Int32} (h : own_T k l W) (q x1 x2 : Int32) (m1 m2 U : Int64) (N : Nat) (hq : 0 ≤ q.toInt ∧ q.toInt < 4096) (h1 : 0 ≤ x1.toInt ∧ x1.toInt < 4096) (h2 : 0 ≤ x2.toInt ∧ x2.toInt < 4096) (hU : ∀ i, l.toInt.toNat ≤ i → U.toBitVec.getLsbD i = false) (hm1 : ∀ i, l.toInt.toNat ≤ i → m1.toBitVec.getLsbD i = false) (hm2 : ∀ i, l.toInt.toNat ≤ i → m2.toBitVec.getLsbD i = false) : U &&& ushrL (F_add1_w_a0_words_g m2 x2 k N (F_add1_w_a0_words_g m1 x1 k N (fun _ => 0)) (own_ix q k)) (Int64.toInt32 (shlL (Int32.toInt64 q) k)) = U &&& F_lanesAt q x1 m1 x2 m2 := by
  rw [own_G]
  apply Int64.toBitVec_inj.mp
  rw [Int64.toBitVec_and, Int64.toBitVec_and]
  apply BitVec.eq_of_getLsbD_eq
  intro i _
  rw [BitVec.getLsbD_and, BitVec.getLsbD_and]
  by_cases c : i < l.toInt.toNat
  · congr 1
    have p1 := own_piece h m1 hm1 x1 q h1.1 h1.2 hq.1 hq.2 i c
    have p2 := own_piece h m2 hm2 x2 q h2.1 h2.2 hq.1 hq.2 i c
    have nq := own_sx h q hq.1 hq.2
    rw [own_ush _ _ _ (Nat.mod_lt _ (by decide)) nq] at p1 p2 ⊢
    rw [Int64.toBitVec_or, BitVec.ushiftRight_or_distrib, BitVec.getLsbD_or, p1, p2]
    rw [own_LA, Int64.toBitVec_or, BitVec.getLsbD_or, own_ifb, own_ifb]
  · rw [hU i (by omega), Bool.false_and, Bool.false_and]
theorem own_h1 {k l W : Int32} (h : own_T k l W) (q x1 x2 : Int32) (m1 m2 U : Int64) (N : Nat) (hq : 0 ≤ q.toInt ∧ q.toInt < 4096) (h1 : 0 ≤ x1.toInt ∧ x1.toInt < 4096) (h2 : 0 ≤ x2.toInt ∧ x2.toInt < 4096) (hU : ∀ i, l.toInt.toNat ≤ i → U.toBitVec.getLsbD i = false) (hm1 : ∀ i, l.toInt.toNat ≤ i → m1.toBitVec.getLsbD i = false) (hm2 : ∀ i, l.toInt.toNat ≤ i → m2.toBitVec.getLsbD i = false) : F_holding1 U q k N (F_add1_w_a0_words_g m2 x2 k N (F_add1_w_a0_words_g m1 x1 k N (fun _ => 0))) = U &&& F_lanesAt q x1 m1 x2 m2 :=
  own_rd h q x1 x2 m1 m2 U N hq h1 h2 hU hm1 hm2
theorem own_h2 {k l W : Int32} (h : own_T k l W) (q q2 x1 x2 : Int32) (m1 m2 U : Int64) (N : Nat) (hq : 0 ≤ q.toInt ∧ q.toInt < 4096) (hq2 : 0 ≤ q2.toInt ∧ q2.toInt < 4096) (h1 : 0 ≤ x1.toInt ∧ x1.toInt < 4096) (h2 : 0 ≤ x2.toInt ∧ x2.toInt < 4096) (hU : ∀ i, l.toInt.toNat ≤ i → U.toBitVec.getLsbD i = false) (hm1 : ∀ i, l.toInt.toNat ≤ i → m1.toBitVec.getLsbD i = false) (hm2 : ∀ i, l.toInt.toNat ≤ i → m2.toBitVec.getLsbD i = false) : F_holding2 U q q2 k N (F_add1_w_a0_words_g m2 x2 k N (F_add1_w_a0_words_g m1 x1 k N (fun _ => 0))) = U &&& F_lanesAt q x1 m1 x2 m2 &&& F_lanesAt q2 x1 m1 x2 m2 := by
  have r1 := own_rd h q x1 x2 m1 m2 U N hq h1 h2 hU hm1 hm2
  have r2 := own_rd h q2 x1 x2 m1 m2 (U &&& F_lanesAt q x1 m1 x2 m2) N hq2 h1 h2 (fun i hi => by rw [Int64.toBitVec_and, BitVec.getLsbD_and, hU i hi, Bool.false_and]) hm1 hm2
  rw [own_ixe] at r1 r2
  simp only [F_holding2, M9_6172, r1, r2]
  by_cases c : U &&& F_lanesAt q x1 m1 x2 m2 = 0
  · rw [if_pos c, c, Int64.zero_and]
  · rw [if_neg c]; split <;> rfl
theorem own_3 (e : Int32) : 0 ≤ ((e &&& 3) % 3).toInt := by
  have a1 := (c_and e 3 (by decide)).1
  have a2 := (c_irem (e &&& 3) 3 3 rfl).1 a1
  omega
theorem law_eq (p0 p1 p2 p3 : Int32) (q4 : Int64) (p5 : Int32) : F_law p0 p1 p2 p3 q4 p5 = 1 := by
  have T := own_T_of p0
  have B := own_bits p0
  have C1 := own_c p1 _ B.1
  have C2 := own_c p2 _ B.1
  have C3 := own_c p3 _ B.1
  have E3 := own_3 (ushrI p5 17)
  have M1 := own_mb T q4
  have M2 := own_mb T ((ushrL q4 17) ||| (shlL q4 47))
  obtain ⟨d, hd⟩ : ∃ z, (if (1 : Int32) < shlI 1 ((p0 &&& 7) % 7) then (p5 &&& (shlI 1 ((p0 &&& 7) % 7) - 1)) + 1 + (ushrI p5 6 &&& 63) % (shlI 1 ((p0 &&& 7) % 7) - 1) &&& (shlI 1 ((p0 &&& 7) % 7) - 1) else p5 &&& (shlI 1 ((p0 &&& 7) % 7) - 1)) = z := ⟨_, rfl⟩
  have US := own_use T p5 d hd
  simp only [F_law, own_T_ntz T, hd, US.1, F_free_a0_inUse]
  have HU : ∀ i, (shlI 1 ((p0 &&& 7) % 7)).toInt.toNat ≤ i → (if (if (ushrI p5 12 &&& 1) = 0 then (0 : Int32) else 1) = 0 then (shlL 1 (p5 &&& (shlI 1 ((p0 &&& 7) % 7) - 1)) ||| shlL 1 d) else (shlL 1 (p5 &&& (shlI 1 ((p0 &&& 7) % 7) - 1)) ||| shlL 1 d) &&& (shlL 1 (p5 &&& (shlI 1 ((p0 &&& 7) % 7) - 1)) ^^^ -1)).toBitVec.getLsbD i = false := fun i hi => by
    by_cases c : (if (ushrI p5 12 &&& 1) = 0 then (0 : Int32) else 1) = 0
    · rw [if_pos c]; exact US.2 i hi
    · rw [if_neg c, Int64.toBitVec_and, BitVec.getLsbD_and, US.2 i hi, Bool.false_and]
  revert HU
  generalize (if (if (ushrI p5 12 &&& 1) = 0 then (0 : Int32) else 1) = 0 then (shlL 1 (p5 &&& (shlI 1 ((p0 &&& 7) % 7) - 1)) ||| shlL 1 d) else (shlL 1 (p5 &&& (shlI 1 ((p0 &&& 7) % 7) - 1)) ||| shlL 1 d) &&& (shlL 1 (p5 &&& (shlI 1 ((p0 &&& 7) % 7) - 1)) ^^^ -1)) = U
  intro HU
  clear US hd
  have Q1 := own_pk (((ushrI p5 13) &&& 3) % 3) _ _ _ _ C1 C2 C3
  have Q2 := own_pk (((ushrI p5 15) &&& 3) % 3) _ _ _ _ C1 C2 C3
  generalize (ushrI p5 17 &&& 3) % 3 = s at *
  generalize F_pick (((ushrI p5 13) &&& 3) % 3) _ _ _ = q1 at *
  generalize F_pick (((ushrI p5 15) &&& 3) % 3) _ _ _ = q2 at *
  generalize (p1 &&& 2147483647) % (1 + (ushrI p0 3 &&& 4095)) = x1 at *
  generalize (p2 &&& 2147483647) % (1 + (ushrI p0 3 &&& 4095)) = x2 at *
  generalize ((ushrL q4 17) ||| (shlL q4 47)) &&& _ = m2 at *
  generalize q4 &&& _ = m1 at *
  have e1 : (1 : Int32).toInt = 1 := rfl
  have e0 : (0 : Int32).toInt = 0 := rfl
  have e2 : (2 : Int32).toInt = 2 := rfl
  by_cases h0 : s = 0
  · rw [if_pos h0, h0, if_pos (show (0 : Int32) < 2 by decide), if_pos (show (0 : Int32) < 1 by decide), F_holding0, if_pos rfl]
    rfl
  · rw [if_neg h0]
    rw [own_eqI] at h0
    have n1 : ¬ s < 1 := by rw [own_ltI]; omega
    by_cases h1 : s = 1
    · rw [if_pos h1, if_neg n1, if_pos (show s < 2 by rw [h1]; decide), own_h1 T q1 x1 x2 m1 m2 U _ ⟨Q1.1, by omega⟩ ⟨C1.1, by omega⟩ ⟨C2.1, by omega⟩ HU M1 M2, if_pos rfl]
      rfl
    · rw [if_neg h1, if_neg n1, own_h2 T q1 q2 x1 x2 m1 m2 U _ ⟨Q1.1, by omega⟩ ⟨Q2.1, by omega⟩ ⟨C1.1, by omega⟩ ⟨C2.1, by omega⟩ HU M1 M2]
      rw [own_eqI] at h1
      rw [if_neg (show ¬ s < 2 by rw [own_ltI]; omega), if_pos rfl]
      rfl
set_option maxRecDepth 65536 in
set_option maxHeartbeats 40000000 in
theorem comes_1 {Post : Tables → Env → Array Value → State → Outcome → State → Prop} (hpost : ∀ tb e args s v u, (limb_1_1.after args s (.returned v) u = true ∧ limb_1_2.after args s (.returned v) u = true ∧ True) → FrameEnd s (.returned v) u (Jvm.fieldLocs frame_1_writes args s ++ Jvm.arrayLocs frame_1_arrays args s ++ Jvm.staticLocs frame_1_statics s) 24 8320 → Post tb e args s (.returned v) u) :
    ArmFor flags0 classFile x code maxLocals ret World_1 tables_1 room_1 Calls_1 rest_1 Pre_1 Post := by
  intro l hfl _ _ p e ha hc hk s m args below hf hA hF happ hP
  obtain ⟨hcalls, hrest, hpre⟩ := hP
  obtain ⟨-, -, -, hnamed, -, -, -, hat⟩ := (Spec.applies_iff hf).mp happ
  obtain ⟨hg, hn⟩ := and_e (Cond.before_iff.mp (show (Jvm.Cond.and given_1 narrow_1).before args s = true from hpre))
  obtain ⟨gc, g0⟩ := and_e hg
  obtain ⟨ga0, g1⟩ := and_e g0
  obtain ⟨ga1, g2⟩ := and_e g1
  obtain ⟨ga2, g3⟩ := and_e g2
  obtain ⟨ga3, g4⟩ := and_e g3
  obtain ⟨ga4, g5⟩ := and_e g4
  obtain ⟨w0, w1, w2, w3, w4, w5, rfl⟩ : ∃ w0 w1 w2 w3 w4 w5 : Value, args = #[w0, w1, w2, w3, w4, w5] := by
    have hs : args.size = 6 := by simpa [Cond.value, given_1] using gc
    obtain ⟨L⟩ := args
    match L, hs with
    | [w0, w1, w2, w3, w4, w5], _ => exact ⟨w0, w1, w2, w3, w4, w5, rfl⟩
  have hw := fun d (hd : d ∈ tables_1) => atoms_spec (ws := Jvm.Cond.code x code maxLocals ret :: tables_1) hat d (List.mem_cons_of_mem _ hd)
  obtain ⟨i0, ei0⟩ := is_v ga0
  obtain rfl : w0 = (.int i0) := Option.some.inj ei0
  obtain ⟨i1, ei1⟩ := is_v ga1
  obtain rfl : w1 = (.int i1) := Option.some.inj ei1
  obtain ⟨i2, ei2⟩ := is_v ga2
  obtain rfl : w2 = (.int i2) := Option.some.inj ei2
  obtain ⟨i3, ei3⟩ := is_v ga3
  obtain rfl : w3 = (.int i3) := Option.some.inj ei3
  obtain ⟨i4, ei4⟩ := isL_v ga4
  obtain rfl : w4 = (.long i4) := Option.some.inj ei4
  obtain ⟨i5, ei5⟩ := is_v g5
  obtain rfl : w5 = (.int i5) := Option.some.inj ei5
  obtain ⟨n, o, h1, h2, h3, _, L, rfl, ⟨rfl, N⟩, hq⟩ := rm0 l s _ hw tables_1 i0 i1 i2 i3 i4 i5 s.heap s.heap.size (Nat.le_refl _) p e ha hc hk s m _ below hf ((Spec.applies_iff_loose hf).mp happ).1 ⟨rfl, State.Warmed39.refl s, rfl⟩ trivial
  rw [law_eq] at *
  refine ⟨n, _, h1, h2, h3, hpost _ _ _ _ _ _ ⟨Cond.after_iff.mpr rfl, Cond.after_iff.mpr (eq_i res_at (Term.int_eval (1)) rfl), trivial⟩ ⟨hq.1, hq.2.1, (hq.2.2.sift fun y hy => Or.inr (N y hy)).mono (by decide) (by decide)⟩⟩
theorem main_1_1 : Claimed_1_1 := comes_1 fun _ _ _ _ _ _ h hF => ⟨h.1, hF⟩
theorem main_1_2 : Claimed_1_2 := comes_1 fun _ _ _ _ _ _ h hF => ⟨h.2.1, hF⟩
end Jvm.Pilot.@@N@@
namespace Jvm.Pilot.@@N@@
open Jvm Jvm.ClassFile Sem Op Lib Jvm.Free Jvm.Stand Jvm.Pilot.@@N@@.Jvm.D
/-! MADE BY PROGRAM (witnessworld.py) out of the Statement's table words and the real class files: 16 classes; the members and pool entries that the words name. The judged class is class 1, her method 3. -/
namespace start1
open Jvm.ClassFile
def u (s : String) : CpInfo := .utf8 (stringToUtf16 s)
/-- a pool by its gaps: so many unusable entries, then the entry; so many at the end -/
def gap : Nat → List CpInfo → List CpInfo
  | 0, r => r
  | n + 1, r => .unusable :: gap n r
def poolList (es : List (Nat × CpInfo)) (last : Nat) : List CpInfo := es.foldr (fun e r => gap e.1 (e.2 :: r)) (gap last [])
def pool (es : List (Nat × CpInfo)) (last : Nat) : Array CpInfo := ⟨poolList es last⟩
def fileOf (pool : Array CpInfo) (this : Nat) (attrs : Array Attribute := #[]) (ms : Array MethodInfo := #[]) (fl : Nat := 33) (sup : Nat := 0) (ifs : Array Nat := #[]) (fds : Array FieldInfo := #[]) : ClassFile where
  minorVersion := 0
  majorVersion := 65
  constantPool := pool
  accessFlags := fl
  thisClass := this
  superClass := sup
  interfaces := ifs
  fields := fds
  methods := ms
  attributes := attrs
def plain (name : String) (sup : Option ClassId) : Class where
  name := name
  kind := .ordinary
  loader := none
  accessFlags := 33
  super := sup
  interfaces := #[]
  cf := none
  fields := #[]
  methods := #[]
  instanceTypes := #[]
  staticTypes := #[]
  resolved := #[]
  callSites := []
  init := .initialized
  statics := none
  mirror := none

def pool0 : Array CpInfo := pool [(5, u "<init>"), (0, u "()V"), (1, .class_ 10), (1, u "java/lang/Object")] 113

def k0c0 : Code := { maxStack := 0, maxLocals := 1, code := object_method_1_code, exceptionTable := #[], attributes := #[] }
def k0m0 : Method := { name := "<init>", desc := "()V", sig := { parameters := [], returnType := none }, accessFlags := 1, code := some k0c0 }
/-- java/lang/Object -/
def k0 : Class := { plain "java/lang/Object" none with
  accessFlags := 33
  interfaces := #[]
  cf := some (fileOf pool0 8 #[] #[{ accessFlags := 1, nameIndex := 5, descriptorIndex := 6, attributes := #[] }] 33 0 #[] #[])
  fields := #[]
  methods := #[k0m0]
  instanceTypes := #[]
  staticTypes := #[]
  resolved := Array.replicate 124 none
  statics := none }

def pool1 : Array CpInfo := pool [(2, .class_ 4), (1, u "java/lang/Object"), (0, u "<init>"), (0, u "()V"), (0, .long 18446744073709551615), (1, .integer 2147483647), (0, .methodref 11 12), (0, .class_ 13), (0, .nameAndType 14 15), (0, u "com/example/dayflower/dayflower/filter/FilterSlabHoldingPinLaw"), (0, u "pick"), (0, u "(IIII)I"), (0, .class_ 17), (0, u "com/example/dayflower/dayflower/filter/FilterSlab"), (0, .methodref 16 19), (0, .nameAndType 5 20), (0, u "(II)V"), (0, .methodref 16 22), (0, .nameAndType 23 24), (0, u "take"), (0, u "(I)V"), (0, .methodref 16 26), (0, .nameAndType 27 28), (0, u "add"), (0, u "([IJ)V"), (0, .methodref 16 30), (0, .nameAndType 31 24), (0, u "free"), (0, .methodref 16 33), (0, .nameAndType 34 35), (0, u "holding"), (0, u "([I)J"), (0, .methodref 11 37), (0, .nameAndType 38 39), (0, u "lanesAt"), (0, u "(IIJIJ)J"), (3, u "law"), (0, u "(IIIIJI)Z")] 4

def k1m0 : Method := { name := "<init>", desc := "()V", sig := { parameters := [], returnType := none }, accessFlags := 1, code := none }
def k1c1 : Code := { maxStack := 2, maxLocals := 4, code := method_2_code, exceptionTable := #[], attributes := #[] }
def k1m1 : Method := { name := "pick", desc := "(IIII)I", sig := { parameters := [.int, .int, .int, .int], returnType := some .int }, accessFlags := 10, code := some k1c1 }
def k1c2 : Code := { maxStack := 4, maxLocals := 9, code := method_3_code, exceptionTable := #[], attributes := #[] }
def k1m2 : Method := { name := "lanesAt", desc := "(IIJIJ)J", sig := { parameters := [.int, .int, .long, .int, .long], returnType := some .long }, accessFlags := 10, code := some k1c2 }
def k1c3 : Code := { maxStack := 9, maxLocals := 36, code := code, exceptionTable := #[], attributes := #[] }
def k1m3 : Method := { name := "law", desc := "(IIIIJI)Z", sig := { parameters := [.int, .int, .int, .int, .long, .int], returnType := some .boolean }, accessFlags := 9, code := some k1c3 }
/-- com/example/dayflower/dayflower/filter/FilterSlabHoldingPinLaw -/
def k1 : Class := { plain "com/example/dayflower/dayflower/filter/FilterSlabHoldingPinLaw" (some 0) with
  accessFlags := 49
  interfaces := #[]
  cf := some (fileOf pool1 11 #[] #[{ accessFlags := 1, nameIndex := 5, descriptorIndex := 6, attributes := #[] }, { accessFlags := 10, nameIndex := 14, descriptorIndex := 15, attributes := #[] }, { accessFlags := 10, nameIndex := 38, descriptorIndex := 39, attributes := #[] }, { accessFlags := 9, nameIndex := 43, descriptorIndex := 44, attributes := #[] }] 49 2 #[] #[])
  fields := #[]
  methods := #[k1m0, k1m1, k1m2, k1m3]
  instanceTypes := #[]
  staticTypes := #[]
  resolved := Array.replicate 49 none
  statics := none }

def pool2 : Array CpInfo := pool [(3, .methodref 4 5), (0, .class_ 6), (0, .nameAndType 7 8), (0, u "java/lang/Object"), (0, u "<init>"), (0, u "()V"), (0, .class_ 10), (0, u "com/example/dayflower/dayflower/filter/FilterSlab"), (0, .methodref 12 13), (0, .class_ 14), (0, .nameAndType 15 16), (0, u "java/lang/Integer"), (0, u "bitCount"), (0, u "(I)I"), (9, .fieldref 9 27), (0, .nameAndType 28 29), (0, u "lanes"), (0, u "I"), (0, .methodref 12 31), (0, .nameAndType 32 16), (0, u "numberOfTrailingZeros"), (0, .fieldref 9 34), (0, .nameAndType 35 29), (0, u "laneShift"), (0, .methodref 9 37), (0, .nameAndType 38 39), (0, u "bytes"), (0, u "(II)J"), (0, .long 8), (1, .fieldref 9 43), (0, .nameAndType 44 45), (0, u "words"), (0, u "[J"), (0, .long 64), (1, .fieldref 9 49), (0, .nameAndType 50 51), (0, u "inUse"), (0, u "J"), (4, .fieldref 9 57), (0, .nameAndType 58 51), (0, u "dirty"), (4, .long 18446744073709551615), (11, u "MAX_LANES"), (2, u "(II)V"), (3, u "holding"), (0, u "([I)J"), (2, u "add"), (0, u "([IJ)V"), (2, u "take"), (0, u "(I)V"), (0, u "free")] 23

def k2c0 : Code := { maxStack := 5, maxLocals := 3, code := prog_14_method_1_code, exceptionTable := #[], attributes := #[] }
def k2m0 : Method := { name := "<init>", desc := "(II)V", sig := { parameters := [.int, .int], returnType := none }, accessFlags := 0, code := some k2c0 }
def k2c1 : Code := { maxStack := 4, maxLocals := 4, code := prog_14_method_2_code, exceptionTable := #[], attributes := #[] }
def k2m1 : Method := { name := "bytes", desc := "(II)J", sig := { parameters := [.int, .int], returnType := some .long }, accessFlags := 8, code := some k2c1 }
def k2c2 : Code := { maxStack := 6, maxLocals := 10, code := prog_14_method_3_code, exceptionTable := #[], attributes := #[] }
def k2m2 : Method := { name := "holding", desc := "([I)J", sig := { parameters := [(.array .int)], returnType := some .long }, accessFlags := 0, code := some k2c2 }
def k2c3 : Code := { maxStack := 8, maxLocals := 10, code := prog_14_method_4_code, exceptionTable := #[], attributes := #[] }
def k2m3 : Method := { name := "add", desc := "([IJ)V", sig := { parameters := [(.array .int), .long], returnType := none }, accessFlags := 0, code := some k2c3 }
def k2c4 : Code := { maxStack := 6, maxLocals := 7, code := prog_14_method_6_code, exceptionTable := #[], attributes := #[] }
def k2m4 : Method := { name := "take", desc := "(I)V", sig := { parameters := [.int], returnType := none }, accessFlags := 0, code := some k2c4 }
def k2c5 : Code := { maxStack := 7, maxLocals := 4, code := prog_14_method_7_code, exceptionTable := #[], attributes := #[] }
def k2m5 : Method := { name := "free", desc := "(I)V", sig := { parameters := [.int], returnType := none }, accessFlags := 0, code := some k2c5 }
/-- com/example/dayflower/dayflower/filter/FilterSlab -/
def k2 : Class := { plain "com/example/dayflower/dayflower/filter/FilterSlab" (some 0) with
  accessFlags := 48
  interfaces := #[]
  cf := some (fileOf pool2 9 #[] #[{ accessFlags := 0, nameIndex := 7, descriptorIndex := 78, attributes := #[] }, { accessFlags := 8, nameIndex := 38, descriptorIndex := 39, attributes := #[] }, { accessFlags := 0, nameIndex := 82, descriptorIndex := 83, attributes := #[] }, { accessFlags := 0, nameIndex := 86, descriptorIndex := 87, attributes := #[] }, { accessFlags := 0, nameIndex := 90, descriptorIndex := 91, attributes := #[] }, { accessFlags := 0, nameIndex := 92, descriptorIndex := 91, attributes := #[] }] 48 4 #[] #[{ accessFlags := 24, nameIndex := 75, descriptorIndex := 29, attributes := #[] }, { accessFlags := 18, nameIndex := 28, descriptorIndex := 29, attributes := #[] }, { accessFlags := 18, nameIndex := 35, descriptorIndex := 29, attributes := #[] }, { accessFlags := 18, nameIndex := 44, descriptorIndex := 45, attributes := #[] }, { accessFlags := 2, nameIndex := 50, descriptorIndex := 51, attributes := #[] }, { accessFlags := 2, nameIndex := 58, descriptorIndex := 51, attributes := #[] }])
  fields := #[{ name := "MAX_LANES", type := .int, accessFlags := 24, slot := 0, constantValue := 0 }, { name := "lanes", type := .int, accessFlags := 18, slot := 0, constantValue := 0 }, { name := "laneShift", type := .int, accessFlags := 18, slot := 1, constantValue := 0 }, { name := "words", type := (.array .long), accessFlags := 18, slot := 2, constantValue := 0 }, { name := "inUse", type := .long, accessFlags := 2, slot := 3, constantValue := 0 }, { name := "dirty", type := .long, accessFlags := 2, slot := 4, constantValue := 0 }]
  methods := #[k2m0, k2m1, k2m2, k2m3, k2m4, k2m5]
  instanceTypes := #[.int, .int, (.array .long), .long, .long]
  staticTypes := #[.int]
  resolved := Array.replicate 116 none
  statics := none }

def pool3 : Array CpInfo := pool [(1, .class_ 2), (0, u "java/io/Serializable"), (0, .class_ 4), (0, u "java/lang/Object")] 2

/-- java/io/Serializable -/
def k3 : Class := { plain "java/io/Serializable" (some 0) with
  accessFlags := 1537
  interfaces := #[]
  cf := some (fileOf pool3 1 #[] #[] 1537 3 #[] #[])
  fields := #[]
  methods := #[]
  instanceTypes := #[]
  staticTypes := #[]
  resolved := Array.replicate 7 none
  statics := none }

def pool4 : Array CpInfo := pool [(2, .class_ 4), (1, u "java/lang/Object"), (0, u "<init>"), (0, u "()V"), (1, .class_ 10), (1, u "java/lang/Number"), (2, .class_ 14), (0, u "java/io/Serializable"), (0, u "serialVersionUID"), (0, u "J")] 20

def k4m0 : Method := { name := "<init>", desc := "()V", sig := { parameters := [], returnType := none }, accessFlags := 1, code := none }
/-- java/lang/Number -/
def k4 : Class := { plain "java/lang/Number" (some 0) with
  accessFlags := 1057
  interfaces := #[3]
  cf := some (fileOf pool4 8 #[] #[{ accessFlags := 1, nameIndex := 5, descriptorIndex := 6, attributes := #[] }] 1057 2 #[13] #[{ accessFlags := 26, nameIndex := 15, descriptorIndex := 16, attributes := #[] }])
  fields := #[{ name := "serialVersionUID", type := .long, accessFlags := 26, slot := 0, constantValue := 0 }]
  methods := #[k4m0]
  instanceTypes := #[]
  staticTypes := #[.long]
  resolved := Array.replicate 37 none
  statics := none }

def pool5 : Array CpInfo := pool [(1, .class_ 2), (0, u "java/lang/Comparable"), (0, .class_ 4), (0, u "java/lang/Object")] 7

/-- java/lang/Comparable -/
def k5 : Class := { plain "java/lang/Comparable" (some 0) with
  accessFlags := 1537
  interfaces := #[]
  cf := some (fileOf pool5 1 #[] #[] 1537 3 #[] #[])
  fields := #[]
  methods := #[]
  instanceTypes := #[]
  staticTypes := #[]
  resolved := Array.replicate 12 none
  statics := none }

def pool6 : Array CpInfo := pool [(1, .class_ 2), (0, u "java/lang/constant/Constable"), (0, .class_ 4), (0, u "java/lang/Object")] 6

/-- java/lang/constant/Constable -/
def k6 : Class := { plain "java/lang/constant/Constable" (some 0) with
  accessFlags := 1537
  interfaces := #[]
  cf := some (fileOf pool6 1 #[] #[] 1537 3 #[] #[])
  fields := #[]
  methods := #[]
  instanceTypes := #[]
  staticTypes := #[]
  resolved := Array.replicate 11 none
  statics := none }

def pool7 : Array CpInfo := pool [(1, .class_ 2), (0, u "java/lang/constant/ConstantDesc"), (0, .class_ 4), (0, u "java/lang/Object")] 32

/-- java/lang/constant/ConstantDesc -/
def k7 : Class := { plain "java/lang/constant/ConstantDesc" (some 0) with
  accessFlags := 1537
  interfaces := #[]
  cf := some (fileOf pool7 1 #[] #[] 1537 3 #[] #[])
  fields := #[]
  methods := #[]
  instanceTypes := #[]
  staticTypes := #[]
  resolved := Array.replicate 37 none
  statics := none }

def pool8 : Array CpInfo := pool [(1, .class_ 2), (0, u "java/lang/Integer"), (16, u "digits"), (0, u "[C"), (33, u "(I)I"), (30, u "DigitOnes"), (0, u "[B"), (2, u "DigitTens"), (99, .class_ 190), (0, u "java/lang/Integer$IntegerCache"), (3, u "I"), (8, .class_ 204), (0, u "java/lang/Number"), (2, u "value"), (56, .integer 65536), (0, .integer 1431655765), (0, .integer 858993459), (0, .integer 252645135), (34, u "TYPE"), (0, u "Ljava/lang/Class;"), (0, .class_ 305), (0, u "java/lang/Comparable"), (0, .class_ 307), (0, u "java/lang/constant/Constable"), (0, .class_ 309), (0, u "java/lang/constant/ConstantDesc"), (0, u "MIN_VALUE"), (1, u "MAX_VALUE"), (3, u "SIZE"), (1, u "BYTES"), (1, u "serialVersionUID"), (0, u "J"), (84, u "numberOfTrailingZeros"), (0, u "bitCount")] 45

def k8c0 : Code := { maxStack := 3, maxLocals := 2, code := jdk_33_method_48_code, exceptionTable := #[], attributes := #[] }
def k8m0 : Method := { name := "numberOfTrailingZeros", desc := "(I)I", sig := { parameters := [.int], returnType := some .int }, accessFlags := 9, code := some k8c0 }
def k8c1 : Code := { maxStack := 3, maxLocals := 1, code := jdk_33_method_49_code, exceptionTable := #[], attributes := #[] }
def k8m1 : Method := { name := "bitCount", desc := "(I)I", sig := { parameters := [.int], returnType := some .int }, accessFlags := 9, code := some k8c1 }
/-- java/lang/Integer -/
def k8 : Class := { plain "java/lang/Integer" (some 4) with
  accessFlags := 49
  interfaces := #[5, 6, 7]
  cf := some (fileOf pool8 1 #[.nestMembers #[189]] #[{ accessFlags := 9, nameIndex := 406, descriptorIndex := 54, attributes := #[] }, { accessFlags := 9, nameIndex := 407, descriptorIndex := 54, attributes := #[] }] 49 203 #[304, 306, 308] #[{ accessFlags := 25, nameIndex := 310, descriptorIndex := 194, attributes := #[] }, { accessFlags := 25, nameIndex := 312, descriptorIndex := 194, attributes := #[] }, { accessFlags := 25, nameIndex := 302, descriptorIndex := 303, attributes := #[] }, { accessFlags := 24, nameIndex := 19, descriptorIndex := 20, attributes := #[] }, { accessFlags := 24, nameIndex := 89, descriptorIndex := 86, attributes := #[] }, { accessFlags := 24, nameIndex := 85, descriptorIndex := 86, attributes := #[] }, { accessFlags := 18, nameIndex := 207, descriptorIndex := 194, attributes := #[] }, { accessFlags := 25, nameIndex := 316, descriptorIndex := 194, attributes := #[] }, { accessFlags := 25, nameIndex := 318, descriptorIndex := 194, attributes := #[] }, { accessFlags := 26, nameIndex := 320, descriptorIndex := 321, attributes := #[] }])
  fields := #[{ name := "MIN_VALUE", type := .int, accessFlags := 25, slot := 0, constantValue := 0 }, { name := "MAX_VALUE", type := .int, accessFlags := 25, slot := 1, constantValue := 0 }, { name := "TYPE", type := (.object "java/lang/Class"), accessFlags := 25, slot := 2, constantValue := 0 }, { name := "digits", type := (.array .char), accessFlags := 24, slot := 3, constantValue := 0 }, { name := "DigitTens", type := (.array .byte), accessFlags := 24, slot := 4, constantValue := 0 }, { name := "DigitOnes", type := (.array .byte), accessFlags := 24, slot := 5, constantValue := 0 }, { name := "value", type := .int, accessFlags := 18, slot := 0, constantValue := 0 }, { name := "SIZE", type := .int, accessFlags := 25, slot := 6, constantValue := 0 }, { name := "BYTES", type := .int, accessFlags := 25, slot := 7, constantValue := 0 }, { name := "serialVersionUID", type := .long, accessFlags := 26, slot := 8, constantValue := 0 }]
  methods := #[k8m0, k8m1]
  instanceTypes := #[.int]
  staticTypes := #[.int, .int, (.object "java/lang/Class"), (.array .char), (.array .byte), (.array .byte), .int, .int, .long]
  resolved := Array.replicate 453 none
  statics := none }

def pool9 : Array CpInfo := pool [(1, u "java/lang/Cloneable"), (0, .class_ 1), (0, u "java/lang/Object"), (0, .class_ 3)] 3

/-- java/lang/Cloneable -/
def k9 : Class := { plain "java/lang/Cloneable" (some 0) with
  accessFlags := 1537
  interfaces := #[]
  cf := some (fileOf pool9 2 #[] #[] 1537 4 #[] #[])
  fields := #[]
  methods := #[]
  instanceTypes := #[]
  staticTypes := #[]
  resolved := Array.replicate 8 none
  statics := none }

/-- the primitive byte -/
def k10 : Class := { plain "byte" none with kind := .primitive 'B', accessFlags := 0x411 }
/-- [B -/
def k11 : Class := { plain "[B" (some 0) with kind := .array 10 .byte, interfaces := #[9, 3], accessFlags := 1041 }

/-- the primitive int -/
def k12 : Class := { plain "int" none with kind := .primitive 'I', accessFlags := 0x411 }
/-- [I -/
def k13 : Class := { plain "[I" (some 0) with kind := .array 12 .int, interfaces := #[9, 3], accessFlags := 1041 }

/-- the primitive long -/
def k14 : Class := { plain "long" none with kind := .primitive 'J', accessFlags := 0x411 }
/-- [J -/
def k15 : Class := { plain "[J" (some 0) with kind := .array 14 .long, interfaces := #[9, 3], accessFlags := 1041 }

def heap : Heap := #[]
def classes : Array Class := #[k0, k1, k2, k3, k4, k5, k6, k7, k8, k9, k10, k11, k12, k13, k14, k15]
def interned : List (Array UInt16 × Addr) := []
def slotsUsed : Nat := 0
def theMethod : MethodId := ⟨1, 3⟩
def args0 : Array Value := #[.int 5, .int 7, .int 9, .int 11, .long 4, .int 6]
def aboutOver (below : List Frame) : State where
  vm := { classes := classes, interned := interned.toArray }
  heap := heap
  slotsUsed := slotsUsed
  threads := #[{ frames := .invoking theMethod args0 :: below }]
def below0 : List Frame := [.native { method := ⟨0, 0⟩, args := #[] }]
def about1 : State := aboutOver below0
def p0 : Program := .bare "" "" ""
def e0 : Env := launch0.env 0 0 0
theorem w_frames : about1.frames = Frame.invoking theMethod args0 :: below0 := rfl
set_option maxRecDepth 65536 in
theorem w_args : argsFit about1.vm theMethod args0 = true := by decide +kernel
set_option maxRecDepth 65536 in
theorem w_heap : heapFits about1 = true := by decide +kernel
set_option maxRecDepth 65536 in
theorem w_runnable : about1.curStatus? = some .runnable := by decide +kernel
set_option maxRecDepth 65536 in
theorem w_alone : about1.alone = true := by decide +kernel
set_option maxRecDepth 65536 in
theorem w_named : about1.methodNamed? x = some theMethod := by decide +kernel
set_option maxRecDepth 65536 in
theorem w_hears : about1.hears theMethod below0 = true := by decide +kernel
set_option maxRecDepth 65536 in
theorem w_ripe : about1.ripe theMethod args0 below0 = true := by decide +kernel
theorem w_running : about1.status = .running := rfl
set_option maxRecDepth 65536 in
theorem w_room : about1.hasRoom e0.platform room_1 = true :=
  launch0.hasRoom_least _ room_1 (by decide +kernel) (by decide +kernel) (by decide +kernel) (by decide +kernel) (by decide +kernel) (by decide +kernel)
theorem allAtoms_all (ts : List Jvm.Cond) (a : Array Jvm.Value) (st : Jvm.State) : (allAtoms ts).before a st = ts.all (fun c => c.before a st) := by
  induction ts with
  | nil => rfl
  | cons c t ih =>
    show (Jvm.Cond.and c (allAtoms t)).before a st = _
    rw [Jvm.Cond.before_and, ih, List.all_cons]
def words1 : List Jvm.Cond := Jvm.Cond.code x code maxLocals ret :: tables_1
/-- a 'code' word, met by the world's own term for the bytes: nothing is compared byte by byte -/
theorem code_word {y : MethodName} {bytes : ByteArray} {mx : Nat} {rt : Option FieldType} {a : Array Value} {s : State} {m : MethodId} {meth : Method} {c : Code} (h1 : s.methodNamed? y = some m) (h2 : s.vm.method? m = some meth) (h3 : meth.code = some c) (h4 : c.code = bytes)
    (h5 : (c.maxLocals == mx && c.exceptionTable.isEmpty && decide (c.maxStack ≤ mostOperands) && decide (meth.sig.returnType = rt) && !meth.locks && decide (parseMethodDescriptor y.desc = some meth.sig)) = true) : (Jvm.Cond.code y bytes mx rt).before a s = true := by
  simp only [Bool.and_eq_true, beq_iff_eq, Bool.not_eq_true', decide_eq_true_eq] at h5
  obtain ⟨⟨⟨⟨⟨g1, g2⟩, g3⟩, g4⟩, g5⟩, g6⟩ := h5
  simp [Cond.before, Cond.holds, Cond.value, h1, h2, h3, h4, g1, g2, g3, g4, g5, g6]
def isCode : Jvm.Cond → Bool
  | .code _ _ _ _ => true
  | _ => false
theorem all_split {L : List Jvm.Cond} {P : Jvm.Cond → Bool} (h1 : L.all (fun c => isCode c || P c) = true) (h2 : ∀ c ∈ L.filter isCode, P c = true) : L.all P = true := by
  refine List.all_eq_true.mpr fun c hc => ?_
  have h := List.all_eq_true.mp h1 c hc
  rcases Bool.eq_false_or_eq_true (isCode c) with hi | hi
  · exact h2 c (List.mem_filter.mpr ⟨hc, hi⟩)
  · simpa [hi] using h
set_option maxRecDepth 65536 in
theorem w_c0 : (Jvm.Cond.code x code maxLocals ret).before args0 about1 = true := code_word (m := ⟨1, 3⟩) (meth := k1m3) (c := k1c3) (by decide +kernel) rfl rfl rfl (by decide +kernel)
set_option maxRecDepth 65536 in
theorem w_c1 : (Jvm.Cond.code ({ cls := "com/example/dayflower/dayflower/filter/FilterSlabHoldingPinLaw", name := "pick", desc := "(IIII)I" } : Jvm.MethodName) method_2_code (4 : Nat) (Option.some Jvm.ClassFile.FieldType.int)).before args0 about1 = true := code_word (m := ⟨1, 1⟩) (meth := k1m1) (c := k1c1) (by decide +kernel) rfl rfl rfl (by decide +kernel)
set_option maxRecDepth 65536 in
theorem w_c2 : (Jvm.Cond.code ({ cls := "com/example/dayflower/dayflower/filter/FilterSlab", name := "<init>", desc := "(II)V" } : Jvm.MethodName) prog_14_method_1_code (3 : Nat) (Option.none : Option Jvm.ClassFile.FieldType)).before args0 about1 = true := code_word (m := ⟨2, 0⟩) (meth := k2m0) (c := k2c0) (by decide +kernel) rfl rfl rfl (by decide +kernel)
set_option maxRecDepth 65536 in
theorem w_c3 : (Jvm.Cond.code ({ cls := "java/lang/Object", name := "<init>", desc := "()V" } : Jvm.MethodName) object_method_1_code (1 : Nat) (Option.none : Option Jvm.ClassFile.FieldType)).before args0 about1 = true := code_word (m := ⟨0, 0⟩) (meth := k0m0) (c := k0c0) (by decide +kernel) rfl rfl rfl (by decide +kernel)
set_option maxRecDepth 65536 in
theorem w_c4 : (Jvm.Cond.code ({ cls := "java/lang/Integer", name := "bitCount", desc := "(I)I" } : Jvm.MethodName) jdk_33_method_49_code (1 : Nat) (Option.some Jvm.ClassFile.FieldType.int)).before args0 about1 = true := code_word (m := ⟨8, 1⟩) (meth := k8m1) (c := k8c1) (by decide +kernel) rfl rfl rfl (by decide +kernel)
set_option maxRecDepth 65536 in
theorem w_c5 : (Jvm.Cond.code ({ cls := "java/lang/Integer", name := "numberOfTrailingZeros", desc := "(I)I" } : Jvm.MethodName) jdk_33_method_48_code (2 : Nat) (Option.some Jvm.ClassFile.FieldType.int)).before args0 about1 = true := code_word (m := ⟨8, 0⟩) (meth := k8m0) (c := k8c0) (by decide +kernel) rfl rfl rfl (by decide +kernel)
set_option maxRecDepth 65536 in
theorem w_c6 : (Jvm.Cond.code ({ cls := "com/example/dayflower/dayflower/filter/FilterSlab", name := "bytes", desc := "(II)J" } : Jvm.MethodName) prog_14_method_2_code (4 : Nat) (Option.some Jvm.ClassFile.FieldType.long)).before args0 about1 = true := code_word (m := ⟨2, 1⟩) (meth := k2m1) (c := k2c1) (by decide +kernel) rfl rfl rfl (by decide +kernel)
set_option maxRecDepth 65536 in
theorem w_c7 : (Jvm.Cond.code ({ cls := "com/example/dayflower/dayflower/filter/FilterSlab", name := "take", desc := "(I)V" } : Jvm.MethodName) prog_14_method_6_code (7 : Nat) (Option.none : Option Jvm.ClassFile.FieldType)).before args0 about1 = true := code_word (m := ⟨2, 4⟩) (meth := k2m4) (c := k2c4) (by decide +kernel) rfl rfl rfl (by decide +kernel)
set_option maxRecDepth 65536 in
theorem w_c8 : (Jvm.Cond.code ({ cls := "com/example/dayflower/dayflower/filter/FilterSlab", name := "add", desc := "([IJ)V" } : Jvm.MethodName) prog_14_method_4_code (10 : Nat) (Option.none : Option Jvm.ClassFile.FieldType)).before args0 about1 = true := code_word (m := ⟨2, 3⟩) (meth := k2m3) (c := k2c3) (by decide +kernel) rfl rfl rfl (by decide +kernel)
set_option maxRecDepth 65536 in
theorem w_c9 : (Jvm.Cond.code ({ cls := "com/example/dayflower/dayflower/filter/FilterSlab", name := "holding", desc := "([I)J" } : Jvm.MethodName) prog_14_method_3_code (10 : Nat) (Option.some Jvm.ClassFile.FieldType.long)).before args0 about1 = true := code_word (m := ⟨2, 2⟩) (meth := k2m2) (c := k2c2) (by decide +kernel) rfl rfl rfl (by decide +kernel)
set_option maxRecDepth 65536 in
theorem w_c10 : (Jvm.Cond.code ({ cls := "com/example/dayflower/dayflower/filter/FilterSlab", name := "free", desc := "(I)V" } : Jvm.MethodName) prog_14_method_7_code (4 : Nat) (Option.none : Option Jvm.ClassFile.FieldType)).before args0 about1 = true := code_word (m := ⟨2, 5⟩) (meth := k2m5) (c := k2c5) (by decide +kernel) rfl rfl rfl (by decide +kernel)
set_option maxRecDepth 65536 in
theorem w_c11 : (Jvm.Cond.code ({ cls := "com/example/dayflower/dayflower/filter/FilterSlabHoldingPinLaw", name := "lanesAt", desc := "(IIJIJ)J" } : Jvm.MethodName) method_3_code (9 : Nat) (Option.some Jvm.ClassFile.FieldType.long)).before args0 about1 = true := code_word (m := ⟨1, 2⟩) (meth := k1m2) (c := k1c2) (by decide +kernel) rfl rfl rfl (by decide +kernel)
def codes1 : List Jvm.Cond := [Jvm.Cond.code x code maxLocals ret, Jvm.Cond.code ({ cls := "com/example/dayflower/dayflower/filter/FilterSlabHoldingPinLaw", name := "pick", desc := "(IIII)I" } : Jvm.MethodName) method_2_code (4 : Nat) (Option.some Jvm.ClassFile.FieldType.int), Jvm.Cond.code ({ cls := "com/example/dayflower/dayflower/filter/FilterSlab", name := "<init>", desc := "(II)V" } : Jvm.MethodName) prog_14_method_1_code (3 : Nat) (Option.none : Option Jvm.ClassFile.FieldType), Jvm.Cond.code ({ cls := "java/lang/Object", name := "<init>", desc := "()V" } : Jvm.MethodName) object_method_1_code (1 : Nat) (Option.none : Option Jvm.ClassFile.FieldType), Jvm.Cond.code ({ cls := "java/lang/Integer", name := "bitCount", desc := "(I)I" } : Jvm.MethodName) jdk_33_method_49_code (1 : Nat) (Option.some Jvm.ClassFile.FieldType.int), Jvm.Cond.code ({ cls := "java/lang/Integer", name := "numberOfTrailingZeros", desc := "(I)I" } : Jvm.MethodName) jdk_33_method_48_code (2 : Nat) (Option.some Jvm.ClassFile.FieldType.int), Jvm.Cond.code ({ cls := "com/example/dayflower/dayflower/filter/FilterSlab", name := "bytes", desc := "(II)J" } : Jvm.MethodName) prog_14_method_2_code (4 : Nat) (Option.some Jvm.ClassFile.FieldType.long), Jvm.Cond.code ({ cls := "com/example/dayflower/dayflower/filter/FilterSlab", name := "take", desc := "(I)V" } : Jvm.MethodName) prog_14_method_6_code (7 : Nat) (Option.none : Option Jvm.ClassFile.FieldType), Jvm.Cond.code ({ cls := "com/example/dayflower/dayflower/filter/FilterSlab", name := "add", desc := "([IJ)V" } : Jvm.MethodName) prog_14_method_4_code (10 : Nat) (Option.none : Option Jvm.ClassFile.FieldType), Jvm.Cond.code ({ cls := "com/example/dayflower/dayflower/filter/FilterSlab", name := "holding", desc := "([I)J" } : Jvm.MethodName) prog_14_method_3_code (10 : Nat) (Option.some Jvm.ClassFile.FieldType.long), Jvm.Cond.code ({ cls := "com/example/dayflower/dayflower/filter/FilterSlab", name := "free", desc := "(I)V" } : Jvm.MethodName) prog_14_method_7_code (4 : Nat) (Option.none : Option Jvm.ClassFile.FieldType), Jvm.Cond.code ({ cls := "com/example/dayflower/dayflower/filter/FilterSlabHoldingPinLaw", name := "lanesAt", desc := "(IIJIJ)J" } : Jvm.MethodName) method_3_code (9 : Nat) (Option.some Jvm.ClassFile.FieldType.long)]
set_option maxRecDepth 65536 in
theorem codes_eq : words1.filter isCode = codes1 := rfl
theorem w_codes : ∀ c ∈ words1.filter isCode, c.before args0 about1 = true := by
  rw [codes_eq]
  intro c hc
  simp only [codes1, List.mem_cons, List.not_mem_nil, or_false] at hc
  rcases hc with rfl | rfl | rfl | rfl | rfl | rfl | rfl | rfl | rfl | rfl | rfl | rfl
  · exact w_c0
  · exact w_c1
  · exact w_c2
  · exact w_c3
  · exact w_c4
  · exact w_c5
  · exact w_c6
  · exact w_c7
  · exact w_c8
  · exact w_c9
  · exact w_c10
  · exact w_c11
set_option maxRecDepth 65536 in
theorem w_t1 : (words1.take 24).all (fun c => isCode c || c.before args0 about1) = true := by decide +kernel
set_option maxRecDepth 65536 in
theorem w_t2 : ((words1.drop 24).take 24).all (fun c => isCode c || c.before args0 about1) = true := by decide +kernel
set_option maxRecDepth 65536 in
theorem w_t3 : ((words1.drop 24).drop 24).all (fun c => isCode c || c.before args0 about1) = true := by decide +kernel
theorem w_tables : (allAtoms (Jvm.Cond.code x code maxLocals ret :: tables_1)).before args0 about1 = true := by
  rw [allAtoms_all]
  show words1.all (fun c => c.before args0 about1) = true
  refine all_split ?_ w_codes
  rw [← List.take_append_drop 24 words1, List.all_append, w_t1, ← List.take_append_drop 24 (words1.drop 24), List.all_append, w_t2, w_t3]
  rfl
set_option maxRecDepth 65536 in
theorem w_case : (Jvm.Cond.and given_1 narrow_1).before args0 about1 = true := by decide +kernel
theorem w_applies : (headSpec (Jvm.Cond.code x code maxLocals ret :: tables_1) room_1).applies x e0.platform about1 = true :=
  (Spec.applies_iff w_frames).mpr ⟨w_running, w_runnable, w_alone, w_named, w_hears, w_ripe, w_room, w_tables⟩
theorem atStart : AtStart classFile x code maxLocals ret World_1 tables_1 room_1 Calls_1 rest_1 Pre_1 launch0 p0 e0 about1 theMethod args0 below0 :=
  ⟨lists_1, trivial, launch0.admits_env _ _ _, launch0.least_env, fairChoices_fair.cas, fairChoices_fair.clock, w_frames, w_args, w_heap, w_applies, trivial, trivial, w_case⟩
end start1
theorem witness_1 : WitnessClaimed_1 := ⟨start1.p0, start1.e0, start1.about1, start1.theMethod, start1.args0, start1.below0, start1.atStart⟩
end Jvm.Pilot.@@N@@
