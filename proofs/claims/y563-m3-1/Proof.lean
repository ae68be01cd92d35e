import JvmDerived
import JvmDerived.Pilot.@@N@@Statement
import JvmDerived.Pilot.@@N@@Code
set_option linter.unusedVariables false
set_option linter.unusedSimpArgs false
namespace Jvm.Pilot.@@N@@
open Jvm Jvm.ClassFile Sem Op Lib Jvm.Free Jvm.Stand Jvm.LawKit Jvm.RoadKit Bundle Jvm.Pilot.@@N@@.Jvm.D
section OwnKit
variable {p : Program} {l : Launch} {e : Env} {R : Room} {s : State} {m : MethodId} {args : Array Value} {below : List Frame} {meth : Method} {c : Code} {T T' : State} {locs : List Loc} {cells slots kc kn : Nat} {Q : Option Value → Heap → List Loc → Prop} {f f' : JFrame} {pc q q' : Nat} {Ls Ls' : Array Slot} {st : List Value} {Z : State} {a0 : Array Value} {h : Heap} {by' : ByteArray} {ml : Nat} {own nm : String} {ret : Option FieldType}
/-- from this state, with this frame on top, the body returns as Q says -/
def Run (p : Program) (e : Env) (below : List Frame) (s : State) (kc kn : Nat) (Q : Option Value → Heap → List Loc → Prop) (T : State) (f : JFrame) : Prop :=
  ∃ t o, Steps p.tables e below (T.setTop f) t ∧ t.status = .running ∧ Ended t below o ∧ ∃ v L, o = .returned v ∧ Q v t.heap L ∧ FrameEnd s o t L kc kn
theorem Run.by (st : ∀ t, Steps p.tables e below (T'.setTop f') t → Steps p.tables e below (T.setTop f) t) (k : Run p e below s kc kn Q T' f') : Run p e below s kc kn Q T f := by
  obtain ⟨t, o, h1, r⟩ := k
  exact ⟨t, o, st t h1, r⟩
theorem Run.on (k : Run p e below s kc kn Q T' f') (st : Steps p.tables e below (T.setTop f) (T'.setTop f')) : Run p e below s kc kn Q T f := k.by fun _ h1 => st.trans h1
/-- what a walk knows of its method throughout -/
def Fx (p : Program) (s : State) (m : MethodId) (meth : Method) (c : Code) (by' : ByteArray) (ml : Nat) (own nm : String) (ret : Option FieldType) (Z : State) : Prop :=
  p.tables.exec = Jvm.exec ∧ c.code = by' ∧ c.maxLocals = ml ∧ s.vm.findClass own = some m.cls ∧ Z.Warmed39 s.vm ∧ meth.sig.returnType = ret ∧ meth.locks = false ∧ meth.name = nm
def ushrI (x k : Int32) : Int32 := (x.toUInt32 >>> (k &&& 31).toUInt32).toInt32
def shrI (x k : Int32) : Int32 := x >>> (k &&& 31)
def shlI (x k : Int32) : Int32 := x <<< (k &&& 31)
def ushrL (x : Int64) (k : Int32) : Int64 := (x.toUInt64 >>> (k &&& 0x3f).toInt64.toUInt64).toInt64
def shlL (x : Int64) (k : Int32) : Int64 := x <<< (k &&& 0x3f).toInt64
theorem k_iloadN (K : Fx p s m meth c by' ml own nm ret Z) (X : Stand p l e R s m args below meth c T locs cells slots) {k' : Fin 4} {v : Int32} (hd : decode by' pc = .ok (.iload_n k', 1)) (hl : Ls[k'.val]? = some (.val (.int v))) (hq : pc + 1 = q) (k : Run p e below s kc kn Q T (mkF m q Ls (.int v :: st))) : Run p e below s kc kn Q T (mkF m pc Ls st) := by
  subst hq; exact k.by fun t => XS.iloadN X.here K.1 rfl (hb K.2.1 hd) hl
theorem k_iload (K : Fx p s m meth c by' ml own nm ret Z) (X : Stand p l e R s m args below meth c T locs cells slots) {k' : Nat} {v : Int32} (hd : decode by' pc = .ok (.iload k', 2)) (hl : Ls[k']? = some (.val (.int v))) (hq : pc + 2 = q) (k : Run p e below s kc kn Q T (mkF m q Ls (.int v :: st))) : Run p e below s kc kn Q T (mkF m pc Ls st) := by
  subst hq; exact k.by fun t => XS.iload X.here K.1 rfl (hb K.2.1 hd) hl
theorem k_lloadN (K : Fx p s m meth c by' ml own nm ret Z) (X : Stand p l e R s m args below meth c T locs cells slots) {k' : Fin 4} {v : Int64} (hd : decode by' pc = .ok (.lload_n k', 1)) (hl : Ls[k'.val]? = some (.val (.long v))) (hq : pc + 1 = q) (k : Run p e below s kc kn Q T (mkF m q Ls (.long v :: st))) : Run p e below s kc kn Q T (mkF m pc Ls st) := by
  subst hq; exact k.by fun t => XS.lloadN X.here K.1 rfl (hb K.2.1 hd) hl
theorem k_lload (K : Fx p s m meth c by' ml own nm ret Z) (X : Stand p l e R s m args below meth c T locs cells slots) {k' : Nat} {v : Int64} (hd : decode by' pc = .ok (.lload k', 2)) (hl : Ls[k']? = some (.val (.long v))) (hq : pc + 2 = q) (k : Run p e below s kc kn Q T (mkF m q Ls (.long v :: st))) : Run p e below s kc kn Q T (mkF m pc Ls st) := by
  subst hq; exact k.by fun t => XS.lload X.here K.1 rfl (hb K.2.1 hd) hl
theorem k_aloadN (K : Fx p s m meth c by' ml own nm ret Z) (X : Stand p l e R s m args below meth c T locs cells slots) {k' : Fin 4} {v : Value} (hd : decode by' pc = .ok (.aload_n k', 1)) (hl : Ls[k'.val]? = some (.val v)) (hv : v.isRef = true) (hq : pc + 1 = q) (k : Run p e below s kc kn Q T (mkF m q Ls (v :: st))) : Run p e below s kc kn Q T (mkF m pc Ls st) := by
  subst hq; exact k.by fun t => XS.aloadN X.here K.1 rfl (hb K.2.1 hd) hl hv
theorem k_aload (K : Fx p s m meth c by' ml own nm ret Z) (X : Stand p l e R s m args below meth c T locs cells slots) {k' : Nat} {v : Value} (hd : decode by' pc = .ok (.aload k', 2)) (hl : Ls[k']? = some (.val v)) (hv : v.isRef = true) (hq : pc + 2 = q) (k : Run p e below s kc kn Q T (mkF m q Ls (v :: st))) : Run p e below s kc kn Q T (mkF m pc Ls st) := by
  subst hq; exact k.by fun t => XS.aload X.here K.1 rfl (hb K.2.1 hd) hl hv
theorem k_istoreN (K : Fx p s m meth c by' ml own nm ret Z) (X : Stand p l e R s m args below meth c T locs cells slots) {k' : Fin 4} {v x : Int32} (hd : decode by' pc = .ok (.istore_n k', 1)) (hv : x = v) (hl : storeLocals Ls k'.val (.int v) = some Ls') (hq : pc + 1 = q) (k : Run p e below s kc kn Q T (mkF m q Ls' st)) : Run p e below s kc kn Q T (mkF m pc Ls (.int x :: st)) := by
  subst hq hv; exact k.by fun t => XS.istoreN X.here K.1 rfl (hb K.2.1 hd) rfl hl
theorem k_istore (K : Fx p s m meth c by' ml own nm ret Z) (X : Stand p l e R s m args below meth c T locs cells slots) {k' : Nat} {v x : Int32} (hd : decode by' pc = .ok (.istore k', 2)) (hv : x = v) (hl : storeLocals Ls k' (.int v) = some Ls') (hq : pc + 2 = q) (k : Run p e below s kc kn Q T (mkF m q Ls' st)) : Run p e below s kc kn Q T (mkF m pc Ls (.int x :: st)) := by
  subst hq hv; exact k.by fun t => XS.istore X.here K.1 rfl (hb K.2.1 hd) rfl hl
theorem k_lstoreN (K : Fx p s m meth c by' ml own nm ret Z) (X : Stand p l e R s m args below meth c T locs cells slots) {k' : Fin 4} {v x : Int64} (hd : decode by' pc = .ok (.lstore_n k', 1)) (hv : x = v) (hl : storeLocals Ls k'.val (.long v) = some Ls') (hq : pc + 1 = q) (k : Run p e below s kc kn Q T (mkF m q Ls' st)) : Run p e below s kc kn Q T (mkF m pc Ls (.long x :: st)) := by
  subst hq hv; exact k.by fun t => XS.lstoreN X.here K.1 rfl (hb K.2.1 hd) rfl hl
theorem k_lstore (K : Fx p s m meth c by' ml own nm ret Z) (X : Stand p l e R s m args below meth c T locs cells slots) {k' : Nat} {v x : Int64} (hd : decode by' pc = .ok (.lstore k', 2)) (hv : x = v) (hl : storeLocals Ls k' (.long v) = some Ls') (hq : pc + 2 = q) (k : Run p e below s kc kn Q T (mkF m q Ls' st)) : Run p e below s kc kn Q T (mkF m pc Ls (.long x :: st)) := by
  subst hq hv; exact k.by fun t => XS.lstore X.here K.1 rfl (hb K.2.1 hd) rfl hl
theorem k_astore (K : Fx p s m meth c by' ml own nm ret Z) (X : Stand p l e R s m args below meth c T locs cells slots) {k' : Nat} {v : Value} (hd : decode by' pc = .ok (.astore k', 2)) (hv : v.isRef = true) (hl : storeLocals Ls k' v = some Ls') (hq : pc + 2 = q) (k : Run p e below s kc kn Q T (mkF m q Ls' st)) : Run p e below s kc kn Q T (mkF m pc Ls (v :: st)) := by
  subst hq; exact k.by fun t => XS.astore X.here K.1 rfl (hb K.2.1 hd) rfl hv hl
theorem k_iinc (K : Fx p s m meth c by' ml own nm ret Z) (X : Stand p l e R s m args below meth c T locs cells slots) {k' : Nat} {cst : Int} {x v : Int32} (hd : decode by' pc = .ok (.iinc k' cst, 3)) (hg : Ls[k']? = some (.val (.int x))) (hv : x + Int32.ofInt cst = v) (hl : storeLocals Ls k' (.int v) = some Ls') (hq : pc + 3 = q) (k : Run p e below s kc kn Q T (mkF m q Ls' st)) : Run p e below s kc kn Q T (mkF m pc Ls st) := by
  subst hq hv; exact k.by fun t => XS.iinc X.here K.1 rfl (hb K.2.1 hd) hg hl
theorem k_iconst (K : Fx p s m meth c by' ml own nm ret Z) (X : Stand p l e R s m args below meth c T locs cells slots) {i : Int} {v : Int32} (hd : decode by' pc = .ok (.iconst i, 1)) (hv : Int32.ofInt i = v) (hq : pc + 1 = q) (k : Run p e below s kc kn Q T (mkF m q Ls (.int v :: st))) : Run p e below s kc kn Q T (mkF m pc Ls st) := by
  subst hq hv; exact k.by fun t => XS.iconst X.here K.1 rfl (hb K.2.1 hd)
theorem k_bipush (K : Fx p s m meth c by' ml own nm ret Z) (X : Stand p l e R s m args below meth c T locs cells slots) {i : Int} {v : Int32} (hd : decode by' pc = .ok (.bipush i, 2)) (hv : (Int8.ofInt i).toInt32 = v) (hq : pc + 2 = q) (k : Run p e below s kc kn Q T (mkF m q Ls (.int v :: st))) : Run p e below s kc kn Q T (mkF m pc Ls st) := by
  subst hq hv; exact k.by fun t => XS.bipush X.here K.1 rfl (hb K.2.1 hd)
theorem k_sipush (K : Fx p s m meth c by' ml own nm ret Z) (X : Stand p l e R s m args below meth c T locs cells slots) {i : Int} {v : Int32} (hd : decode by' pc = .ok (.sipush i, 3)) (hv : (Int16.ofInt i).toInt32 = v) (hq : pc + 3 = q) (k : Run p e below s kc kn Q T (mkF m q Ls (.int v :: st))) : Run p e below s kc kn Q T (mkF m pc Ls st) := by
  subst hq hv; exact k.by fun t => XS.sipush X.here K.1 rfl (hb K.2.1 hd)
theorem k_lconst0 (K : Fx p s m meth c by' ml own nm ret Z) (X : Stand p l e R s m args below meth c T locs cells slots) (hd : decode by' pc = .ok (.lconst 0, 1)) (hq : pc + 1 = q) (k : Run p e below s kc kn Q T (mkF m q Ls (.long 0 :: st))) : Run p e below s kc kn Q T (mkF m pc Ls st) := by
  subst hq; exact k.by fun t => XS.lconst X.here K.1 rfl (hb K.2.1 hd)
theorem k_lconst1 (K : Fx p s m meth c by' ml own nm ret Z) (X : Stand p l e R s m args below meth c T locs cells slots) (hd : decode by' pc = .ok (.lconst 1, 1)) (hq : pc + 1 = q) (k : Run p e below s kc kn Q T (mkF m q Ls (.long 1 :: st))) : Run p e below s kc kn Q T (mkF m pc Ls st) := by
  subst hq; exact k.by fun t => XS.lconst X.here K.1 rfl (hb K.2.1 hd)
theorem k_iadd (K : Fx p s m meth c by' ml own nm ret Z) (X : Stand p l e R s m args below meth c T locs cells slots) {x y : Int32} (hd : decode by' pc = .ok (.iadd, 1)) (hq : pc + 1 = q) (k : Run p e below s kc kn Q T (mkF m q Ls (.int (x + y) :: st))) : Run p e below s kc kn Q T (mkF m pc Ls (.int y :: .int x :: st)) := by
  subst hq; exact k.by fun t => XS.iadd X.here K.1 rfl (hb K.2.1 hd) rfl
theorem k_ladd (K : Fx p s m meth c by' ml own nm ret Z) (X : Stand p l e R s m args below meth c T locs cells slots) {x y : Int64} (hd : decode by' pc = .ok (.ladd, 1)) (hq : pc + 1 = q) (k : Run p e below s kc kn Q T (mkF m q Ls (.long (x + y) :: st))) : Run p e below s kc kn Q T (mkF m pc Ls (.long y :: .long x :: st)) := by
  subst hq; exact k.by fun t => XS.ladd X.here K.1 rfl (hb K.2.1 hd) rfl
theorem k_isub (K : Fx p s m meth c by' ml own nm ret Z) (X : Stand p l e R s m args below meth c T locs cells slots) {x y : Int32} (hd : decode by' pc = .ok (.isub, 1)) (hq : pc + 1 = q) (k : Run p e below s kc kn Q T (mkF m q Ls (.int (x - y) :: st))) : Run p e below s kc kn Q T (mkF m pc Ls (.int y :: .int x :: st)) := by
  subst hq; exact k.by fun t => XS.isub X.here K.1 rfl (hb K.2.1 hd) rfl
theorem k_lsub (K : Fx p s m meth c by' ml own nm ret Z) (X : Stand p l e R s m args below meth c T locs cells slots) {x y : Int64} (hd : decode by' pc = .ok (.lsub, 1)) (hq : pc + 1 = q) (k : Run p e below s kc kn Q T (mkF m q Ls (.long (x - y) :: st))) : Run p e below s kc kn Q T (mkF m pc Ls (.long y :: .long x :: st)) := by
  subst hq; exact k.by fun t => XS.lsub X.here K.1 rfl (hb K.2.1 hd) rfl
theorem k_lmul (K : Fx p s m meth c by' ml own nm ret Z) (X : Stand p l e R s m args below meth c T locs cells slots) {x y : Int64} (hd : decode by' pc = .ok (.lmul, 1)) (hq : pc + 1 = q) (k : Run p e below s kc kn Q T (mkF m q Ls (.long (x * y) :: st))) : Run p e below s kc kn Q T (mkF m pc Ls (.long y :: .long x :: st)) := by
  subst hq; exact k.by fun t => XS.lmul X.here K.1 rfl (hb K.2.1 hd) rfl
theorem k_iand (K : Fx p s m meth c by' ml own nm ret Z) (X : Stand p l e R s m args below meth c T locs cells slots) {x y : Int32} (hd : decode by' pc = .ok (.iand, 1)) (hq : pc + 1 = q) (k : Run p e below s kc kn Q T (mkF m q Ls (.int (x &&& y) :: st))) : Run p e below s kc kn Q T (mkF m pc Ls (.int y :: .int x :: st)) := by
  subst hq; exact k.by fun t => XS.iand X.here K.1 rfl (hb K.2.1 hd) rfl
theorem k_land (K : Fx p s m meth c by' ml own nm ret Z) (X : Stand p l e R s m args below meth c T locs cells slots) {x y : Int64} (hd : decode by' pc = .ok (.land, 1)) (hq : pc + 1 = q) (k : Run p e below s kc kn Q T (mkF m q Ls (.long (x &&& y) :: st))) : Run p e below s kc kn Q T (mkF m pc Ls (.long y :: .long x :: st)) := by
  subst hq; exact k.by fun t => XS.land X.here K.1 rfl (hb K.2.1 hd) rfl
theorem k_lor (K : Fx p s m meth c by' ml own nm ret Z) (X : Stand p l e R s m args below meth c T locs cells slots) {x y : Int64} (hd : decode by' pc = .ok (.lor, 1)) (hq : pc + 1 = q) (k : Run p e below s kc kn Q T (mkF m q Ls (.long (x ||| y) :: st))) : Run p e below s kc kn Q T (mkF m pc Ls (.long y :: .long x :: st)) := by
  subst hq; exact k.by fun t => XS.lor X.here K.1 rfl (hb K.2.1 hd) rfl
theorem k_ixor (K : Fx p s m meth c by' ml own nm ret Z) (X : Stand p l e R s m args below meth c T locs cells slots) {x y : Int32} (hd : decode by' pc = .ok (.ixor, 1)) (hq : pc + 1 = q) (k : Run p e below s kc kn Q T (mkF m q Ls (.int (x ^^^ y) :: st))) : Run p e below s kc kn Q T (mkF m pc Ls (.int y :: .int x :: st)) := by
  subst hq; exact k.by fun t => XS.ixor X.here K.1 rfl (hb K.2.1 hd) rfl
theorem k_lxor (K : Fx p s m meth c by' ml own nm ret Z) (X : Stand p l e R s m args below meth c T locs cells slots) {x y : Int64} (hd : decode by' pc = .ok (.lxor, 1)) (hq : pc + 1 = q) (k : Run p e below s kc kn Q T (mkF m q Ls (.long (x ^^^ y) :: st))) : Run p e below s kc kn Q T (mkF m pc Ls (.long y :: .long x :: st)) := by
  subst hq; exact k.by fun t => XS.lxor X.here K.1 rfl (hb K.2.1 hd) rfl
theorem k_ishl (K : Fx p s m meth c by' ml own nm ret Z) (X : Stand p l e R s m args below meth c T locs cells slots) {x y : Int32} (hd : decode by' pc = .ok (.ishl, 1)) (hq : pc + 1 = q) (k : Run p e below s kc kn Q T (mkF m q Ls (.int (shlI x y) :: st))) : Run p e below s kc kn Q T (mkF m pc Ls (.int y :: .int x :: st)) := by
  subst hq; exact k.by fun t => XS.ishl X.here K.1 rfl (hb K.2.1 hd) rfl
theorem k_lshl (K : Fx p s m meth c by' ml own nm ret Z) (X : Stand p l e R s m args below meth c T locs cells slots) {x : Int64} {y : Int32} (hd : decode by' pc = .ok (.lshl, 1)) (hq : pc + 1 = q) (k : Run p e below s kc kn Q T (mkF m q Ls (.long (shlL x y) :: st))) : Run p e below s kc kn Q T (mkF m pc Ls (.int y :: .long x :: st)) := by
  subst hq; exact k.by fun t => XS.lshl X.here K.1 rfl (hb K.2.1 hd) rfl
theorem k_iushr (K : Fx p s m meth c by' ml own nm ret Z) (X : Stand p l e R s m args below meth c T locs cells slots) {x y : Int32} (hd : decode by' pc = .ok (.iushr, 1)) (hq : pc + 1 = q) (k : Run p e below s kc kn Q T (mkF m q Ls (.int (ushrI x y) :: st))) : Run p e below s kc kn Q T (mkF m pc Ls (.int y :: .int x :: st)) := by
  subst hq; exact k.by fun t => XS.iushr X.here K.1 rfl (hb K.2.1 hd) rfl
theorem k_lushr (K : Fx p s m meth c by' ml own nm ret Z) (X : Stand p l e R s m args below meth c T locs cells slots) {x : Int64} {y : Int32} (hd : decode by' pc = .ok (.lushr, 1)) (hq : pc + 1 = q) (k : Run p e below s kc kn Q T (mkF m q Ls (.long (ushrL x y) :: st))) : Run p e below s kc kn Q T (mkF m pc Ls (.int y :: .long x :: st)) := by
  subst hq; exact k.by fun t => XS.lushr X.here K.1 rfl (hb K.2.1 hd) rfl
theorem k_i2l (K : Fx p s m meth c by' ml own nm ret Z) (X : Stand p l e R s m args below meth c T locs cells slots) {x : Int32} (hd : decode by' pc = .ok (.i2l, 1)) (hq : pc + 1 = q) (k : Run p e below s kc kn Q T (mkF m q Ls (.long x.toInt64 :: st))) : Run p e below s kc kn Q T (mkF m pc Ls (.int x :: st)) := by
  subst hq; exact k.by fun t => XS.i2l X.here K.1 rfl (hb K.2.1 hd) rfl
theorem k_l2i (K : Fx p s m meth c by' ml own nm ret Z) (X : Stand p l e R s m args below meth c T locs cells slots) {x : Int64} (hd : decode by' pc = .ok (.l2i, 1)) (hq : pc + 1 = q) (k : Run p e below s kc kn Q T (mkF m q Ls (.int x.toInt32 :: st))) : Run p e below s kc kn Q T (mkF m pc Ls (.long x :: st)) := by
  subst hq; exact k.by fun t => XS.l2i X.here K.1 rfl (hb K.2.1 hd) rfl
theorem k_ldiv (K : Fx p s m meth c by' ml own nm ret Z) (X : Stand p l e R s m args below meth c T locs cells slots) {x y : Int64} (hd : decode by' pc = .ok (.ldiv, 1)) (hy : y ≠ 0) (hq : pc + 1 = q) (k : Run p e below s kc kn Q T (mkF m q Ls (.long (x / y) :: st))) : Run p e below s kc kn Q T (mkF m pc Ls (.long y :: .long x :: st)) := by
  subst hq; exact k.by fun t => XS.ldiv X.here K.1 rfl (hb K.2.1 hd) rfl hy
theorem k_irem (K : Fx p s m meth c by' ml own nm ret Z) (X : Stand p l e R s m args below meth c T locs cells slots) {x y : Int32} (hd : decode by' pc = .ok (.irem, 1)) (hy : y ≠ 0) (hq : pc + 1 = q) (k : Run p e below s kc kn Q T (mkF m q Ls (.int (x % y) :: st))) : Run p e below s kc kn Q T (mkF m pc Ls (.int y :: .int x :: st)) := by
  subst hq; exact k.by fun t => iremM X K.1 rfl (hb K.2.1 hd) rfl hy
theorem k_lcmp (K : Fx p s m meth c by' ml own nm ret Z) (X : Stand p l e R s m args below meth c T locs cells slots) {x y : Int64} (hd : decode by' pc = .ok (.lcmp, 1)) (hq : pc + 1 = q) (k : Run p e below s kc kn Q T (mkF m q Ls (.int (lcmpW x y) :: st))) : Run p e below s kc kn Q T (mkF m pc Ls (.long y :: .long x :: st)) := by
  subst hq; exact k.by fun t => XS.lcmp X.here K.1 rfl (hb K.2.1 hd) rfl
theorem k_dup (K : Fx p s m meth c by' ml own nm ret Z) (X : Stand p l e R s m args below meth c T locs cells slots) {v : Value} (hd : decode by' pc = .ok (.dup, 1)) (hc : v.category = 1) (hq : pc + 1 = q) (k : Run p e below s kc kn Q T (mkF m q Ls (v :: v :: st))) : Run p e below s kc kn Q T (mkF m pc Ls (v :: st)) := by
  subst hq; exact k.by fun t => XS.dup X.here K.1 rfl (hb K.2.1 hd) rfl hc
theorem k_dup2 (K : Fx p s m meth c by' ml own nm ret Z) (X : Stand p l e R s m args below meth c T locs cells slots) {v u : Value} (hd : decode by' pc = .ok (.dup2, 1)) (hc : v.category = 1) (hc' : u.category = 1) (hq : pc + 1 = q) (k : Run p e below s kc kn Q T (mkF m q Ls (v :: u :: v :: u :: st))) : Run p e below s kc kn Q T (mkF m pc Ls (v :: u :: st)) := by
  subst hq; exact k.by fun t => XT.dup2 X.here K.1 rfl (hb K.2.1 hd) rfl hc hc'
theorem k_goto (K : Fx p s m meth c by' ml own nm ret Z) (X : Stand p l e R s m args below meth c T locs cells slots) {o : Int} (hd : decode by' pc = .ok (.goto o, 3)) (ho : 0 ≤ (pc : Int) + o) (hq : ((pc : Int) + o).toNat = q) (k : Run p e below s kc kn Q T (mkF m q Ls st)) : Run p e below s kc kn Q T (mkF m pc Ls st) := k.by fun t => XS.goto X.here K.1 rfl rfl (hb K.2.1 hd) ho hq
theorem k_nameJ {x v : Int64} (hv : x = v) (k : Run p e below s kc kn Q T (mkF m pc Ls (.long v :: st))) : Run p e below s kc kn Q T (mkF m pc Ls (.long x :: st)) := by
  subst hv; exact k
theorem k_if_eq_y (K : Fx p s m meth c by' ml own nm ret Z) (X : Stand p l e R s m args below meth c T locs cells slots) {x : Int32} {o : Int} (hd : decode by' pc = .ok (.ifCond .eq o, 3)) (hc : x = 0) (ho : 0 ≤ (pc : Int) + o) (hq : ((pc : Int) + o).toNat = q) (k : Run p e below s kc kn Q T (mkF m q Ls st)) : Run p e below s kc kn Q T (mkF m pc Ls (.int x :: st)) := k.by fun t => XS.ifYes X.here K.1 rfl rfl (hb K.2.1 hd) rfl ((if0 _ _).trans (teq hc).1) ho hq
theorem k_if_eq_n (K : Fx p s m meth c by' ml own nm ret Z) (X : Stand p l e R s m args below meth c T locs cells slots) {x : Int32} {o : Int} (hd : decode by' pc = .ok (.ifCond .eq o, 3)) (hc : ¬ x = 0) (hq : pc + 3 = q) (k : Run p e below s kc kn Q T (mkF m q Ls st)) : Run p e below s kc kn Q T (mkF m pc Ls (.int x :: st)) := by
  subst hq; exact k.by fun t => XS.ifNo X.here K.1 rfl (hb K.2.1 hd) rfl ((if0 _ _).trans (feq hc).1)
theorem k_if_eq (K : Fx p s m meth c by' ml own nm ret Z) (X : Stand p l e R s m args below meth c T locs cells slots) {x : Int32} {o : Int} (hd : decode by' pc = .ok (.ifCond .eq o, 3)) (ho : 0 ≤ (pc : Int) + o) (hq : ((pc : Int) + o).toNat = q) (hq' : pc + 3 = q') (ky : x = 0 → Run p e below s kc kn Q T (mkF m q Ls st)) (kno : ¬ x = 0 → Run p e below s kc kn Q T (mkF m q' Ls st)) : Run p e below s kc kn Q T (mkF m pc Ls (.int x :: st)) := by
  by_cases hc : x = 0
  · exact k_if_eq_y K X hd hc ho hq (ky hc)
  · exact k_if_eq_n K X hd hc hq' (kno hc)
theorem k_icmp_eq_y (K : Fx p s m meth c by' ml own nm ret Z) (X : Stand p l e R s m args below meth c T locs cells slots) {x y : Int32} {o : Int} (hd : decode by' pc = .ok (.if_icmp .eq o, 3)) (hc : x = y) (ho : 0 ≤ (pc : Int) + o) (hq : ((pc : Int) + o).toNat = q) (k : Run p e below s kc kn Q T (mkF m q Ls st)) : Run p e below s kc kn Q T (mkF m pc Ls (.int y :: .int x :: st)) := k.by fun t => XS.icmpYes X.here K.1 rfl rfl (hb K.2.1 hd) rfl (teq hc).1 ho hq
theorem k_icmp_eq_n (K : Fx p s m meth c by' ml own nm ret Z) (X : Stand p l e R s m args below meth c T locs cells slots) {x y : Int32} {o : Int} (hd : decode by' pc = .ok (.if_icmp .eq o, 3)) (hc : ¬ x = y) (hq : pc + 3 = q) (k : Run p e below s kc kn Q T (mkF m q Ls st)) : Run p e below s kc kn Q T (mkF m pc Ls (.int y :: .int x :: st)) := by
  subst hq; exact k.by fun t => XS.icmpNo X.here K.1 rfl (hb K.2.1 hd) rfl (feq hc).1
theorem k_icmp_eq (K : Fx p s m meth c by' ml own nm ret Z) (X : Stand p l e R s m args below meth c T locs cells slots) {x y : Int32} {o : Int} (hd : decode by' pc = .ok (.if_icmp .eq o, 3)) (ho : 0 ≤ (pc : Int) + o) (hq : ((pc : Int) + o).toNat = q) (hq' : pc + 3 = q') (ky : x = y → Run p e below s kc kn Q T (mkF m q Ls st)) (kno : ¬ x = y → Run p e below s kc kn Q T (mkF m q' Ls st)) : Run p e below s kc kn Q T (mkF m pc Ls (.int y :: .int x :: st)) := by
  by_cases hc : x = y
  · exact k_icmp_eq_y K X hd hc ho hq (ky hc)
  · exact k_icmp_eq_n K X hd hc hq' (kno hc)
theorem k_lcmp_eq_y (K : Fx p s m meth c by' ml own nm ret Z) (X : Stand p l e R s m args below meth c T locs cells slots) {x y : Int64} {o : Int} (hd : decode by' pc = .ok (.ifCond .eq o, 3)) (hc : x = y) (ho : 0 ≤ (pc : Int) + o) (hq : ((pc : Int) + o).toNat = q) (k : Run p e below s kc kn Q T (mkF m q Ls st)) : Run p e below s kc kn Q T (mkF m pc Ls (.int (lcmpW x y) :: st)) := k_if_eq_y K X hd ((lw_eq x y).mpr hc) ho hq k
theorem k_lcmp_eq_n (K : Fx p s m meth c by' ml own nm ret Z) (X : Stand p l e R s m args below meth c T locs cells slots) {x y : Int64} {o : Int} (hd : decode by' pc = .ok (.ifCond .eq o, 3)) (hc : ¬ x = y) (hq : pc + 3 = q) (k : Run p e below s kc kn Q T (mkF m q Ls st)) : Run p e below s kc kn Q T (mkF m pc Ls (.int (lcmpW x y) :: st)) := k_if_eq_n K X hd (fun z => hc ((lw_eq x y).mp z)) hq k
theorem k_lcmp_eq (K : Fx p s m meth c by' ml own nm ret Z) (X : Stand p l e R s m args below meth c T locs cells slots) {x y : Int64} {o : Int} (hd : decode by' pc = .ok (.ifCond .eq o, 3)) (ho : 0 ≤ (pc : Int) + o) (hq : ((pc : Int) + o).toNat = q) (hq' : pc + 3 = q') (ky : x = y → Run p e below s kc kn Q T (mkF m q Ls st)) (kno : ¬ x = y → Run p e below s kc kn Q T (mkF m q' Ls st)) : Run p e below s kc kn Q T (mkF m pc Ls (.int (lcmpW x y) :: st)) := by
  by_cases hc : x = y
  · exact k_lcmp_eq_y K X hd hc ho hq (ky hc)
  · exact k_lcmp_eq_n K X hd hc hq' (kno hc)
theorem k_if_ne_y (K : Fx p s m meth c by' ml own nm ret Z) (X : Stand p l e R s m args below meth c T locs cells slots) {x : Int32} {o : Int} (hd : decode by' pc = .ok (.ifCond .ne o, 3)) (hc : ¬ x = 0) (ho : 0 ≤ (pc : Int) + o) (hq : ((pc : Int) + o).toNat = q) (k : Run p e below s kc kn Q T (mkF m q Ls st)) : Run p e below s kc kn Q T (mkF m pc Ls (.int x :: st)) := k.by fun t => XS.ifYes X.here K.1 rfl rfl (hb K.2.1 hd) rfl ((if0 _ _).trans (feq hc).2) ho hq
theorem k_if_ne_n (K : Fx p s m meth c by' ml own nm ret Z) (X : Stand p l e R s m args below meth c T locs cells slots) {x : Int32} {o : Int} (hd : decode by' pc = .ok (.ifCond .ne o, 3)) (hc : x = 0) (hq : pc + 3 = q) (k : Run p e below s kc kn Q T (mkF m q Ls st)) : Run p e below s kc kn Q T (mkF m pc Ls (.int x :: st)) := by
  subst hq; exact k.by fun t => XS.ifNo X.here K.1 rfl (hb K.2.1 hd) rfl ((if0 _ _).trans (teq hc).2)
theorem k_icmp_ne_y (K : Fx p s m meth c by' ml own nm ret Z) (X : Stand p l e R s m args below meth c T locs cells slots) {x y : Int32} {o : Int} (hd : decode by' pc = .ok (.if_icmp .ne o, 3)) (hc : ¬ x = y) (ho : 0 ≤ (pc : Int) + o) (hq : ((pc : Int) + o).toNat = q) (k : Run p e below s kc kn Q T (mkF m q Ls st)) : Run p e below s kc kn Q T (mkF m pc Ls (.int y :: .int x :: st)) := k.by fun t => XS.icmpYes X.here K.1 rfl rfl (hb K.2.1 hd) rfl (feq hc).2 ho hq
theorem k_icmp_ne_n (K : Fx p s m meth c by' ml own nm ret Z) (X : Stand p l e R s m args below meth c T locs cells slots) {x y : Int32} {o : Int} (hd : decode by' pc = .ok (.if_icmp .ne o, 3)) (hc : x = y) (hq : pc + 3 = q) (k : Run p e below s kc kn Q T (mkF m q Ls st)) : Run p e below s kc kn Q T (mkF m pc Ls (.int y :: .int x :: st)) := by
  subst hq; exact k.by fun t => XS.icmpNo X.here K.1 rfl (hb K.2.1 hd) rfl (teq hc).2
theorem k_icmp_ne (K : Fx p s m meth c by' ml own nm ret Z) (X : Stand p l e R s m args below meth c T locs cells slots) {x y : Int32} {o : Int} (hd : decode by' pc = .ok (.if_icmp .ne o, 3)) (ho : 0 ≤ (pc : Int) + o) (hq : ((pc : Int) + o).toNat = q) (hq' : pc + 3 = q') (ky : ¬ x = y → Run p e below s kc kn Q T (mkF m q Ls st)) (kno : x = y → Run p e below s kc kn Q T (mkF m q' Ls st)) : Run p e below s kc kn Q T (mkF m pc Ls (.int y :: .int x :: st)) := by
  by_cases hc : x = y
  · exact k_icmp_ne_n K X hd hc hq' (kno hc)
  · exact k_icmp_ne_y K X hd hc ho hq (ky hc)
theorem k_lcmp_ne_y (K : Fx p s m meth c by' ml own nm ret Z) (X : Stand p l e R s m args below meth c T locs cells slots) {x y : Int64} {o : Int} (hd : decode by' pc = .ok (.ifCond .ne o, 3)) (hc : ¬ x = y) (ho : 0 ≤ (pc : Int) + o) (hq : ((pc : Int) + o).toNat = q) (k : Run p e below s kc kn Q T (mkF m q Ls st)) : Run p e below s kc kn Q T (mkF m pc Ls (.int (lcmpW x y) :: st)) := k_if_ne_y K X hd (fun z => hc ((lw_eq x y).mp z)) ho hq k
theorem k_lcmp_ne_n (K : Fx p s m meth c by' ml own nm ret Z) (X : Stand p l e R s m args below meth c T locs cells slots) {x y : Int64} {o : Int} (hd : decode by' pc = .ok (.ifCond .ne o, 3)) (hc : x = y) (hq : pc + 3 = q) (k : Run p e below s kc kn Q T (mkF m q Ls st)) : Run p e below s kc kn Q T (mkF m pc Ls (.int (lcmpW x y) :: st)) := k_if_ne_n K X hd ((lw_eq x y).mpr hc) hq k
theorem k_lcmp_ne (K : Fx p s m meth c by' ml own nm ret Z) (X : Stand p l e R s m args below meth c T locs cells slots) {x y : Int64} {o : Int} (hd : decode by' pc = .ok (.ifCond .ne o, 3)) (ho : 0 ≤ (pc : Int) + o) (hq : ((pc : Int) + o).toNat = q) (hq' : pc + 3 = q') (ky : ¬ x = y → Run p e below s kc kn Q T (mkF m q Ls st)) (kno : x = y → Run p e below s kc kn Q T (mkF m q' Ls st)) : Run p e below s kc kn Q T (mkF m pc Ls (.int (lcmpW x y) :: st)) := by
  by_cases hc : x = y
  · exact k_lcmp_ne_n K X hd hc hq' (kno hc)
  · exact k_lcmp_ne_y K X hd hc ho hq (ky hc)
theorem k_icmp_lt_n (K : Fx p s m meth c by' ml own nm ret Z) (X : Stand p l e R s m args below meth c T locs cells slots) {x y : Int32} {o : Int} (hd : decode by' pc = .ok (.if_icmp .lt o, 3)) (hc : ¬ x < y) (hq : pc + 3 = q) (k : Run p e below s kc kn Q T (mkF m q Ls st)) : Run p e below s kc kn Q T (mkF m pc Ls (.int y :: .int x :: st)) := by
  subst hq; exact k.by fun t => XS.icmpNo X.here K.1 rfl (hb K.2.1 hd) rfl (flt hc).1
theorem k_icmp_ge_y (K : Fx p s m meth c by' ml own nm ret Z) (X : Stand p l e R s m args below meth c T locs cells slots) {x y : Int32} {o : Int} (hd : decode by' pc = .ok (.if_icmp .ge o, 3)) (hc : ¬ x < y) (ho : 0 ≤ (pc : Int) + o) (hq : ((pc : Int) + o).toNat = q) (k : Run p e below s kc kn Q T (mkF m q Ls st)) : Run p e below s kc kn Q T (mkF m pc Ls (.int y :: .int x :: st)) := k.by fun t => XS.icmpYes X.here K.1 rfl rfl (hb K.2.1 hd) rfl (flt hc).2.1 ho hq
theorem k_icmp_ge_n (K : Fx p s m meth c by' ml own nm ret Z) (X : Stand p l e R s m args below meth c T locs cells slots) {x y : Int32} {o : Int} (hd : decode by' pc = .ok (.if_icmp .ge o, 3)) (hc : x < y) (hq : pc + 3 = q) (k : Run p e below s kc kn Q T (mkF m q Ls st)) : Run p e below s kc kn Q T (mkF m pc Ls (.int y :: .int x :: st)) := by
  subst hq; exact k.by fun t => XS.icmpNo X.here K.1 rfl (hb K.2.1 hd) rfl (tlt hc).2.1
theorem k_if_gt_y (K : Fx p s m meth c by' ml own nm ret Z) (X : Stand p l e R s m args below meth c T locs cells slots) {x : Int32} {o : Int} (hd : decode by' pc = .ok (.ifCond .gt o, 3)) (hc : 0 < x) (ho : 0 ≤ (pc : Int) + o) (hq : ((pc : Int) + o).toNat = q) (k : Run p e below s kc kn Q T (mkF m q Ls st)) : Run p e below s kc kn Q T (mkF m pc Ls (.int x :: st)) := k.by fun t => XS.ifYes X.here K.1 rfl rfl (hb K.2.1 hd) rfl ((if0 _ _).trans (tlt hc).2.2.1) ho hq
theorem k_if_gt_n (K : Fx p s m meth c by' ml own nm ret Z) (X : Stand p l e R s m args below meth c T locs cells slots) {x : Int32} {o : Int} (hd : decode by' pc = .ok (.ifCond .gt o, 3)) (hc : ¬ 0 < x) (hq : pc + 3 = q) (k : Run p e below s kc kn Q T (mkF m q Ls st)) : Run p e below s kc kn Q T (mkF m pc Ls (.int x :: st)) := by
  subst hq; exact k.by fun t => XS.ifNo X.here K.1 rfl (hb K.2.1 hd) rfl ((if0 _ _).trans (flt hc).2.2.1)
theorem k_if_gt (K : Fx p s m meth c by' ml own nm ret Z) (X : Stand p l e R s m args below meth c T locs cells slots) {x : Int32} {o : Int} (hd : decode by' pc = .ok (.ifCond .gt o, 3)) (ho : 0 ≤ (pc : Int) + o) (hq : ((pc : Int) + o).toNat = q) (hq' : pc + 3 = q') (ky : 0 < x → Run p e below s kc kn Q T (mkF m q Ls st)) (kno : ¬ 0 < x → Run p e below s kc kn Q T (mkF m q' Ls st)) : Run p e below s kc kn Q T (mkF m pc Ls (.int x :: st)) := by
  by_cases hc : 0 < x
  · exact k_if_gt_y K X hd hc ho hq (ky hc)
  · exact k_if_gt_n K X hd hc hq' (kno hc)
theorem k_icmp_gt_n (K : Fx p s m meth c by' ml own nm ret Z) (X : Stand p l e R s m args below meth c T locs cells slots) {x y : Int32} {o : Int} (hd : decode by' pc = .ok (.if_icmp .gt o, 3)) (hc : ¬ y < x) (hq : pc + 3 = q) (k : Run p e below s kc kn Q T (mkF m q Ls st)) : Run p e below s kc kn Q T (mkF m pc Ls (.int y :: .int x :: st)) := by
  subst hq; exact k.by fun t => XS.icmpNo X.here K.1 rfl (hb K.2.1 hd) rfl (flt hc).2.2.1
theorem k_icmp_le_y (K : Fx p s m meth c by' ml own nm ret Z) (X : Stand p l e R s m args below meth c T locs cells slots) {x y : Int32} {o : Int} (hd : decode by' pc = .ok (.if_icmp .le o, 3)) (hc : ¬ y < x) (ho : 0 ≤ (pc : Int) + o) (hq : ((pc : Int) + o).toNat = q) (k : Run p e below s kc kn Q T (mkF m q Ls st)) : Run p e below s kc kn Q T (mkF m pc Ls (.int y :: .int x :: st)) := k.by fun t => XS.icmpYes X.here K.1 rfl rfl (hb K.2.1 hd) rfl (flt hc).2.2.2 ho hq
theorem k_icmp_le_n (K : Fx p s m meth c by' ml own nm ret Z) (X : Stand p l e R s m args below meth c T locs cells slots) {x y : Int32} {o : Int} (hd : decode by' pc = .ok (.if_icmp .le o, 3)) (hc : y < x) (hq : pc + 3 = q) (k : Run p e below s kc kn Q T (mkF m q Ls st)) : Run p e below s kc kn Q T (mkF m pc Ls (.int y :: .int x :: st)) := by
  subst hq; exact k.by fun t => XS.icmpNo X.here K.1 rfl (hb K.2.1 hd) rfl (tlt hc).2.2.2
theorem k_icmp_le (K : Fx p s m meth c by' ml own nm ret Z) (X : Stand p l e R s m args below meth c T locs cells slots) {x y : Int32} {o : Int} (hd : decode by' pc = .ok (.if_icmp .le o, 3)) (ho : 0 ≤ (pc : Int) + o) (hq : ((pc : Int) + o).toNat = q) (hq' : pc + 3 = q') (ky : ¬ y < x → Run p e below s kc kn Q T (mkF m q Ls st)) (kno : y < x → Run p e below s kc kn Q T (mkF m q' Ls st)) : Run p e below s kc kn Q T (mkF m pc Ls (.int y :: .int x :: st)) := by
  by_cases hc : y < x
  · exact k_icmp_le_n K X hd hc hq' (kno hc)
  · exact k_icmp_le_y K X hd hc ho hq (ky hc)
theorem k_ldc (K : Fx p s m meth c by' ml own nm ret Z) (X : Stand p l e R s m args below meth c T locs cells slots) {i : Nat} {v : Int32} (hd : decode by' pc = .ok (.ldc i, 2)) (w : (Cond.constant own i v).before a0 Z = true) (hq : pc + 2 = q) (k : Run p e below s kc kn Q T (mkF m q Ls (.int v :: st))) : Run p e below s kc kn Q T (mkF m pc Ls st) := by
  subst hq; exact k.by fun t => X.ldcInt K.1 K.2.2.2.1 (mvT K.2.2.2.2.1 w) (g := mkF m pc Ls st) rfl (hb K.2.1 hd) t
theorem k_ldc_w (K : Fx p s m meth c by' ml own nm ret Z) (X : Stand p l e R s m args below meth c T locs cells slots) {i : Nat} {v : Int32} (hd : decode by' pc = .ok (.ldc_w i, 3)) (w : (Cond.constant own i v).before a0 Z = true) (hq : pc + 3 = q) (k : Run p e below s kc kn Q T (mkF m q Ls (.int v :: st))) : Run p e below s kc kn Q T (mkF m pc Ls st) := by
  subst hq; exact k.by fun t => X.ldcwInt K.1 K.2.2.2.1 (mvT K.2.2.2.2.1 w) (g := mkF m pc Ls st) rfl (hb K.2.1 hd) t
theorem k_ldc2 (K : Fx p s m meth c by' ml own nm ret Z) (X : Stand p l e R s m args below meth c T locs cells slots) {i : Nat} {v : Int64} (hd : decode by' pc = .ok (.ldc2_w i, 3)) (w : (Cond.constantLong own i v).before a0 Z = true) (hq : pc + 3 = q) (k : Run p e below s kc kn Q T (mkF m q Ls (.long v :: st))) : Run p e below s kc kn Q T (mkF m pc Ls st) := by
  subst hq; exact k.by fun t => X.ldc2Long K.1 K.2.2.2.1 (mvT K.2.2.2.2.1 w) (g := mkF m pc Ls st) rfl (hb K.2.1 hd) t
theorem k_reti (K : Fx p s m meth c by' ml own nm (some .int) Z) (X : Stand p l e R s m args below meth c T locs cells slots) {x : Int32} (eT : T.heap = h) (hd : decode by' pc = .ok (.ireturn, 1)) (hc : cells ≤ kc) (hn : slots ≤ kn) (hQ : Q (some (.int x)) h locs) : Run p e below s kc kn Q T (mkF m pc Ls [.int x]) := by
  subst eT
  have hlk := K.2.2.2.2.2.2.1
  obtain ⟨fs, hr, hrun, hended, hW, hsame⟩ := X.leave (v := (some (.int x))) (fun z => by rw [K.2.2.2.2.2.1] at z; cases z)
  exact ⟨_, _, X.ireturnOut K.1 K.2.2.2.2.2.1 rfl (Or.inl rfl) (hb K.2.1 hd) hr, hrun, hended, _, _, rfl, hQ, ⟨_, rfl⟩, hW, hsame.mono hc hn⟩
theorem k_retz (K : Fx p s m meth c by' ml own nm (some .boolean) Z) (X : Stand p l e R s m args below meth c T locs cells slots) {x : Int32} (eT : T.heap = h) (hd : decode by' pc = .ok (.ireturn, 1)) (hc : cells ≤ kc) (hn : slots ≤ kn) (hQ : Q (some (.int (nar .boolean x))) h locs) : Run p e below s kc kn Q T (mkF m pc Ls [.int x]) := by
  subst eT
  have hlk := K.2.2.2.2.2.2.1
  obtain ⟨fs, hr, hrun, hended, hW, hsame⟩ := X.leave (v := (some (.int (nar .boolean x)))) (fun z => by rw [K.2.2.2.2.2.1] at z; cases z)
  exact ⟨_, _, retN X K.1 K.2.2.2.2.2.1 (by simp) (hb K.2.1 hd) hr, hrun, hended, _, _, rfl, hQ, ⟨_, rfl⟩, hW, hsame.mono hc hn⟩
theorem k_retl (K : Fx p s m meth c by' ml own nm (some .long) Z) (X : Stand p l e R s m args below meth c T locs cells slots) {x : Int64} (eT : T.heap = h) (hd : decode by' pc = .ok (.lreturn, 1)) (hc : cells ≤ kc) (hn : slots ≤ kn) (hQ : Q (some (.long x)) h locs) : Run p e below s kc kn Q T (mkF m pc Ls [.long x]) := by
  subst eT
  have hlk := K.2.2.2.2.2.2.1
  obtain ⟨fs, hr, hrun, hended, hW, hsame⟩ := X.leave (v := (some (.long x))) (fun z => by rw [K.2.2.2.2.2.1] at z; cases z)
  exact ⟨_, _, X.lreturnOut K.1 K.2.2.2.2.2.1 (hb K.2.1 hd) hr, hrun, hended, _, _, rfl, hQ, ⟨_, rfl⟩, hW, hsame.mono hc hn⟩
theorem k_retv (K : Fx p s m meth c by' ml own nm none Z) (X : Stand p l e R s m args below meth c T locs cells slots)  (eT : T.heap = h) (hd : decode by' pc = .ok (.return_, 1)) (hc : cells ≤ kc) (hn : slots ≤ kn) (hQ : Q none h locs) : Run p e below s kc kn Q T (mkF m pc Ls []) := by
  subst eT
  have hlk := K.2.2.2.2.2.2.1
  obtain ⟨fs, hr, hrun, hended, hW, hsame⟩ := X.leave (v := none) (fun _ => rfl)
  exact ⟨_, _, X.returnOut K.1 K.2.2.2.2.2.1 (hb K.2.1 hd) hr, hrun, hended, _, _, rfl, hQ, ⟨_, rfl⟩, hW, hsame.mono hc hn⟩
/-- a contract: with these arguments over this heap the body returns as Q says, within the room -/
abbrev Met (l : Launch) (y : MethodName) (bytes : ByteArray) (maxL : Nat) (ret : Option FieldType) (ws : List Jvm.Cond) (rm : Room) (Z : State) (as' : Array Value) (h0 : Heap) (Q : Option Value → Heap → List Loc → Prop) : Prop :=
  MetFree l y (head1 (Jvm.Cond.code y bytes maxL ret :: ws) rm) (fun a U => a = as' ∧ Z.Warmed39 U.vm ∧ U.heap = h0) (fun _ _ _ _ _ => True) (fun _ U o U' => ∃ v L, o = .returned v ∧ Q v U'.heap L ∧ FrameEnd U o U' L rm.cells rm.slots)
theorem enter {y : MethodName} {bytes : ByteArray} {maxL : Nat} {ws : List Jvm.Cond} {rm : Room} {as' : Array Value} {h0 : Heap} (hpl : plainFor y = true) (hef : ∀ m, entryFrame m as' maxL = mkF m 0 Ls [])
    (body : ∀ p e s m below meth c T kc kn Q', rm.cells ≤ kc → rm.slots ≤ kn → (∀ v h L, Q v h L → Q' v h L) → Fx p s m meth c bytes maxL y.cls y.name ret Z → Stand p l e rm s m as' below meth c T [] 0 0 → T.heap = h0 → Run p e below s kc kn Q' T (mkF m 0 Ls [])) : Met l y bytes maxL ret ws rm Z as' h0 Q := by
  refine MetFree.of_bodySF hpl hisR ?_
  intro p e s m args below meth c s₁ Bd hml0 hP hK
  obtain ⟨rfl, hZ, hh⟩ := hP
  obtain ⟨t, o, h1, h2, h3, v, L, h4, h5, h6⟩ := body p e s m below meth c s₁ _ _ Q (Nat.le_refl _) (Nat.le_refl _) (fun _ _ _ z => z) ⟨Bd.exec, Bd.bytes, hml0, findClass_of_methodNamed Bd.named, hZ, Bd.returns, BodyLoose.notSynchronized Bd, (name_of_methodNamed Bd.named Bd.method).1⟩ (Stand.of_body Bd) (by rw [← hh, Bd.state]; rfl)
  exact ⟨t, o, castTop (hef m) h1, h2, h3, v, L, h4, h5, h6⟩
theorem k_static (K : Fx p s m meth c by' ml own nm ret Z) (X : Stand p l e R s m args below meth c T locs cells slots) (eT : T.heap = h) {y : MethodName} {bytes : ByteArray} {maxL i W : Nat} {rt : Option FieldType} {rm : Room} {as' : Array Value} {Q' : Option Value → Heap → List Loc → Prop}
    (hd : decode by' pc = .ok (.invokestatic i, 3)) (w1 : (Cond.methodLink own i y).before a0 Z = true) (w2 : (Cond.static y).before a0 Z = true) (w3 : (Cond.initialized y.cls).before a0 Z = true) (w4 : (Cond.code y bytes maxL rt).before a0 Z = true) (hy : y.cls ≠ "java/lang/invoke/MethodHandle" ∧ y.cls ≠ "java/lang/invoke/VarHandle")
    (hM : Met l y bytes maxL rt [] rm Z as' h Q') (hf : rm.frames + 1 ≤ R.frames) (hl : W + (maxL + 11) + rm.locals ≤ R.locals) (hc : cells + rm.cells ≤ R.cells) (hn : slots + rm.slots ≤ R.slots) (hsz : Ls.size = ml)
    {sig : MethodDescriptor} (hdesc : parseMethodDescriptor y.desc = some sig) {argsL rest : List Value} (ha : as' = argsL.toArray) (hlen : argsL.length = sig.parameters.length) (hst : st = argsL.reverse ++ rest) (hW : (rest.map fun v => v.category).sum ≤ W) (hq : pc + 3 = q)
    (k : ∀ v T' L, Stand p l e R s m args below meth c T' (locs ++ L) (cells + rm.cells) (slots + rm.slots) → Q' v T'.heap L → Run p e below s kc kn Q T' (mkF m q Ls (v.toList ++ rest))) : Run p e below s kc kn Q T (mkF m pc Ls st) := by
  have hZ := K.2.2.2.2.1
  subst hq
  obtain ⟨v, _, ⟨T2, L2, k2, n2⟩, -, X2, ⟨Lc, hQ2, l2, y2, z2⟩, st2⟩ := Jvm.LawKit.callS X K.1 (y := y) K.2.2.2.1 (mvT hZ w1) (mvT hZ w2) (mvT hZ w3) (mvT hZ w4) hy (backOf (W := W) hM hZ w4 w3 hf hl) (g := mkF m pc Ls st) rfl (by rw [K.2.2.1]; exact hsz) (argsL := argsL) (rest := rest) (fun sg hs => by cases hdesc.symm.trans hs; exact hlen) hst (by show 2 * 0 + _ ≤ _; omega) (hb K.2.1 hd) (fun _ _ => ⟨ha.symm, eT, hc, hn⟩)
  dsimp only [Pt.U, Pt.locs, Pt.cells, Pt.slots] at X2 l2 y2 z2 st2 hQ2
  subst l2 y2 z2
  exact (k v T2 Lc X2 hQ2).by st2
/-- a static callee that leaves the heap as it was -/
theorem k_staticP (K : Fx p s m meth c by' ml own nm ret Z) (X : Stand p l e R s m args below meth c T locs cells slots) (eT : T.heap = h) {y : MethodName} {bytes : ByteArray} {maxL i W fr lo : Nat} {rt : Option FieldType} {as' : Array Value} {w : Value}
    (hd : decode by' pc = .ok (.invokestatic i, 3)) (w1 : (Cond.methodLink own i y).before a0 Z = true) (w2 : (Cond.static y).before a0 Z = true) (w3 : (Cond.initialized y.cls).before a0 Z = true) (w4 : (Cond.code y bytes maxL rt).before a0 Z = true) (hy : y.cls ≠ "java/lang/invoke/MethodHandle" ∧ y.cls ≠ "java/lang/invoke/VarHandle")
    (hM : Met l y bytes maxL rt [] { frames := fr, cells := 0, slots := 0, locals := lo } Z as' h (fun v h' L => v = some w ∧ h' = h ∧ L = [])) (hf : fr + 1 ≤ R.frames) (hl : W + (maxL + 11) + lo ≤ R.locals) (hc : cells ≤ R.cells) (hn : slots ≤ R.slots) (hsz : Ls.size = ml)
    {sig : MethodDescriptor} (hdesc : parseMethodDescriptor y.desc = some sig) {argsL rest : List Value} (ha : as' = argsL.toArray) (hlen : argsL.length = sig.parameters.length) (hst : st = argsL.reverse ++ rest) (hW : (rest.map fun v => v.category).sum ≤ W) (hq : pc + 3 = q)
    (k : ∀ T', Stand p l e R s m args below meth c T' locs cells slots → T'.heap = h → Run p e below s kc kn Q T' (mkF m q Ls (w :: rest))) : Run p e below s kc kn Q T (mkF m pc Ls st) := by
  refine k_static K X eT hd w1 w2 w3 w4 hy hM hf hl hc hn hsz hdesc ha hlen hst hW hq ?_
  rintro v T' L X' ⟨rfl, h2, rfl⟩
  rw [List.append_nil] at X'
  exact k T' X' h2
theorem k_special (K : Fx p s m meth c by' ml own nm ret Z) (X : Stand p l e R s m args below meth c T locs cells slots) (eT : T.heap = h) {y : MethodName} {bytes : ByteArray} {maxL i W : Nat} {rm : Room} {as' : Array Value} {Q' : Option Value → Heap → List Loc → Prop} {a : Addr}
    (hd : decode by' pc = .ok (.invokespecial i, 3)) (hy1 : y.name = "<init>") (w1 : (Cond.methodLink own i y).before a0 Z = true) (w2 : (Cond.instanceMethod y).before a0 Z = true) (w3 : (Cond.initialized y.cls).before a0 Z = true) (w4 : (Cond.code y bytes maxL none).before a0 Z = true) (hy : y.cls ≠ "java/lang/invoke/MethodHandle" ∧ y.cls ≠ "java/lang/invoke/VarHandle")
    (hM : Met l y bytes maxL none [] rm Z as' h Q') (hf : rm.frames + 1 ≤ R.frames) (hl : W + (maxL + 11) + rm.locals ≤ R.locals) (hc : cells + rm.cells ≤ R.cells) (hn : slots + rm.slots ≤ R.slots) (hsz : Ls.size = ml)
    {sig : MethodDescriptor} (hdesc : parseMethodDescriptor y.desc = some sig) {argsL rest : List Value} (ha : as' = (.ref a :: argsL).toArray) (hlen : argsL.length = sig.parameters.length) (hst : st = argsL.reverse ++ .ref a :: rest) (hW : (rest.map fun v => v.category).sum ≤ W) (hq : pc + 3 = q)
    (k : ∀ v T' L, Stand p l e R s m args below meth c T' (locs ++ L) (cells + rm.cells) (slots + rm.slots) → Q' v T'.heap L → Run p e below s kc kn Q T' (mkF m q Ls (v.toList ++ rest))) : Run p e below s kc kn Q T (mkF m pc Ls st) := by
  have hZ := K.2.2.2.2.1
  subst hq
  obtain ⟨v, _, ⟨T2, L2, k2, n2⟩, -, X2, ⟨Lc, hQ2, l2, y2, z2⟩, st2⟩ := X.specialBack K.1 (y := y) hy1 K.2.2.2.1 (mvT hZ w1) (mvT hZ w2) (mvT hZ w4) hy (backOf (W := W) hM hZ w4 w3 hf hl) (g := mkF m pc Ls st) rfl (by rw [K.2.2.1]; exact hsz) (Steps.refl _) (a := a) (argsL := argsL) (rest := rest) (fun sg hs => by cases hdesc.symm.trans hs; exact hlen) hst (by show 2 * 0 + _ ≤ _; omega) (hb K.2.1 hd) (fun _ _ => ⟨ha.symm, eT, hc, hn⟩)
  dsimp only [Pt.U, Pt.locs, Pt.cells, Pt.slots] at X2 l2 y2 z2 st2 hQ2
  subst l2 y2 z2
  exact (k v T2 Lc X2 hQ2).on st2
theorem k_virtual (K : Fx p s m meth c by' ml own nm ret Z) (X : Stand p l e R s m args below meth c T locs cells slots) (eT : T.heap = h) {y : MethodName} {bytes : ByteArray} {maxL i W : Nat} {rt : Option FieldType} {rm : Room} {as' : Array Value} {Q' : Option Value → Heap → List Loc → Prop} {a : Addr}
    (hd : decode by' pc = .ok (.invokevirtual i, 3)) (w1 : (Cond.methodLink own i y).before a0 Z = true) (w2 : (Cond.declares y).before a0 Z = true) (w5 : (Cond.selects y.cls y y).before a0 Z = true) (w6 : (Cond.instanceMethod y).before a0 Z = true) (w3 : (Cond.initialized y.cls).before a0 Z = true) (w4 : (Cond.code y bytes maxL rt).before a0 Z = true) (hy : y.cls ≠ "java/lang/invoke/MethodHandle" ∧ y.cls ≠ "java/lang/invoke/VarHandle")
    (hE : Exa Z h a y.cls) (hM : Met l y bytes maxL rt [] rm Z as' h Q') (hf : rm.frames + 1 ≤ R.frames) (hl : W + (maxL + 11) + rm.locals ≤ R.locals) (hc : cells + rm.cells ≤ R.cells) (hn : slots + rm.slots ≤ R.slots) (hsz : Ls.size = ml)
    {sig : MethodDescriptor} (hdesc : parseMethodDescriptor y.desc = some sig) {argsL rest : List Value} (ha : as' = (.ref a :: argsL).toArray) (hlen : argsL.length = sig.parameters.length) (hst : st = argsL.reverse ++ .ref a :: rest) (hW : (rest.map fun v => v.category).sum ≤ W) (hq : pc + 3 = q)
    (k : ∀ v T' L, Stand p l e R s m args below meth c T' (locs ++ L) (cells + rm.cells) (slots + rm.slots) → Q' v T'.heap L → Run p e below s kc kn Q T' (mkF m q Ls (v.toList ++ rest))) : Run p e below s kc kn Q T (mkF m pc Ls st) := by
  have hZ := K.2.2.2.2.1
  subst hq
  obtain ⟨cq, kq, qa, qb, qc⟩ := isOf hZ eT hE
  obtain ⟨v, _, ⟨T2, L2, k2, n2⟩, -, X2, ⟨Lc, hQ2, l2, y2, z2⟩, st2⟩ := X.virtualBack K.1 (y := y) (z := y) K.2.2.2.1 (mvT hZ w1) (mvT hZ w2) (notFace_of_selects (args := #[]) (mvT hZ w5)) (mvT hZ w5) (mvT hZ w6) hy (backOf (W := W) hM hZ w4 w3 hf hl) qa qc (g := mkF m pc Ls st) rfl (by rw [K.2.2.1]; exact hsz) (Steps.refl _) (argsL := argsL) (rest := rest) (fun sg hs => by cases hdesc.symm.trans hs; exact hlen) hst (by show 2 * 0 + _ ≤ _; omega) (hb K.2.1 hd) (fun _ _ => ⟨ha.symm, eT, hc, hn⟩)
  dsimp only [Pt.U, Pt.locs, Pt.cells, Pt.slots] at X2 l2 y2 z2 st2 hQ2
  subst l2 y2 z2
  exact (k v T2 Lc X2 hQ2).on st2
theorem k_initO (K : Fx p s m meth c by' ml own nm ret Z) (X : Stand p l e R s m args below meth c T locs cells slots) (eT : T.heap = h) {i W : Nat} {a : Addr} (hd : decode by' pc = .ok (.invokespecial i, 3)) (w1 : (Cond.methodLink own i Lib.objectInit).before a0 Z = true) (w2 : (Cond.instanceMethod Lib.objectInit).before a0 Z = true) (w3 : (Cond.code Lib.objectInit ⟨#[0xb1]⟩ 1 none).before a0 Z = true)
    (hsz : Ls.size = ml) (hf : 1 ≤ R.frames) (hW : (st.map fun v => v.category).sum ≤ W) (hl : W + 12 ≤ R.locals) (hq : pc + 3 = q)
    (k : ∀ T', Stand p l e R s m args below meth c T' locs cells slots → T'.heap = h → Run p e below s kc kn Q T' (mkF m q Ls st)) : Run p e below s kc kn Q T (mkF m pc Ls (.ref a :: st)) := by
  subst hq
  obtain ⟨T2, X2, e2, st2⟩ := initO X K.1 K.2.2.2.2.1 K.2.2.2.1 w1 w2 w3 eT (g := mkF m pc Ls (.ref a :: st)) rfl (by rw [K.2.2.1]; exact hsz) rfl (hb K.2.1 hd) hf (W := W) (by show 2 * 0 + _ ≤ _; omega) hl
  exact (k T2 X2 e2).by st2
theorem k_new (K : Fx p s m meth c by' ml own nm ret Z) (X : Stand p l e R s m args below meth c T locs cells slots) (eT : T.heap = h) {i n : Nat} {C : String} (hd : decode by' pc = .ok (.new i, 3)) (w1 : (Cond.classLink own i C).before a0 Z = true) (w2 : (Cond.instantiable C n).before a0 Z = true) (w3 : (Cond.initialized C).before a0 Z = true) (hc : cells + 1 ≤ R.cells) (hn : slots + n ≤ R.slots) (hq : pc + 3 = q)
    (k : ∀ T' h' a, Stand p l e R s m args below meth c T' locs (cells + 1) (slots + n) → T'.heap = h' → a = h.size → Ext h h' → Exa Z h' a C → (∀ {O fn d : String} {ty : FieldType}, Laid Z a0 C O fn d → parseFieldDescriptor d = some ty → Fld Z h' a O fn d (defaultValue ty)) → Run p e below s kc kn Q T' (mkF m q Ls (.ref a :: st))) : Run p e below s kc kn Q T (mkF m pc Ls st) := by
  subst hq
  obtain ⟨T2, h2, X2, e2, E2, A2, D2, -, st2⟩ := newO X K.1 K.2.2.2.2.1 K.2.2.2.1 w1 w2 w3 eT (g := mkF m pc Ls st) rfl (hb K.2.1 hd) hc hn
  exact (k T2 h2 h.size X2 e2 rfl E2 A2 D2).by st2
theorem k_getfield (K : Fx p s m meth c by' ml own nm ret Z) (X : Stand p l e R s m args below meth c T locs cells slots) (eT : T.heap = h) {i : Nat} {O fn d : String} {a : Addr} {v : Value} (hd : decode by' pc = .ok (.getfield i, 3)) (w : (Cond.fieldLink own i O fn d).before a0 Z = true) (F : Fld Z h a O fn d v) (hq : pc + 3 = q)
    (k : ∀ T', Stand p l e R s m args below meth c T' locs cells slots → T'.heap = h → Run p e below s kc kn Q T' (mkF m q Ls (v :: st))) : Run p e below s kc kn Q T (mkF m pc Ls (.ref a :: st)) := by
  subst hq
  obtain ⟨T2, X2, e2, st2⟩ := getF X K.1 K.2.2.2.2.1 K.2.2.2.1 (host := "") (Or.inl w) Via.refl eT F (g := mkF m pc Ls (.ref a :: st)) rfl rfl (hb K.2.1 hd)
  exact (k T2 X2 e2).by st2
theorem k_putfield (K : Fx p s m meth c by' ml own nm ret Z) (X : Stand p l e R s m args below meth c T locs cells slots) (eT : T.heap = h) {i n : Nat} {O C fn d : String} {ty : FieldType} {a : Addr} {v old : Value} (hd : decode by' pc = .ok (.putfield i, 3)) (w : (Cond.fieldLink own i O fn d).before a0 Z = true) (F : Fld Z h a O fn d old) (E : Exa Z h a C) (L : (Cond.lays C O fn d).before a0 Z = true ∨ ((Cond.laysFinal C O fn d).before a0 Z = true ∧ own = O ∧ nm = "<init>")) (wi : (Cond.instantiable C n).before a0 Z = true)
    (hty : parseFieldDescriptor d = some ty) (hnar : narrow ty v = v) (hfit : fits ty v = true) (hq : pc + 3 = q)
    (k : ∀ T' h', Stand p l e R s m args below meth c T' (locs ++ [⟨a, Jvm.RoadKit.slotOf Z O fn d⟩]) cells slots → T'.heap = h' → Wr h h' a (Jvm.RoadKit.slotOf Z O fn d) v → Run p e below s kc kn Q T' (mkF m q Ls st)) : Run p e below s kc kn Q T (mkF m pc Ls (v :: .ref a :: st)) := by
  subst hq
  obtain ⟨T2, h2, X2, e2, W2, st2⟩ := putF X K.1 K.2.2.2.2.1 K.2.2.2.1 (host := "") (Or.inl w) Via.refl eT F E (L.imp id fun z => ⟨z.1, z.2.1, K.2.2.2.2.2.2.2.trans z.2.2⟩) wi hty hnar hfit (g := mkF m pc Ls (v :: .ref a :: st)) rfl rfl (hb K.2.1 hd)
  exact (k T2 h2 X2 e2 W2).by st2
/-- an instance method that leaves the heap as it was -/
theorem k_virtualP (K : Fx p s m meth c by' ml own nm ret Z) (X : Stand p l e R s m args below meth c T locs cells slots) (eT : T.heap = h) {y : MethodName} {bytes : ByteArray} {maxL i W fr lo : Nat} {rt : Option FieldType} {as' : Array Value} {w : Value} {a : Addr}
    (hd : decode by' pc = .ok (.invokevirtual i, 3)) (w1 : (Cond.methodLink own i y).before a0 Z = true) (w2 : (Cond.declares y).before a0 Z = true) (w5 : (Cond.selects y.cls y y).before a0 Z = true) (w6 : (Cond.instanceMethod y).before a0 Z = true) (w3 : (Cond.initialized y.cls).before a0 Z = true) (w4 : (Cond.code y bytes maxL rt).before a0 Z = true) (hy : y.cls ≠ "java/lang/invoke/MethodHandle" ∧ y.cls ≠ "java/lang/invoke/VarHandle")
    (hE : Exa Z h a y.cls) (hM : Met l y bytes maxL rt [] { frames := fr, cells := 0, slots := 0, locals := lo } Z as' h (fun v h' L => v = some w ∧ h' = h ∧ L = [])) (hf : fr + 1 ≤ R.frames) (hl : W + (maxL + 11) + lo ≤ R.locals) (hc : cells ≤ R.cells) (hn : slots ≤ R.slots) (hsz : Ls.size = ml)
    {sig : MethodDescriptor} (hdesc : parseMethodDescriptor y.desc = some sig) {argsL rest : List Value} (ha : as' = (.ref a :: argsL).toArray) (hlen : argsL.length = sig.parameters.length) (hst : st = argsL.reverse ++ .ref a :: rest) (hW : (rest.map fun v => v.category).sum ≤ W) (hq : pc + 3 = q)
    (k : ∀ T', Stand p l e R s m args below meth c T' locs cells slots → T'.heap = h → Run p e below s kc kn Q T' (mkF m q Ls (w :: rest))) : Run p e below s kc kn Q T (mkF m pc Ls st) := by
  refine k_virtual K X eT hd w1 w2 w5 w6 w3 w4 hy hE hM hf hl hc hn hsz hdesc ha hlen hst hW hq ?_
  rintro v T' L X' ⟨rfl, h2, rfl⟩
  rw [List.append_nil] at X'
  exact k T' X' h2
theorem setD {α β : Type} (f : α → β) (L : List α) (k : Nat) (x d : α) (hk : k < L.length) (i : Nat) : (if i = k then f x else f (L.getD i d)) = f ((L.set k x).getD i d) := by
  simp only [List.getD_eq_getElem?_getD]
  by_cases q : i = k
  · subst q; simp [hk]
  · rw [if_neg q, List.getElem?_set_ne (Ne.symm q)]
def upd {α : Type} (g : Nat → α) (i : Nat) (v : α) : Nat → α := fun k => if k = i then v else g k
/-- an array of n places; place i holds g i -/
def Ary (Z : State) (h : Heap) (a : Addr) (ty : FieldType) (n : Nat) (g : Nat → Value) : Prop := ∃ c : Cell, Arr Z h a c ty ∧ c.slots.size = n ∧ n < 2147483648 ∧ (∀ i, i < n → c.slots[i]? = some (g i)) ∧ ∀ i, i < n → fits ty (g i) = true
theorem Ary.lt {a : Addr} {ty : FieldType} {n : Nat} {g : Nat → Value} (F : Ary Z h a ty n g) : a < h.size := by obtain ⟨c, A, -⟩ := F; exact A.lt
theorem Ary.ext {h' : Heap} {a : Addr} {ty : FieldType} {n : Nat} {g : Nat → Value} (F : Ary Z h a ty n g) (E : Ext h h') : Ary Z h' a ty n g := by obtain ⟨c, A, r⟩ := F; exact ⟨c, A.ext E, r⟩
theorem Ary.other {h' : Heap} {a b : Addr} {ty : FieldType} {n sl : Nat} {v : Value} {g : Nat → Value} (F : Ary Z h b ty n g) (W : Wr h h' a sl v) (q : b ≠ a) : Ary Z h' b ty n g := by obtain ⟨c, A, r⟩ := F; exact ⟨c, A.other W q, r⟩
theorem Ary.keep {h' : Heap} {a : Addr} {ty : FieldType} {n : Nat} {g : Nat → Value} {ws : List Addr} (F : Ary Z h a ty n g) (K : Keep h h' ws) (q : a ∉ ws) : Ary Z h' a ty n g := by obtain ⟨c, A, r⟩ := F; exact ⟨c, ⟨K.2.1 a c A.1 q, A.2⟩, r⟩
theorem Ary.eqv {a : Addr} {ty : FieldType} {n : Nat} {g g' : Nat → Value} (F : Ary Z h a ty n g) (q : ∀ i, i < n → g i = g' i) : Ary Z h a ty n g' := by
  obtain ⟨c, A, r1, r2, r3, r4⟩ := F; exact ⟨c, A, r1, r2, fun i hi => by rw [← q i hi]; exact r3 i hi, fun i hi => by rw [← q i hi]; exact r4 i hi⟩
theorem Ary.set {h' : Heap} {a : Addr} {ty : FieldType} {n i : Nat} {v : Value} {g : Nat → Value} (F : Ary Z h a ty n g) (W : Wr h h' a i v) (hv : fits ty v = true) : Ary Z h' a ty n (fun k => if k = i then v else g k) := by
  obtain ⟨c, A, r1, r2, r3, r4⟩ := F
  obtain ⟨c', w1, w2, w3, w4⟩ := W
  cases A.1.symm.trans w1
  refine ⟨_, A.same ⟨c, w1, w2, w3, w4⟩, by rw [sz_set]; exact r1, r2, fun k hk => ?_, fun k hk => ?_⟩
  · show (c.setSlot i v).slots[k]? = some (if k = i then v else g k)
    by_cases q : k = i
    · subst q; simp [Cell.setSlot, w3]
    · rw [if_neg q]
      show (c.slots.setIfInBounds i v)[k]? = _
      rw [Array.getElem?_setIfInBounds_ne (Ne.symm q)]; exact r3 k hk
  · show fits ty (if k = i then v else g k) = true
    by_cases q : k = i
    · rw [if_pos q]; exact hv
    · rw [if_neg q]; exact r4 k hk
/-- the int j is the place i -/
abbrev Ix (j : Int32) (i : Nat) : Prop := ¬ j < 0 ∧ j.toNatClampNeg = i
theorem Ix.of {j : Int32} {i : Nat} (h : j.toInt = i) : Ix j i := by
  refine ⟨?_, ?_⟩
  · rw [Int32.lt_iff_toInt_lt, h]; have : (0 : Int32).toInt = 0 := rfl
    omega
  · simp only [Int32.toNatClampNeg, h]; omega
theorem Ix.inb {j : Int32} {i n : Nat} (hi : Ix j i) (hn : i < n) {cl : Cell} (hs : cl.slots.size = n) : ¬ (j < 0 ∨ cl.slots.size ≤ j.toNatClampNeg) := fun z => z.elim hi.1 fun z => by rw [hs, hi.2] at z; omega
theorem k_iaload (K : Fx p s m meth c by' ml own nm ret Z) (X : Stand p l e R s m args below meth c T locs cells slots) (eT : T.heap = h) {a : Addr} {n i : Nat} {g : Nat → Value} {j : Int32} {v : Value} (hd : decode by' pc = .ok (.iaload, 1)) (A : Ary Z h a .int n g) (hi : Ix j i) (hn : i < n) (hg : g i = v) (hq : pc + 1 = q) (k : Run p e below s kc kn Q T (mkF m q Ls (v :: st))) : Run p e below s kc kn Q T (mkF m pc Ls (.int j :: .ref a :: st)) := by
  subst hq hg
  obtain ⟨c', A, r1, r2, r3, -⟩ := A
  exact k.by fun t => X.iaload K.1 (j := j) (v := g i) (by rw [eT]; exact A.1) (State.isArrayOf_alike K.2.2.2.2.1.alike A.2.1) A.2.2 (hi.inb hn r1) (by rw [hi.2]; exact r3 i hn) (g := mkF m pc Ls (.int j :: .ref a :: st)) rfl rfl (hb K.2.1 hd) t
theorem k_laload (K : Fx p s m meth c by' ml own nm ret Z) (X : Stand p l e R s m args below meth c T locs cells slots) (eT : T.heap = h) {a : Addr} {n i : Nat} {g : Nat → Value} {j : Int32} {v : Value} (hd : decode by' pc = .ok (.laload, 1)) (A : Ary Z h a .long n g) (hi : Ix j i) (hn : i < n) (hg : g i = v) (hq : pc + 1 = q) (k : Run p e below s kc kn Q T (mkF m q Ls (v :: st))) : Run p e below s kc kn Q T (mkF m pc Ls (.int j :: .ref a :: st)) := by
  subst hq hg
  obtain ⟨c', A, r1, r2, r3, -⟩ := A
  exact k.by fun t => X.laload K.1 (j := j) (v := g i) (by rw [eT]; exact A.1) (State.isArrayOf_alike K.2.2.2.2.1.alike A.2.1) A.2.2 (hi.inb hn r1) (by rw [hi.2]; exact r3 i hn) (g := mkF m pc Ls (.int j :: .ref a :: st)) rfl rfl (hb K.2.1 hd) t
theorem k_iastore (K : Fx p s m meth c by' ml own nm ret Z) (X : Stand p l e R s m args below meth c T locs cells slots) (eT : T.heap = h) {a : Addr} {n i : Nat} {g : Nat → Value} {j : Int32} {x : Int32} (hd : decode by' pc = .ok (.iastore, 1)) (A : Ary Z h a .int n g) (hi : Ix j i) (hn : i < n) (hq : pc + 1 = q)
    (k : ∀ T' h', Stand p l e R s m args below meth c T' (locs ++ [⟨a, i⟩]) cells slots → T'.heap = h' → Wr h h' a i (.int x) → Ary Z h' a .int n (fun k => if k = i then .int x else g k) → Run p e below s kc kn Q T' (mkF m q Ls st)) : Run p e below s kc kn Q T (mkF m pc Ls (.int x :: .int j :: .ref a :: st)) := by
  subst hq
  have A0 := A
  obtain ⟨c', A, r1, r2, r3, -⟩ := A
  obtain ⟨T2, h2, X2, e2, W2, st2⟩ := stI X K.1 K.2.2.2.2.1 eT A (j := j) (hi.inb hn r1) (g := mkF m pc Ls (.int x :: .int j :: .ref a :: st)) rfl rfl (hb K.2.1 hd)
  rw [hi.2] at X2 W2
  exact (k T2 h2 X2 e2 W2 (A0.set W2 (rfl))).by st2
theorem k_lastore (K : Fx p s m meth c by' ml own nm ret Z) (X : Stand p l e R s m args below meth c T locs cells slots) (eT : T.heap = h) {a : Addr} {n i : Nat} {g : Nat → Value} {j : Int32} {x : Int64} (hd : decode by' pc = .ok (.lastore, 1)) (A : Ary Z h a .long n g) (hi : Ix j i) (hn : i < n) (hq : pc + 1 = q)
    (k : ∀ T' h', Stand p l e R s m args below meth c T' (locs ++ [⟨a, i⟩]) cells slots → T'.heap = h' → Wr h h' a i (.long x) → Ary Z h' a .long n (fun k => if k = i then .long x else g k) → Run p e below s kc kn Q T' (mkF m q Ls st)) : Run p e below s kc kn Q T (mkF m pc Ls (.long x :: .int j :: .ref a :: st)) := by
  subst hq
  have A0 := A
  obtain ⟨c', A, r1, r2, r3, -⟩ := A
  obtain ⟨T2, h2, X2, e2, W2, st2⟩ := stJ X K.1 K.2.2.2.2.1 eT A (j := j) (hi.inb hn r1) (g := mkF m pc Ls (.long x :: .int j :: .ref a :: st)) rfl rfl (hb K.2.1 hd)
  rw [hi.2] at X2 W2
  exact (k T2 h2 X2 e2 W2 (A0.set W2 (rfl))).by st2
theorem k_arraylength (K : Fx p s m meth c by' ml own nm ret Z) (X : Stand p l e R s m args below meth c T locs cells slots) (eT : T.heap = h) {a : Addr} {ty : FieldType} {n : Nat} {g : Nat → Value} {v : Int32} (hd : decode by' pc = .ok (.arraylength, 1)) (A : Ary Z h a ty n g) (hv : n.toInt32 = v) (hq : pc + 1 = q) (k : Run p e below s kc kn Q T (mkF m q Ls (.int v :: st))) : Run p e below s kc kn Q T (mkF m pc Ls (.ref a :: st)) := by
  subst hq hv
  obtain ⟨c', A, r1, r2, r3, -⟩ := A
  subst r1
  exact k.by fun t => X.arraylength K.1 (by rw [eT]; exact A.1) (State.isArrayOf_alike K.2.2.2.2.1.alike A.2.1) (g := mkF m pc Ls (.ref a :: st)) rfl rfl (hb K.2.1 hd) t
theorem k_newarray (K : Fx p s m meth c by' ml own nm ret Z) (X : Stand p l e R s m args below meth c T locs cells slots) (eT : T.heap = h) {aty : ArrayType} {ty : FieldType} {z : Int32} {n cap : Nat} (hd : decode by' pc = .ok (.newarray aty, 2)) (hty : newarray.typeOf aty = ty) (w : (Cond.arrayClass ty).before a0 Z = true) (hz : Ix z n) (hcap : n ≤ cap) (h8 : cap * 8 ≤ 536870912) (hc : cells + 1 ≤ R.cells) (hn : slots + cap ≤ R.slots) (hq : pc + 2 = q)
    (k : ∀ T' h' a, Stand p l e R s m args below meth c T' locs (cells + 1) (slots + cap) → T'.heap = h' → a = h.size → Ext h h' → Ary Z h' a ty n (fun _ => defaultValue ty) → Run p e below s kc kn Q T' (mkF m q Ls (.ref a :: st))) : Run p e below s kc kn Q T (mkF m pc Ls (.int z :: st)) := by
  subst hq hty
  obtain ⟨T2, h2, cA, X2, e2, E2, A2, st2⟩ := newP X K.1 K.2.2.2.2.1 w eT (g := mkF m pc Ls (.int z :: st)) rfl (hb K.2.1 hd) rfl hz.1 (cap := cap) (by rw [hz.2]; exact hcap) h8 hc hn
  refine (k T2 h2 h.size X2 e2 rfl E2 ⟨_, A2, (sz_new _ _ _).trans hz.2, by omega, fun i hi => ?_, fun i _ => ?_⟩).by st2
  · rw [← hz.2] at hi; simp [newA, hi]
  · cases aty <;> rfl
theorem k_private (K : Fx p s m meth c by' ml own nm ret Z) (X : Stand p l e R s m args below meth c T locs cells slots) (eT : T.heap = h) {y : MethodName} {bytes : ByteArray} {maxL i W : Nat} {rt : Option FieldType} {rm : Room} {as' : Array Value} {Q' : Option Value → Heap → List Loc → Prop} {a : Addr} {C : String} {ni : Nat}
    (hd : decode by' pc = .ok (.invokevirtual i, 3)) (w1 : (Cond.methodLink own i y).before a0 Z = true) (w2 : (Cond.privateMethod y).before a0 Z = true) (w5 : (Cond.instantiable y.cls ni).before a0 Z = true) (w6 : (Cond.instanceMethod y).before a0 Z = true) (w3 : (Cond.initialized y.cls).before a0 Z = true) (w4 : (Cond.code y bytes maxL rt).before a0 Z = true) (hy : y.cls ≠ "java/lang/invoke/MethodHandle" ∧ y.cls ≠ "java/lang/invoke/VarHandle")
    (hE : Exa Z h a C) (hM : Met l y bytes maxL rt [] rm Z as' h Q') (hf : rm.frames + 1 ≤ R.frames) (hl : W + (maxL + 11) + rm.locals ≤ R.locals) (hc : cells + rm.cells ≤ R.cells) (hn : slots + rm.slots ≤ R.slots) (hsz : Ls.size = ml)
    {sig : MethodDescriptor} (hdesc : parseMethodDescriptor y.desc = some sig) {argsL rest : List Value} (ha : as' = (.ref a :: argsL).toArray) (hlen : argsL.length = sig.parameters.length) (hst : st = argsL.reverse ++ .ref a :: rest) (hW : (rest.map fun v => v.category).sum ≤ W) (hq : pc + 3 = q)
    (k : ∀ v T' L, Stand p l e R s m args below meth c T' (locs ++ L) (cells + rm.cells) (slots + rm.slots) → Q' v T'.heap L → Run p e below s kc kn Q T' (mkF m q Ls (v.toList ++ rest))) : Run p e below s kc kn Q T (mkF m pc Ls st) := by
  have hZ := K.2.2.2.2.1
  subst hq
  obtain ⟨cq, qa, qb⟩ := hE.cell
  have hpv := Cond.privateMethod_at (mvP hZ w2 (args := #[]))
  have hin : (Cond.instanceMethod y).before args s = true := mvT hZ w6
  obtain ⟨c2, k2, i1, i2, i3, i4, -⟩ := Cond.instantiable_spec (args := #[]) (s := s) (mvT hZ w5)
  have hsl := Jvm.Stand.selects_self_of_private i1 i2 (Bool.or_eq_false_iff.mp i4).1 hpv hin hy
  obtain ⟨v, _, ⟨T2, L2, k2, n2⟩, -, X2, ⟨Lc, hQ2, l2, y2, z2⟩, st2⟩ := X.privateBack K.1 (y := y) K.2.2.2.1 (mvT hZ w1) hin hsl hpv (mvT hZ w4) hy (backOf (W := W) hM hZ w4 w3 hf hl) (g := mkF m pc Ls st) rfl (by rw [K.2.2.1]; exact hsz) (Steps.refl _) (a := a) (by rw [eT]; exact qa) qb (argsL := argsL) (rest := rest) (fun sg hs => by cases hdesc.symm.trans hs; exact hlen) hst (by show 2 * 0 + _ ≤ _; omega) (hb K.2.1 hd) (fun _ _ => ⟨ha.symm, eT, hc, hn⟩)
  dsimp only [Pt.U, Pt.locs, Pt.cells, Pt.slots] at X2 l2 y2 z2 st2 hQ2
  subst l2 y2 z2
  exact (k v T2 Lc X2 hQ2).on st2
theorem k_privateP (K : Fx p s m meth c by' ml own nm ret Z) (X : Stand p l e R s m args below meth c T locs cells slots) (eT : T.heap = h) {y : MethodName} {bytes : ByteArray} {maxL i W fr lo : Nat} {rt : Option FieldType} {as' : Array Value} {w : Value} {a : Addr} {C : String} {ni : Nat}
    (hd : decode by' pc = .ok (.invokevirtual i, 3)) (w1 : (Cond.methodLink own i y).before a0 Z = true) (w2 : (Cond.privateMethod y).before a0 Z = true) (w5 : (Cond.instantiable y.cls ni).before a0 Z = true) (w6 : (Cond.instanceMethod y).before a0 Z = true) (w3 : (Cond.initialized y.cls).before a0 Z = true) (w4 : (Cond.code y bytes maxL rt).before a0 Z = true) (hy : y.cls ≠ "java/lang/invoke/MethodHandle" ∧ y.cls ≠ "java/lang/invoke/VarHandle")
    (hE : Exa Z h a C) (hM : Met l y bytes maxL rt [] { frames := fr, cells := 0, slots := 0, locals := lo } Z as' h (fun v h' L => v = some w ∧ h' = h ∧ L = [])) (hf : fr + 1 ≤ R.frames) (hl : W + (maxL + 11) + lo ≤ R.locals) (hc : cells ≤ R.cells) (hn : slots ≤ R.slots) (hsz : Ls.size = ml)
    {sig : MethodDescriptor} (hdesc : parseMethodDescriptor y.desc = some sig) {argsL rest : List Value} (ha : as' = (.ref a :: argsL).toArray) (hlen : argsL.length = sig.parameters.length) (hst : st = argsL.reverse ++ .ref a :: rest) (hW : (rest.map fun v => v.category).sum ≤ W) (hq : pc + 3 = q)
    (k : ∀ T', Stand p l e R s m args below meth c T' locs cells slots → T'.heap = h → Run p e below s kc kn Q T' (mkF m q Ls (w :: rest))) : Run p e below s kc kn Q T (mkF m pc Ls st) := by
  refine k_private K X eT hd w1 w2 w5 w6 w3 w4 hy hE hM hf hl hc hn hsz hdesc ha hlen hst hW hq ?_
  rintro v T' L X' ⟨rfl, h2, rfl⟩
  rw [List.append_nil] at X'
  exact k T' X' h2
end OwnKit

theorem wd {Z : State} {az : Array Value} (hw : ∀ d ∈ tables_1, d.before az Z = true) (k : Nat) {d : Jvm.Cond} (h : tables_1[k]? = some d) : d.before az Z = true := hw _ (List.mem_of_getElem? h)
theorem d3_0 : decode jdk_33_method_49_code 0 = .ok (.iload_n 0, 1) := by decide +kernel
theorem d3_1 : decode jdk_33_method_49_code 1 = .ok (.iload_n 0, 1) := by decide +kernel
theorem d3_2 : decode jdk_33_method_49_code 2 = .ok (.iconst 1, 1) := by decide +kernel
theorem d3_3 : decode jdk_33_method_49_code 3 = .ok (.iushr, 1) := by decide +kernel
theorem d3_4 : decode jdk_33_method_49_code 4 = .ok (.ldc_w 265, 3) := by decide +kernel
theorem d3_7 : decode jdk_33_method_49_code 7 = .ok (.iand, 1) := by decide +kernel
theorem d3_8 : decode jdk_33_method_49_code 8 = .ok (.isub, 1) := by decide +kernel
theorem d3_9 : decode jdk_33_method_49_code 9 = .ok (.istore_n 0, 1) := by decide +kernel
theorem d3_10 : decode jdk_33_method_49_code 10 = .ok (.iload_n 0, 1) := by decide +kernel
theorem d3_11 : decode jdk_33_method_49_code 11 = .ok (.ldc_w 266, 3) := by decide +kernel
theorem d3_14 : decode jdk_33_method_49_code 14 = .ok (.iand, 1) := by decide +kernel
theorem d3_15 : decode jdk_33_method_49_code 15 = .ok (.iload_n 0, 1) := by decide +kernel
theorem d3_16 : decode jdk_33_method_49_code 16 = .ok (.iconst 2, 1) := by decide +kernel
theorem d3_17 : decode jdk_33_method_49_code 17 = .ok (.iushr, 1) := by decide +kernel
theorem d3_18 : decode jdk_33_method_49_code 18 = .ok (.ldc_w 266, 3) := by decide +kernel
theorem d3_21 : decode jdk_33_method_49_code 21 = .ok (.iand, 1) := by decide +kernel
theorem d3_22 : decode jdk_33_method_49_code 22 = .ok (.iadd, 1) := by decide +kernel
theorem d3_23 : decode jdk_33_method_49_code 23 = .ok (.istore_n 0, 1) := by decide +kernel
theorem d3_24 : decode jdk_33_method_49_code 24 = .ok (.iload_n 0, 1) := by decide +kernel
theorem d3_25 : decode jdk_33_method_49_code 25 = .ok (.iload_n 0, 1) := by decide +kernel
theorem d3_26 : decode jdk_33_method_49_code 26 = .ok (.iconst 4, 1) := by decide +kernel
theorem d3_27 : decode jdk_33_method_49_code 27 = .ok (.iushr, 1) := by decide +kernel
theorem d3_28 : decode jdk_33_method_49_code 28 = .ok (.iadd, 1) := by decide +kernel
theorem d3_29 : decode jdk_33_method_49_code 29 = .ok (.ldc_w 267, 3) := by decide +kernel
theorem d3_32 : decode jdk_33_method_49_code 32 = .ok (.iand, 1) := by decide +kernel
theorem d3_33 : decode jdk_33_method_49_code 33 = .ok (.istore_n 0, 1) := by decide +kernel
theorem d3_34 : decode jdk_33_method_49_code 34 = .ok (.iload_n 0, 1) := by decide +kernel
theorem d3_35 : decode jdk_33_method_49_code 35 = .ok (.iload_n 0, 1) := by decide +kernel
theorem d3_36 : decode jdk_33_method_49_code 36 = .ok (.bipush 8, 2) := by decide +kernel
theorem d3_38 : decode jdk_33_method_49_code 38 = .ok (.iushr, 1) := by decide +kernel
theorem d3_39 : decode jdk_33_method_49_code 39 = .ok (.iadd, 1) := by decide +kernel
theorem d3_40 : decode jdk_33_method_49_code 40 = .ok (.istore_n 0, 1) := by decide +kernel
theorem d3_41 : decode jdk_33_method_49_code 41 = .ok (.iload_n 0, 1) := by decide +kernel
theorem d3_42 : decode jdk_33_method_49_code 42 = .ok (.iload_n 0, 1) := by decide +kernel
theorem d3_43 : decode jdk_33_method_49_code 43 = .ok (.bipush 16, 2) := by decide +kernel
theorem d3_45 : decode jdk_33_method_49_code 45 = .ok (.iushr, 1) := by decide +kernel
theorem d3_46 : decode jdk_33_method_49_code 46 = .ok (.iadd, 1) := by decide +kernel
theorem d3_47 : decode jdk_33_method_49_code 47 = .ok (.istore_n 0, 1) := by decide +kernel
theorem d3_48 : decode jdk_33_method_49_code 48 = .ok (.iload_n 0, 1) := by decide +kernel
theorem d3_49 : decode jdk_33_method_49_code 49 = .ok (.bipush 63, 2) := by decide +kernel
theorem d3_51 : decode jdk_33_method_49_code 51 = .ok (.iand, 1) := by decide +kernel
theorem d3_52 : decode jdk_33_method_49_code 52 = .ok (.ireturn, 1) := by decide +kernel
theorem ef_3 (p0 : Int32) : ∀ m : MethodId, entryFrame m #[(.int p0)] 1 = mkF m 0 #[.val (.int p0)] [] := by intro m; first | (simp [entryFrame, mkF, argsToLocals, Value.category]; done) | rfl
theorem pn_0 : plainName "java/lang/Integer" = true := by first | (simp [plainName, overriddenIn]; done) | decide +kernel
def F_bitCount (p0 : Int32) : Int32 :=
  let v1 : Int32 := (p0 - ((ushrI p0 (1 : Int32)) &&& (1431655765 : Int32)))
  let v2 : Int32 := ((v1 &&& (858993459 : Int32)) + ((ushrI v1 (2 : Int32)) &&& (858993459 : Int32)))
  let v3 : Int32 := ((v2 + (ushrI v2 (4 : Int32))) &&& (252645135 : Int32))
  let v4 : Int32 := (v3 + (ushrI v3 (8 : Int32)))
  let v5 : Int32 := (v4 + (ushrI v4 (16 : Int32)))
  (v5 &&& (63 : Int32))
set_option maxRecDepth 65536 in
set_option maxHeartbeats 40000000 in
theorem rm3 (l : Launch) (Z : State) (az : Array Value) (hw : ∀ d ∈ tables_1, d.before az Z = true) (ws : List Jvm.Cond) (p0 : Int32) (h0 : Heap) :
    Met l (⟨"java/lang/Integer", "bitCount", "(I)I"⟩ : MethodName) jdk_33_method_49_code 1 (some .int) ws ({ frames := 0, cells := 0, slots := 0, locals := 0 } : Room) Z #[(.int p0)] h0 (fun v h' L => v = some (Value.int (F_bitCount p0)) ∧ h' = h0 ∧ L = []) := by
  refine enter (plainFor_of_name pn_0) (ef_3 p0) ?_
  intro p e s m below meth c T0 kc kn Q hkc hkn hQ K' X0 e0
  have K : Fx p s m meth c jdk_33_method_49_code 1 "java/lang/Integer" "bitCount" (some .int) Z := K'
  refine k_iloadN K X0 d3_0 rfl (q := 1) rfl ?_
  refine k_iloadN K X0 d3_1 rfl (q := 2) rfl ?_
  refine k_iconst K X0 d3_2 (v := (1 : Int32)) rfl (q := 3) rfl ?_
  refine k_iushr K X0 d3_3 (q := 4) rfl ?_
  refine k_ldc_w K X0 d3_4 (wd hw 15 rfl) (q := 7) rfl ?_
  refine k_iand K X0 d3_7 (q := 8) rfl ?_
  refine k_isub K X0 d3_8 (q := 9) rfl ?_
  obtain ⟨v1, hv_v1⟩ : ∃ z : Int32, (p0 - ((ushrI p0 (1 : Int32)) &&& (1431655765 : Int32))) = z := ⟨_, rfl⟩
  refine k_istoreN K X0 d3_9 hv_v1 (Ls' := #[.val (.int v1)]) rfl (q := 10) rfl ?_
  refine k_iloadN K X0 d3_10 rfl (q := 11) rfl ?_
  refine k_ldc_w K X0 d3_11 (wd hw 16 rfl) (q := 14) rfl ?_
  refine k_iand K X0 d3_14 (q := 15) rfl ?_
  refine k_iloadN K X0 d3_15 rfl (q := 16) rfl ?_
  refine k_iconst K X0 d3_16 (v := (2 : Int32)) rfl (q := 17) rfl ?_
  refine k_iushr K X0 d3_17 (q := 18) rfl ?_
  refine k_ldc_w K X0 d3_18 (wd hw 16 rfl) (q := 21) rfl ?_
  refine k_iand K X0 d3_21 (q := 22) rfl ?_
  refine k_iadd K X0 d3_22 (q := 23) rfl ?_
  obtain ⟨v2, hv_v2⟩ : ∃ z : Int32, ((v1 &&& (858993459 : Int32)) + ((ushrI v1 (2 : Int32)) &&& (858993459 : Int32))) = z := ⟨_, rfl⟩
  refine k_istoreN K X0 d3_23 hv_v2 (Ls' := #[.val (.int v2)]) rfl (q := 24) rfl ?_
  refine k_iloadN K X0 d3_24 rfl (q := 25) rfl ?_
  refine k_iloadN K X0 d3_25 rfl (q := 26) rfl ?_
  refine k_iconst K X0 d3_26 (v := (4 : Int32)) rfl (q := 27) rfl ?_
  refine k_iushr K X0 d3_27 (q := 28) rfl ?_
  refine k_iadd K X0 d3_28 (q := 29) rfl ?_
  refine k_ldc_w K X0 d3_29 (wd hw 17 rfl) (q := 32) rfl ?_
  refine k_iand K X0 d3_32 (q := 33) rfl ?_
  obtain ⟨v3, hv_v3⟩ : ∃ z : Int32, ((v2 + (ushrI v2 (4 : Int32))) &&& (252645135 : Int32)) = z := ⟨_, rfl⟩
  refine k_istoreN K X0 d3_33 hv_v3 (Ls' := #[.val (.int v3)]) rfl (q := 34) rfl ?_
  refine k_iloadN K X0 d3_34 rfl (q := 35) rfl ?_
  refine k_iloadN K X0 d3_35 rfl (q := 36) rfl ?_
  refine k_bipush K X0 d3_36 (v := (8 : Int32)) rfl (q := 38) rfl ?_
  refine k_iushr K X0 d3_38 (q := 39) rfl ?_
  refine k_iadd K X0 d3_39 (q := 40) rfl ?_
  obtain ⟨v4, hv_v4⟩ : ∃ z : Int32, (v3 + (ushrI v3 (8 : Int32))) = z := ⟨_, rfl⟩
  refine k_istoreN K X0 d3_40 hv_v4 (Ls' := #[.val (.int v4)]) rfl (q := 41) rfl ?_
  refine k_iloadN K X0 d3_41 rfl (q := 42) rfl ?_
  refine k_iloadN K X0 d3_42 rfl (q := 43) rfl ?_
  refine k_bipush K X0 d3_43 (v := (16 : Int32)) rfl (q := 45) rfl ?_
  refine k_iushr K X0 d3_45 (q := 46) rfl ?_
  refine k_iadd K X0 d3_46 (q := 47) rfl ?_
  obtain ⟨v5, hv_v5⟩ : ∃ z : Int32, (v4 + (ushrI v4 (16 : Int32))) = z := ⟨_, rfl⟩
  refine k_istoreN K X0 d3_47 hv_v5 (Ls' := #[.val (.int v5)]) rfl (q := 48) rfl ?_
  refine k_iloadN K X0 d3_48 rfl (q := 49) rfl ?_
  refine k_bipush K X0 d3_49 (v := (63 : Int32)) rfl (q := 51) rfl ?_
  refine k_iand K X0 d3_51 (q := 52) rfl ?_
  exact k_reti K X0 e0 d3_52 (Nat.le_trans (by decide) hkc) (Nat.le_trans (by decide) hkn) (hQ _ _ _ ⟨(by show some (Value.int (v5 &&& (63 : Int32))) = some (Value.int (F_bitCount p0)); first | (simp only [F_bitCount, hv_v1, hv_v2, hv_v3, hv_v4, hv_v5]; done) | (subst hv_v1; subst hv_v2; subst hv_v3; subst hv_v4; subst hv_v5; simp only [F_bitCount])), rfl, rfl⟩)
theorem d4_0 : decode jdk_33_method_48_code 0 = .ok (.iload_n 0, 1) := by decide +kernel
theorem d4_1 : decode jdk_33_method_48_code 1 = .ok (.iconst (-1), 1) := by decide +kernel
theorem d4_2 : decode jdk_33_method_48_code 2 = .ok (.ixor, 1) := by decide +kernel
theorem d4_3 : decode jdk_33_method_48_code 3 = .ok (.iload_n 0, 1) := by decide +kernel
theorem d4_4 : decode jdk_33_method_48_code 4 = .ok (.iconst 1, 1) := by decide +kernel
theorem d4_5 : decode jdk_33_method_48_code 5 = .ok (.isub, 1) := by decide +kernel
theorem d4_6 : decode jdk_33_method_48_code 6 = .ok (.iand, 1) := by decide +kernel
theorem d4_7 : decode jdk_33_method_48_code 7 = .ok (.istore_n 0, 1) := by decide +kernel
theorem d4_8 : decode jdk_33_method_48_code 8 = .ok (.iload_n 0, 1) := by decide +kernel
theorem d4_9 : decode jdk_33_method_48_code 9 = .ok (.ifCond .gt 8, 3) := by decide +kernel
theorem d4_17 : decode jdk_33_method_48_code 17 = .ok (.iconst 1, 1) := by decide +kernel
theorem d4_18 : decode jdk_33_method_48_code 18 = .ok (.istore_n 1, 1) := by decide +kernel
theorem d4_19 : decode jdk_33_method_48_code 19 = .ok (.iload_n 0, 1) := by decide +kernel
theorem d4_20 : decode jdk_33_method_48_code 20 = .ok (.ldc_w 264, 3) := by decide +kernel
theorem d4_23 : decode jdk_33_method_48_code 23 = .ok (.if_icmp .le 11, 3) := by decide +kernel
theorem d4_34 : decode jdk_33_method_48_code 34 = .ok (.iload_n 0, 1) := by decide +kernel
theorem d4_35 : decode jdk_33_method_48_code 35 = .ok (.sipush 256, 3) := by decide +kernel
theorem d4_38 : decode jdk_33_method_48_code 38 = .ok (.if_icmp .le 11, 3) := by decide +kernel
theorem d4_49 : decode jdk_33_method_48_code 49 = .ok (.iload_n 0, 1) := by decide +kernel
theorem d4_50 : decode jdk_33_method_48_code 50 = .ok (.bipush 16, 2) := by decide +kernel
theorem d4_52 : decode jdk_33_method_48_code 52 = .ok (.if_icmp .le 10, 3) := by decide +kernel
theorem d4_62 : decode jdk_33_method_48_code 62 = .ok (.iload_n 0, 1) := by decide +kernel
theorem d4_63 : decode jdk_33_method_48_code 63 = .ok (.iconst 4, 1) := by decide +kernel
theorem d4_64 : decode jdk_33_method_48_code 64 = .ok (.if_icmp .le 10, 3) := by decide +kernel
theorem d4_74 : decode jdk_33_method_48_code 74 = .ok (.iload_n 1, 1) := by decide +kernel
theorem d4_75 : decode jdk_33_method_48_code 75 = .ok (.iload_n 0, 1) := by decide +kernel
theorem d4_76 : decode jdk_33_method_48_code 76 = .ok (.iconst 1, 1) := by decide +kernel
theorem d4_77 : decode jdk_33_method_48_code 77 = .ok (.iushr, 1) := by decide +kernel
theorem d4_78 : decode jdk_33_method_48_code 78 = .ok (.iadd, 1) := by decide +kernel
theorem d4_79 : decode jdk_33_method_48_code 79 = .ok (.ireturn, 1) := by decide +kernel
theorem d4_67 : decode jdk_33_method_48_code 67 = .ok (.iinc 1 2, 3) := by decide +kernel
theorem d4_70 : decode jdk_33_method_48_code 70 = .ok (.iload_n 0, 1) := by decide +kernel
theorem d4_71 : decode jdk_33_method_48_code 71 = .ok (.iconst 2, 1) := by decide +kernel
theorem d4_72 : decode jdk_33_method_48_code 72 = .ok (.iushr, 1) := by decide +kernel
theorem d4_73 : decode jdk_33_method_48_code 73 = .ok (.istore_n 0, 1) := by decide +kernel
theorem d4_55 : decode jdk_33_method_48_code 55 = .ok (.iinc 1 4, 3) := by decide +kernel
theorem d4_58 : decode jdk_33_method_48_code 58 = .ok (.iload_n 0, 1) := by decide +kernel
theorem d4_59 : decode jdk_33_method_48_code 59 = .ok (.iconst 4, 1) := by decide +kernel
theorem d4_60 : decode jdk_33_method_48_code 60 = .ok (.iushr, 1) := by decide +kernel
theorem d4_61 : decode jdk_33_method_48_code 61 = .ok (.istore_n 0, 1) := by decide +kernel
theorem d4_41 : decode jdk_33_method_48_code 41 = .ok (.iinc 1 8, 3) := by decide +kernel
theorem d4_44 : decode jdk_33_method_48_code 44 = .ok (.iload_n 0, 1) := by decide +kernel
theorem d4_45 : decode jdk_33_method_48_code 45 = .ok (.bipush 8, 2) := by decide +kernel
theorem d4_47 : decode jdk_33_method_48_code 47 = .ok (.iushr, 1) := by decide +kernel
theorem d4_48 : decode jdk_33_method_48_code 48 = .ok (.istore_n 0, 1) := by decide +kernel
theorem d4_26 : decode jdk_33_method_48_code 26 = .ok (.iinc 1 16, 3) := by decide +kernel
theorem d4_29 : decode jdk_33_method_48_code 29 = .ok (.iload_n 0, 1) := by decide +kernel
theorem d4_30 : decode jdk_33_method_48_code 30 = .ok (.bipush 16, 2) := by decide +kernel
theorem d4_32 : decode jdk_33_method_48_code 32 = .ok (.iushr, 1) := by decide +kernel
theorem d4_33 : decode jdk_33_method_48_code 33 = .ok (.istore_n 0, 1) := by decide +kernel
theorem d4_12 : decode jdk_33_method_48_code 12 = .ok (.iload_n 0, 1) := by decide +kernel
theorem d4_13 : decode jdk_33_method_48_code 13 = .ok (.bipush 32, 2) := by decide +kernel
theorem d4_15 : decode jdk_33_method_48_code 15 = .ok (.iand, 1) := by decide +kernel
theorem d4_16 : decode jdk_33_method_48_code 16 = .ok (.ireturn, 1) := by decide +kernel
theorem ef_4 (p0 : Int32) : ∀ m : MethodId, entryFrame m #[(.int p0)] 2 = mkF m 0 #[.val (.int p0), .unset] [] := by intro m; first | (simp [entryFrame, mkF, argsToLocals, Value.category]; done) | rfl
def F_numberOfTrailingZeros (p0 : Int32) : Int32 :=
  let v6 : Int32 := ((p0 ^^^ (-1 : Int32)) &&& (p0 - (1 : Int32)))
  if (0 : Int32) < v6 then
    let d9 : Int32 := (if (65536 : Int32) < v6 then (ushrI v6 (16 : Int32)) else v6)
    let d10 : Int32 := (if (65536 : Int32) < v6 then (17 : Int32) else (1 : Int32))
    let d13 : Int32 := (if (256 : Int32) < d9 then (ushrI d9 (8 : Int32)) else d9)
    let d14 : Int32 := (if (256 : Int32) < d9 then (d10 + (8 : Int32)) else d10)
    let d17 : Int32 := (if (16 : Int32) < d13 then (ushrI d13 (4 : Int32)) else d13)
    let d18 : Int32 := (if (16 : Int32) < d13 then (d14 + (4 : Int32)) else d14)
    let d21 : Int32 := (if (4 : Int32) < d17 then (ushrI d17 (2 : Int32)) else d17)
    let d22 : Int32 := (if (4 : Int32) < d17 then (d18 + (2 : Int32)) else d18)
    (d22 + (ushrI d21 (1 : Int32)))
  else
    (v6 &&& (32 : Int32))
set_option maxRecDepth 65536 in
set_option maxHeartbeats 40000000 in
theorem rm4 (l : Launch) (Z : State) (az : Array Value) (hw : ∀ d ∈ tables_1, d.before az Z = true) (ws : List Jvm.Cond) (p0 : Int32) (h0 : Heap) :
    Met l (⟨"java/lang/Integer", "numberOfTrailingZeros", "(I)I"⟩ : MethodName) jdk_33_method_48_code 2 (some .int) ws ({ frames := 0, cells := 0, slots := 0, locals := 0 } : Room) Z #[(.int p0)] h0 (fun v h' L => v = some (Value.int (F_numberOfTrailingZeros p0)) ∧ h' = h0 ∧ L = []) := by
  refine enter (plainFor_of_name pn_0) (ef_4 p0) ?_
  intro p e s m below meth c T0 kc kn Q hkc hkn hQ K' X0 e0
  have K : Fx p s m meth c jdk_33_method_48_code 2 "java/lang/Integer" "numberOfTrailingZeros" (some .int) Z := K'
  refine k_iloadN K X0 d4_0 rfl (q := 1) rfl ?_
  refine k_iconst K X0 d4_1 (v := (-1 : Int32)) rfl (q := 2) rfl ?_
  refine k_ixor K X0 d4_2 (q := 3) rfl ?_
  refine k_iloadN K X0 d4_3 rfl (q := 4) rfl ?_
  refine k_iconst K X0 d4_4 (v := (1 : Int32)) rfl (q := 5) rfl ?_
  refine k_isub K X0 d4_5 (q := 6) rfl ?_
  refine k_iand K X0 d4_6 (q := 7) rfl ?_
  obtain ⟨v6, hv_v6⟩ : ∃ z : Int32, ((p0 ^^^ (-1 : Int32)) &&& (p0 - (1 : Int32))) = z := ⟨_, rfl⟩
  refine k_istoreN K X0 d4_7 hv_v6 (Ls' := #[.val (.int v6), .unset]) rfl (q := 8) rfl ?_
  refine k_iloadN K X0 d4_8 rfl (q := 9) rfl ?_
  refine k_if_gt K X0 d4_9 (by decide) (q := 17) rfl (q' := 12) rfl ?_ ?_
  · intro hc7
    refine k_iconst K X0 d4_17 (v := (1 : Int32)) rfl (q := 18) rfl ?_
    refine k_istoreN K X0 d4_18 rfl (Ls' := #[.val (.int v6), .val (.int (1 : Int32))]) rfl (q := 19) rfl ?_
    refine k_iloadN K X0 d4_19 rfl (q := 20) rfl ?_
    refine k_ldc_w K X0 d4_20 (wd hw 72 rfl) (q := 23) rfl ?_
    have J11 : ∀ (d9 : Int32) (d10 : Int32), (if (65536 : Int32) < v6 then (ushrI v6 (16 : Int32)) else v6) = d9 → (if (65536 : Int32) < v6 then (17 : Int32) else (1 : Int32)) = d10 → Run p e below s kc kn Q T0 (mkF m 34 #[.val (.int d9), .val (.int d10)] []) := by
      intro d9 d10 hv_d9 hv_d10
      refine k_iloadN K X0 d4_34 rfl (q := 35) rfl ?_
      refine k_sipush K X0 d4_35 (v := (256 : Int32)) rfl (q := 38) rfl ?_
      have J15 : ∀ (d13 : Int32) (d14 : Int32), (if (256 : Int32) < d9 then (ushrI d9 (8 : Int32)) else d9) = d13 → (if (256 : Int32) < d9 then (d10 + (8 : Int32)) else d10) = d14 → Run p e below s kc kn Q T0 (mkF m 49 #[.val (.int d13), .val (.int d14)] []) := by
        intro d13 d14 hv_d13 hv_d14
        refine k_iloadN K X0 d4_49 rfl (q := 50) rfl ?_
        refine k_bipush K X0 d4_50 (v := (16 : Int32)) rfl (q := 52) rfl ?_
        have J19 : ∀ (d17 : Int32) (d18 : Int32), (if (16 : Int32) < d13 then (ushrI d13 (4 : Int32)) else d13) = d17 → (if (16 : Int32) < d13 then (d14 + (4 : Int32)) else d14) = d18 → Run p e below s kc kn Q T0 (mkF m 62 #[.val (.int d17), .val (.int d18)] []) := by
          intro d17 d18 hv_d17 hv_d18
          refine k_iloadN K X0 d4_62 rfl (q := 63) rfl ?_
          refine k_iconst K X0 d4_63 (v := (4 : Int32)) rfl (q := 64) rfl ?_
          have J23 : ∀ (d21 : Int32) (d22 : Int32), (if (4 : Int32) < d17 then (ushrI d17 (2 : Int32)) else d17) = d21 → (if (4 : Int32) < d17 then (d18 + (2 : Int32)) else d18) = d22 → Run p e below s kc kn Q T0 (mkF m 74 #[.val (.int d21), .val (.int d22)] []) := by
            intro d21 d22 hv_d21 hv_d22
            refine k_iloadN K X0 d4_74 rfl (q := 75) rfl ?_
            refine k_iloadN K X0 d4_75 rfl (q := 76) rfl ?_
            refine k_iconst K X0 d4_76 (v := (1 : Int32)) rfl (q := 77) rfl ?_
            refine k_iushr K X0 d4_77 (q := 78) rfl ?_
            refine k_iadd K X0 d4_78 (q := 79) rfl ?_
            exact k_reti K X0 e0 d4_79 (Nat.le_trans (by decide) hkc) (Nat.le_trans (by decide) hkn) (hQ _ _ _ ⟨(by show some (Value.int (d22 + (ushrI d21 (1 : Int32)))) = some (Value.int (F_numberOfTrailingZeros p0)); first | (simp only [F_numberOfTrailingZeros, hv_v6, hv_d9, hv_d10, hv_d13, hv_d14, hv_d17, hv_d18, hv_d21, hv_d22, if_pos hc7]; done) | (subst hv_v6; subst hv_d9; subst hv_d10; subst hv_d13; subst hv_d14; subst hv_d17; subst hv_d18; subst hv_d21; subst hv_d22; simp only [F_numberOfTrailingZeros, if_pos hc7])), rfl, rfl⟩)
          refine k_icmp_le K X0 d4_64 (by decide) (q := 74) rfl (q' := 67) rfl ?_ ?_
          · intro hc24
            exact J23 _ _ (by first | (simp only [if_neg hc24]; done) | rfl) (by first | (simp only [if_neg hc24]; done) | rfl)
          · intro hc24
            refine k_iinc K X0 d4_67 rfl rfl (Ls' := #[.val (.int d17), .val (.int (d18 + (2 : Int32)))]) rfl (q := 70) rfl ?_
            refine k_iloadN K X0 d4_70 rfl (q := 71) rfl ?_
            refine k_iconst K X0 d4_71 (v := (2 : Int32)) rfl (q := 72) rfl ?_
            refine k_iushr K X0 d4_72 (q := 73) rfl ?_
            refine k_istoreN K X0 d4_73 rfl (Ls' := #[.val (.int (ushrI d17 (2 : Int32))), .val (.int (d18 + (2 : Int32)))]) rfl (q := 74) rfl ?_
            exact J23 _ _ (by first | (simp only [if_pos hc24]; done) | rfl) (by first | (simp only [if_pos hc24]; done) | rfl)
        refine k_icmp_le K X0 d4_52 (by decide) (q := 62) rfl (q' := 55) rfl ?_ ?_
        · intro hc25
          exact J19 _ _ (by first | (simp only [if_neg hc25]; done) | rfl) (by first | (simp only [if_neg hc25]; done) | rfl)
        · intro hc25
          refine k_iinc K X0 d4_55 rfl rfl (Ls' := #[.val (.int d13), .val (.int (d14 + (4 : Int32)))]) rfl (q := 58) rfl ?_
          refine k_iloadN K X0 d4_58 rfl (q := 59) rfl ?_
          refine k_iconst K X0 d4_59 (v := (4 : Int32)) rfl (q := 60) rfl ?_
          refine k_iushr K X0 d4_60 (q := 61) rfl ?_
          refine k_istoreN K X0 d4_61 rfl (Ls' := #[.val (.int (ushrI d13 (4 : Int32))), .val (.int (d14 + (4 : Int32)))]) rfl (q := 62) rfl ?_
          exact J19 _ _ (by first | (simp only [if_pos hc25]; done) | rfl) (by first | (simp only [if_pos hc25]; done) | rfl)
      refine k_icmp_le K X0 d4_38 (by decide) (q := 49) rfl (q' := 41) rfl ?_ ?_
      · intro hc26
        exact J15 _ _ (by first | (simp only [if_neg hc26]; done) | rfl) (by first | (simp only [if_neg hc26]; done) | rfl)
      · intro hc26
        refine k_iinc K X0 d4_41 rfl rfl (Ls' := #[.val (.int d9), .val (.int (d10 + (8 : Int32)))]) rfl (q := 44) rfl ?_
        refine k_iloadN K X0 d4_44 rfl (q := 45) rfl ?_
        refine k_bipush K X0 d4_45 (v := (8 : Int32)) rfl (q := 47) rfl ?_
        refine k_iushr K X0 d4_47 (q := 48) rfl ?_
        refine k_istoreN K X0 d4_48 rfl (Ls' := #[.val (.int (ushrI d9 (8 : Int32))), .val (.int (d10 + (8 : Int32)))]) rfl (q := 49) rfl ?_
        exact J15 _ _ (by first | (simp only [if_pos hc26]; done) | rfl) (by first | (simp only [if_pos hc26]; done) | rfl)
    refine k_icmp_le K X0 d4_23 (by decide) (q := 34) rfl (q' := 26) rfl ?_ ?_
    · intro hc27
      exact J11 _ _ (by first | (simp only [if_neg hc27]; done) | rfl) (by first | (simp only [if_neg hc27]; done) | rfl)
    · intro hc27
      refine k_iinc K X0 d4_26 rfl (by decide) (Ls' := #[.val (.int v6), .val (.int (17 : Int32))]) rfl (q := 29) rfl ?_
      refine k_iloadN K X0 d4_29 rfl (q := 30) rfl ?_
      refine k_bipush K X0 d4_30 (v := (16 : Int32)) rfl (q := 32) rfl ?_
      refine k_iushr K X0 d4_32 (q := 33) rfl ?_
      refine k_istoreN K X0 d4_33 rfl (Ls' := #[.val (.int (ushrI v6 (16 : Int32))), .val (.int (17 : Int32))]) rfl (q := 34) rfl ?_
      exact J11 _ _ (by first | (simp only [if_pos hc27]; done) | rfl) (by first | (simp only [if_pos hc27]; done) | rfl)
  · intro hc7
    refine k_iloadN K X0 d4_12 rfl (q := 13) rfl ?_
    refine k_bipush K X0 d4_13 (v := (32 : Int32)) rfl (q := 15) rfl ?_
    refine k_iand K X0 d4_15 (q := 16) rfl ?_
    exact k_reti K X0 e0 d4_16 (Nat.le_trans (by decide) hkc) (Nat.le_trans (by decide) hkn) (hQ _ _ _ ⟨(by show some (Value.int (v6 &&& (32 : Int32))) = some (Value.int (F_numberOfTrailingZeros p0)); first | (simp only [F_numberOfTrailingZeros, hv_v6, if_neg hc7]; done) | (subst hv_v6; simp only [F_numberOfTrailingZeros, if_neg hc7])), rfl, rfl⟩)
theorem d5_0 : decode prog_14_method_2_code 0 = .ok (.iload_n 0, 1) := by decide +kernel
theorem d5_1 : decode prog_14_method_2_code 1 = .ok (.i2l, 1) := by decide +kernel
theorem d5_2 : decode prog_14_method_2_code 2 = .ok (.iload_n 1, 1) := by decide +kernel
theorem d5_3 : decode prog_14_method_2_code 3 = .ok (.i2l, 1) := by decide +kernel
theorem d5_4 : decode prog_14_method_2_code 4 = .ok (.lmul, 1) := by decide +kernel
theorem d5_5 : decode prog_14_method_2_code 5 = .ok (.ldc2_w 46, 3) := by decide +kernel
theorem d5_8 : decode prog_14_method_2_code 8 = .ok (.ladd, 1) := by decide +kernel
theorem d5_9 : decode prog_14_method_2_code 9 = .ok (.lconst 1, 1) := by decide +kernel
theorem d5_10 : decode prog_14_method_2_code 10 = .ok (.lsub, 1) := by decide +kernel
theorem d5_11 : decode prog_14_method_2_code 11 = .ok (.ldc2_w 46, 3) := by decide +kernel
theorem d5_14 : decode prog_14_method_2_code 14 = .ok (.ldiv, 1) := by decide +kernel
theorem d5_15 : decode prog_14_method_2_code 15 = .ok (.lstore_n 2, 1) := by decide +kernel
theorem d5_16 : decode prog_14_method_2_code 16 = .ok (.lload_n 2, 1) := by decide +kernel
theorem d5_17 : decode prog_14_method_2_code 17 = .ok (.ldc2_w 40, 3) := by decide +kernel
theorem d5_20 : decode prog_14_method_2_code 20 = .ok (.lmul, 1) := by decide +kernel
theorem d5_21 : decode prog_14_method_2_code 21 = .ok (.lreturn, 1) := by decide +kernel
theorem ef_5 (p0 : Int32) (p1 : Int32) : ∀ m : MethodId, entryFrame m #[(.int p0), (.int p1)] 4 = mkF m 0 #[.val (.int p0), .val (.int p1), .unset, .unset] [] := by intro m; first | (simp [entryFrame, mkF, argsToLocals, Value.category]; done) | rfl
theorem pn_1 : plainName "com/example/dayflower/dayflower/filter/FilterSlab" = true := by first | (simp [plainName, overriddenIn]; done) | decide +kernel
def F_bytes (p0 : Int32) (p1 : Int32) : Int64 :=
  let v28 : Int64 := (((((Int32.toInt64 p0) * (Int32.toInt64 p1)) + (64 : Int64)) - (1 : Int64)) / (64 : Int64))
  (v28 * (8 : Int64))
set_option maxRecDepth 65536 in
set_option maxHeartbeats 40000000 in
theorem rm5 (l : Launch) (Z : State) (az : Array Value) (hw : ∀ d ∈ tables_1, d.before az Z = true) (ws : List Jvm.Cond) (p0 : Int32) (p1 : Int32) (h0 : Heap) :
    Met l (⟨"com/example/dayflower/dayflower/filter/FilterSlab", "bytes", "(II)J"⟩ : MethodName) prog_14_method_2_code 4 (some .long) ws ({ frames := 0, cells := 0, slots := 0, locals := 0 } : Room) Z #[(.int p0), (.int p1)] h0 (fun v h' L => v = some (Value.long (F_bytes p0 p1)) ∧ h' = h0 ∧ L = []) := by
  refine enter (plainFor_of_name pn_1) (ef_5 p0 p1) ?_
  intro p e s m below meth c T0 kc kn Q hkc hkn hQ K' X0 e0
  have K : Fx p s m meth c prog_14_method_2_code 4 "com/example/dayflower/dayflower/filter/FilterSlab" "bytes" (some .long) Z := K'
  refine k_iloadN K X0 d5_0 rfl (q := 1) rfl ?_
  refine k_i2l K X0 d5_1 (q := 2) rfl ?_
  refine k_iloadN K X0 d5_2 rfl (q := 3) rfl ?_
  refine k_i2l K X0 d5_3 (q := 4) rfl ?_
  refine k_lmul K X0 d5_4 (q := 5) rfl ?_
  refine k_ldc2 K X0 d5_5 (wd hw 28 rfl) (q := 8) rfl ?_
  refine k_ladd K X0 d5_8 (q := 9) rfl ?_
  refine k_lconst1 K X0 d5_9 (q := 10) rfl ?_
  refine k_lsub K X0 d5_10 (q := 11) rfl ?_
  refine k_ldc2 K X0 d5_11 (wd hw 28 rfl) (q := 14) rfl ?_
  refine k_ldiv K X0 d5_14 (by decide) (q := 15) rfl ?_
  obtain ⟨v28, hv_v28⟩ : ∃ z : Int64, (((((Int32.toInt64 p0) * (Int32.toInt64 p1)) + (64 : Int64)) - (1 : Int64)) / (64 : Int64)) = z := ⟨_, rfl⟩
  refine k_lstoreN K X0 d5_15 hv_v28 (Ls' := #[.val (.int p0), .val (.int p1), .val (.long v28), .second]) rfl (q := 16) rfl ?_
  refine k_lloadN K X0 d5_16 rfl (q := 17) rfl ?_
  refine k_ldc2 K X0 d5_17 (wd hw 29 rfl) (q := 20) rfl ?_
  refine k_lmul K X0 d5_20 (q := 21) rfl ?_
  exact k_retl K X0 e0 d5_21 (Nat.le_trans (by decide) hkc) (Nat.le_trans (by decide) hkn) (hQ _ _ _ ⟨(by show some (Value.long (v28 * (8 : Int64))) = some (Value.long (F_bytes p0 p1)); first | (simp only [F_bytes, hv_v28]; done) | (subst hv_v28; simp only [F_bytes])), rfl, rfl⟩)
theorem d1_0 : decode prog_14_method_1_code 0 = .ok (.aload_n 0, 1) := by decide +kernel
theorem d1_1 : decode prog_14_method_1_code 1 = .ok (.invokespecial 3, 3) := by decide +kernel
theorem d1_4 : decode prog_14_method_1_code 4 = .ok (.iload_n 2, 1) := by decide +kernel
theorem d1_5 : decode prog_14_method_1_code 5 = .ok (.iconst 1, 1) := by decide +kernel
theorem d1_6 : decode prog_14_method_1_code 6 = .ok (.if_icmp .lt 17, 3) := by decide +kernel
theorem d1_9 : decode prog_14_method_1_code 9 = .ok (.iload_n 2, 1) := by decide +kernel
theorem d1_10 : decode prog_14_method_1_code 10 = .ok (.bipush 64, 2) := by decide +kernel
theorem d1_12 : decode prog_14_method_1_code 12 = .ok (.if_icmp .gt 11, 3) := by decide +kernel
theorem d1_15 : decode prog_14_method_1_code 15 = .ok (.iload_n 2, 1) := by decide +kernel
theorem d1_16 : decode prog_14_method_1_code 16 = .ok (.invokestatic 11, 3) := by decide +kernel
theorem pd_0 : parseMethodDescriptor "(I)I" = some ⟨[.int], some .int⟩ := by decide +kernel
theorem d1_19 : decode prog_14_method_1_code 19 = .ok (.iconst 1, 1) := by decide +kernel
theorem d1_20 : decode prog_14_method_1_code 20 = .ok (.if_icmp .eq 17, 3) := by decide +kernel
theorem d1_37 : decode prog_14_method_1_code 37 = .ok (.aload_n 0, 1) := by decide +kernel
theorem d1_38 : decode prog_14_method_1_code 38 = .ok (.iload_n 2, 1) := by decide +kernel
theorem d1_39 : decode prog_14_method_1_code 39 = .ok (.putfield 26, 3) := by decide +kernel
theorem d1_42 : decode prog_14_method_1_code 42 = .ok (.aload_n 0, 1) := by decide +kernel
theorem d1_43 : decode prog_14_method_1_code 43 = .ok (.iload_n 2, 1) := by decide +kernel
theorem d1_44 : decode prog_14_method_1_code 44 = .ok (.invokestatic 30, 3) := by decide +kernel
theorem d1_47 : decode prog_14_method_1_code 47 = .ok (.putfield 33, 3) := by decide +kernel
theorem d1_50 : decode prog_14_method_1_code 50 = .ok (.aload_n 0, 1) := by decide +kernel
theorem d1_51 : decode prog_14_method_1_code 51 = .ok (.iload_n 1, 1) := by decide +kernel
theorem d1_52 : decode prog_14_method_1_code 52 = .ok (.iload_n 2, 1) := by decide +kernel
theorem d1_53 : decode prog_14_method_1_code 53 = .ok (.invokestatic 36, 3) := by decide +kernel
theorem pd_1 : parseMethodDescriptor "(II)J" = some ⟨[.int, .int], some .long⟩ := by decide +kernel
theorem d1_56 : decode prog_14_method_1_code 56 = .ok (.ldc2_w 40, 3) := by decide +kernel
theorem d1_59 : decode prog_14_method_1_code 59 = .ok (.ldiv, 1) := by decide +kernel
theorem d1_60 : decode prog_14_method_1_code 60 = .ok (.l2i, 1) := by decide +kernel
theorem d1_61 : decode prog_14_method_1_code 61 = .ok (.newarray .long, 2) := by decide +kernel
theorem d1_63 : decode prog_14_method_1_code 63 = .ok (.putfield 42, 3) := by decide +kernel
theorem d1_66 : decode prog_14_method_1_code 66 = .ok (.return_, 1) := by decide +kernel
theorem ef_1 (a0 : Addr) (p1 : Int32) (p2 : Int32) : ∀ m : MethodId, entryFrame m #[(.ref a0), (.int p1), (.int p2)] 3 = mkF m 0 #[.val (.ref a0), .val (.int p1), .val (.int p2)] [] := by intro m; first | (simp [entryFrame, mkF, argsToLocals, Value.category]; done) | rfl
set_option maxRecDepth 65536 in
set_option maxHeartbeats 40000000 in
theorem rm1 (l : Launch) (Z : State) (az : Array Value) (hw : ∀ d ∈ tables_1, d.before az Z = true) (ws : List Jvm.Cond) (a0 : Addr) (p1 : Int32) (p2 : Int32) (w_a0_lanes : Int32) (w_a0_laneShift : Int32) (w_a0_words : Value) (w_a0_inUse : Int64) (w_a0_dirty : Int64) (h0 : Heap) (n0 : Nat) (Z0 : n0 ≤ h0.size) (E_a0 : Exa Z h0 a0 "com/example/dayflower/dayflower/filter/FilterSlab") (F_a0_lanes : Fld Z h0 a0 "com/example/dayflower/dayflower/filter/FilterSlab" "lanes" "I" (.int w_a0_lanes)) (ge_a0 : n0 ≤ a0) (F_a0_laneShift : Fld Z h0 a0 "com/example/dayflower/dayflower/filter/FilterSlab" "laneShift" "I" (.int w_a0_laneShift)) (F_a0_words : Fld Z h0 a0 "com/example/dayflower/dayflower/filter/FilterSlab" "words" "[J" w_a0_words) (F_a0_inUse : Fld Z h0 a0 "com/example/dayflower/dayflower/filter/FilterSlab" "inUse" "J" (.long w_a0_inUse)) (F_a0_dirty : Fld Z h0 a0 "com/example/dayflower/dayflower/filter/FilterSlab" "dirty" "J" (.long w_a0_dirty)) (ob_0 : ¬ (p2 < (1 : Int32))) (ob_1 : ¬ ((64 : Int32) < p2)) (ob_2 : (F_bitCount p2) = (1 : Int32)) (ob_3 : ¬ (Int64.toInt32 ((F_bytes p1 p2) / (8 : Int64))) < (0 : Int32) ∧ (Int32.toNatClampNeg (Int64.toInt32 ((F_bytes p1 p2) / (8 : Int64)))) ≤ 64) :
    Met l (⟨"com/example/dayflower/dayflower/filter/FilterSlab", "<init>", "(II)V"⟩ : MethodName) prog_14_method_1_code 3 none ws ({ frames := 1, cells := 1, slots := 64, locals := 16 } : Room) Z #[(.ref a0), (.int p1), (.int p2)] h0 (fun v h' L => ∃ b297 : Addr, n0 ≤ b297 ∧ h0.size ≤ b297 ∧ v = none ∧ Fr n0 L ∧ Keep h0 h' [a0] ∧ Fld Z h' a0 "com/example/dayflower/dayflower/filter/FilterSlab" "dirty" "J" (.long w_a0_dirty) ∧ Fld Z h' a0 "com/example/dayflower/dayflower/filter/FilterSlab" "inUse" "J" (.long w_a0_inUse) ∧ Fld Z h' a0 "com/example/dayflower/dayflower/filter/FilterSlab" "laneShift" "I" (.int (F_numberOfTrailingZeros p2)) ∧ Fld Z h' a0 "com/example/dayflower/dayflower/filter/FilterSlab" "lanes" "I" (.int p2) ∧ Fld Z h' a0 "com/example/dayflower/dayflower/filter/FilterSlab" "words" "[J" (.ref b297) ∧ Ary Z h' b297 .long (Int32.toNatClampNeg (Int64.toInt32 ((F_bytes p1 p2) / (8 : Int64)))) (fun i => Value.long ((fun _ => (0 : Int64)) i))) := by
  refine enter (plainFor_of_name pn_1) (ef_1 a0 p1 p2) ?_
  intro p e s m below meth c T0 kc kn Q hkc hkn hQ K' X0 e0
  have K : Fx p s m meth c prog_14_method_1_code 3 "com/example/dayflower/dayflower/filter/FilterSlab" "<init>" none Z := K'
  have N0 := Fr.nil n0
  have K0 : Keep h0 h0 [a0] := Keep.refl _ _
  refine k_aloadN K X0 d1_0 rfl rfl (q := 1) rfl ?_
  refine k_initO K X0 e0 d1_1 (wd hw 8 rfl) (wd hw 9 rfl) (wd hw 10 rfl) rfl (by decide) (W := 0) (Nat.le_of_eq rfl) (by decide) (q := 4) rfl ?_
  intro T255 X256 e257
  refine k_iloadN K X256 d1_4 rfl (q := 5) rfl ?_
  refine k_iconst K X256 d1_5 (v := (1 : Int32)) rfl (q := 6) rfl ?_
  refine k_icmp_lt_n K X256 d1_6 (ob_0) (q := 9) rfl ?_
  refine k_iloadN K X256 d1_9 rfl (q := 10) rfl ?_
  refine k_bipush K X256 d1_10 (v := (64 : Int32)) rfl (q := 12) rfl ?_
  refine k_icmp_gt_n K X256 d1_12 (ob_1) (q := 15) rfl ?_
  refine k_iloadN K X256 d1_15 rfl (q := 16) rfl ?_
  refine k_staticP K X256 e257 d1_16 (wd hw 11 rfl) (wd hw 12 rfl) (wd hw 13 rfl) (wd hw 14 rfl) (by decide) (rm3 l Z az hw [] p2 h0) (W := 0) (by decide) (by decide) (by decide) (by decide) rfl pd_0 (argsL := [(.int p2)]) (rest := []) rfl rfl rfl (Nat.le_of_eq rfl) (q := 19) rfl ?_
  intro T258 X259 e260
  refine k_iconst K X259 d1_19 (v := (1 : Int32)) rfl (q := 20) rfl ?_
  refine k_icmp_eq_y K X259 d1_20 (ob_2) (by decide) (q := 37) rfl ?_
  refine k_aloadN K X259 d1_37 rfl rfl (q := 38) rfl ?_
  refine k_iloadN K X259 d1_38 rfl (q := 39) rfl ?_
  refine k_putfield K X259 e260 d1_39 (wd hw 18 rfl) F_a0_lanes E_a0 (Or.inr ⟨(wd hw 19 rfl), rfl, rfl⟩) (wd hw 3 rfl) (ty := .int) (by decide) rfl rfl (q := 42) rfl ?_
  intro T261 h262 X263 e264 W265
  have f266 := Fld.same W265 F_a0_lanes
  have f267 := Exa.wr W265 E_a0
  have f268 := Fld.other W265 F_a0_laneShift (Or.inr (slot_ne (Or.inr (wd hw 24 rfl)) (Or.inr (wd hw 19 rfl)) (by decide) (t := .int) (t' := .int) (by decide) (by decide)))
  have f269 := Fld.other W265 F_a0_words (Or.inr (slot_ne (Or.inr (wd hw 32 rfl)) (Or.inr (wd hw 19 rfl)) (by decide) (t := (.array .long)) (t' := .int) (by decide) (by decide)))
  have f270 := Fld.other W265 F_a0_inUse (Or.inr (slot_ne (Or.inl (wd hw 39 rfl)) (Or.inr (wd hw 19 rfl)) (by decide) (t := .long) (t' := .int) (by decide) (by decide)))
  have f271 := Fld.other W265 F_a0_dirty (Or.inr (slot_ne (Or.inl (wd hw 41 rfl)) (Or.inr (wd hw 19 rfl)) (by decide) (t := .long) (t' := .int) (by decide) (by decide)))
  have N272 := Fr.snoc X263 N0 ge_a0
  have K273 := Keep.wr K0 W265 (Or.inl (List.mem_of_getElem? (i := 0) rfl))
  have Z274 := Nat.le_trans Z0 (Nat.le_of_eq (Wr.size W265).symm)
  refine k_aloadN K X263 d1_42 rfl rfl (q := 43) rfl ?_
  refine k_iloadN K X263 d1_43 rfl (q := 44) rfl ?_
  refine k_staticP K X263 e264 d1_44 (wd hw 20 rfl) (wd hw 21 rfl) (wd hw 13 rfl) (wd hw 22 rfl) (by decide) (rm4 l Z az hw [] p2 h262) (W := 1) (by decide) (by decide) (by decide) (by decide) rfl pd_0 (argsL := [(.int p2)]) (rest := [(.ref a0)]) rfl rfl rfl (Nat.le_of_eq rfl) (q := 47) rfl ?_
  intro T275 X276 e277
  refine k_putfield K X276 e277 d1_47 (wd hw 23 rfl) f268 f267 (Or.inr ⟨(wd hw 24 rfl), rfl, rfl⟩) (wd hw 3 rfl) (ty := .int) (by decide) rfl rfl (q := 50) rfl ?_
  intro T278 h279 X280 e281 W282
  have f283 := Fld.same W282 f268
  have f284 := Exa.wr W282 f267
  have f285 := Fld.other W282 f269 (Or.inr (slot_ne (Or.inr (wd hw 32 rfl)) (Or.inr (wd hw 24 rfl)) (by decide) (t := (.array .long)) (t' := .int) (by decide) (by decide)))
  have f286 := Fld.other W282 f270 (Or.inr (slot_ne (Or.inl (wd hw 39 rfl)) (Or.inr (wd hw 24 rfl)) (by decide) (t := .long) (t' := .int) (by decide) (by decide)))
  have f287 := Fld.other W282 f271 (Or.inr (slot_ne (Or.inl (wd hw 41 rfl)) (Or.inr (wd hw 24 rfl)) (by decide) (t := .long) (t' := .int) (by decide) (by decide)))
  have f288 := Fld.other W282 f266 (Or.inr (slot_ne (Or.inr (wd hw 19 rfl)) (Or.inr (wd hw 24 rfl)) (by decide) (t := .int) (t' := .int) (by decide) (by decide)))
  have N289 := Fr.snoc X280 N272 ge_a0
  have K290 := Keep.wr K273 W282 (Or.inl (List.mem_of_getElem? (i := 0) rfl))
  have Z291 := Nat.le_trans Z274 (Nat.le_of_eq (Wr.size W282).symm)
  refine k_aloadN K X280 d1_50 rfl rfl (q := 51) rfl ?_
  refine k_iloadN K X280 d1_51 rfl (q := 52) rfl ?_
  refine k_iloadN K X280 d1_52 rfl (q := 53) rfl ?_
  refine k_staticP K X280 e281 d1_53 (wd hw 25 rfl) (wd hw 26 rfl) (wd hw 4 rfl) (wd hw 27 rfl) (by decide) (rm5 l Z az hw [] p1 p2 h279) (W := 1) (by decide) (by decide) (by decide) (by decide) rfl pd_1 (argsL := [(.int p1), (.int p2)]) (rest := [(.ref a0)]) rfl rfl rfl (Nat.le_of_eq rfl) (q := 56) rfl ?_
  intro T292 X293 e294
  refine k_ldc2 K X293 d1_56 (wd hw 29 rfl) (q := 59) rfl ?_
  refine k_ldiv K X293 d1_59 (by decide) (q := 60) rfl ?_
  refine k_l2i K X293 d1_60 (q := 61) rfl ?_
  refine k_newarray K X293 e294 d1_61 (ty := .long) rfl (wd hw 30 rfl) (n := (Int32.toNatClampNeg (Int64.toInt32 ((F_bytes p1 p2) / (8 : Int64))))) (cap := 64) ⟨((ob_3)).1, rfl⟩ ((ob_3)).2 (by decide) (by decide) (by decide) (q := 63) rfl ?_
  intro T295 h296 b297 X298 e299 g300 E301 A302 
  have ne303 : a0 ≠ b297 := Nat.ne_of_lt (Nat.lt_of_lt_of_eq (f284).lt g300.symm)
  have ge304 : n0 ≤ b297 := Nat.le_trans Z291 (Nat.le_of_eq g300.symm)
  have bn305 : h0.size ≤ b297 := Nat.le_trans K290.1 (Nat.le_of_eq g300.symm)
  have f306 := Exa.ext E301 f284
  have f307 := Fld.ext E301 f285
  have f308 := Fld.ext E301 f286
  have f309 := Fld.ext E301 f287
  have f310 := Fld.ext E301 f288
  have f311 := Fld.ext E301 f283
  have K312 := Keep.ext K290 E301
  have Z313 := Nat.le_trans Z291 E301.1
  have f314 : Ary Z h296 b297 .long (Int32.toNatClampNeg (Int64.toInt32 ((F_bytes p1 p2) / (8 : Int64)))) (fun i => Value.long ((fun _ => (0 : Int64)) i)) := A302
  refine k_putfield K X298 e299 d1_63 (wd hw 31 rfl) f307 f306 (Or.inr ⟨(wd hw 32 rfl), rfl, rfl⟩) (wd hw 3 rfl) (ty := (.array .long)) (by decide) rfl rfl (q := 66) rfl ?_
  intro T315 h316 X317 e318 W319
  have f320 := Fld.same W319 f307
  have f321 := Exa.wr W319 f306
  have f322 := Fld.other W319 f308 (Or.inr (slot_ne (Or.inl (wd hw 39 rfl)) (Or.inr (wd hw 32 rfl)) (by decide) (t := .long) (t' := (.array .long)) (by decide) (by decide)))
  have f323 := Fld.other W319 f309 (Or.inr (slot_ne (Or.inl (wd hw 41 rfl)) (Or.inr (wd hw 32 rfl)) (by decide) (t := .long) (t' := (.array .long)) (by decide) (by decide)))
  have f324 := Fld.other W319 f310 (Or.inr (slot_ne (Or.inr (wd hw 19 rfl)) (Or.inr (wd hw 32 rfl)) (by decide) (t := .int) (t' := (.array .long)) (by decide) (by decide)))
  have f325 := Fld.other W319 f311 (Or.inr (slot_ne (Or.inr (wd hw 24 rfl)) (Or.inr (wd hw 32 rfl)) (by decide) (t := .int) (t' := (.array .long)) (by decide) (by decide)))
  have f326 := Ary.other f314 W319 (Ne.symm ne303)
  have N327 := Fr.snoc X317 N289 ge_a0
  have K328 := Keep.wr K312 W319 (Or.inl (List.mem_of_getElem? (i := 0) rfl))
  have Z329 := Nat.le_trans Z313 (Nat.le_of_eq (Wr.size W319).symm)
  exact k_retv K X317 e318 d1_66 (Nat.le_trans (by decide) hkc) (Nat.le_trans (by decide) hkn) (hQ _ _ _ ⟨b297, ge304, bn305, rfl, N327, K328, f323, f322, f325, f324, f320, f326⟩)
theorem d6_0 : decode prog_14_method_6_code 0 = .ok (.lconst 1, 1) := by decide +kernel
theorem d6_1 : decode prog_14_method_6_code 1 = .ok (.iload_n 1, 1) := by decide +kernel
theorem d6_2 : decode prog_14_method_6_code 2 = .ok (.lshl, 1) := by decide +kernel
theorem d6_3 : decode prog_14_method_6_code 3 = .ok (.lstore_n 2, 1) := by decide +kernel
theorem d6_4 : decode prog_14_method_6_code 4 = .ok (.aload_n 0, 1) := by decide +kernel
theorem d6_5 : decode prog_14_method_6_code 5 = .ok (.getfield 48, 3) := by decide +kernel
theorem d6_8 : decode prog_14_method_6_code 8 = .ok (.lload_n 2, 1) := by decide +kernel
theorem d6_9 : decode prog_14_method_6_code 9 = .ok (.land, 1) := by decide +kernel
theorem d6_10 : decode prog_14_method_6_code 10 = .ok (.lconst 0, 1) := by decide +kernel
theorem d6_11 : decode prog_14_method_6_code 11 = .ok (.lcmp, 1) := by decide +kernel
theorem d6_12 : decode prog_14_method_6_code 12 = .ok (.ifCond .eq 17, 3) := by decide +kernel
theorem d6_29 : decode prog_14_method_6_code 29 = .ok (.aload_n 0, 1) := by decide +kernel
theorem d6_30 : decode prog_14_method_6_code 30 = .ok (.getfield 56, 3) := by decide +kernel
theorem d6_33 : decode prog_14_method_6_code 33 = .ok (.lload_n 2, 1) := by decide +kernel
theorem d6_34 : decode prog_14_method_6_code 34 = .ok (.land, 1) := by decide +kernel
theorem d6_35 : decode prog_14_method_6_code 35 = .ok (.lconst 0, 1) := by decide +kernel
theorem d6_36 : decode prog_14_method_6_code 36 = .ok (.lcmp, 1) := by decide +kernel
theorem d6_37 : decode prog_14_method_6_code 37 = .ok (.ifCond .eq 53, 3) := by decide +kernel
theorem d6_90 : decode prog_14_method_6_code 90 = .ok (.aload_n 0, 1) := by decide +kernel
theorem d6_91 : decode prog_14_method_6_code 91 = .ok (.dup, 1) := by decide +kernel
theorem d6_92 : decode prog_14_method_6_code 92 = .ok (.getfield 48, 3) := by decide +kernel
theorem d6_95 : decode prog_14_method_6_code 95 = .ok (.lload_n 2, 1) := by decide +kernel
theorem d6_96 : decode prog_14_method_6_code 96 = .ok (.lor, 1) := by decide +kernel
theorem d6_97 : decode prog_14_method_6_code 97 = .ok (.putfield 48, 3) := by decide +kernel
theorem d6_100 : decode prog_14_method_6_code 100 = .ok (.return_, 1) := by decide +kernel
theorem ef_6 (a0 : Addr) (p1 : Int32) : ∀ m : MethodId, entryFrame m #[(.ref a0), (.int p1)] 7 = mkF m 0 #[.val (.ref a0), .val (.int p1), .unset, .unset, .unset, .unset, .unset] [] := by intro m; first | (simp [entryFrame, mkF, argsToLocals, Value.category]; done) | rfl
def F_take_a0_inUse (p1 : Int32) (w_a0_inUse : Int64) (w_a0_dirty : Int64) (w_a0_lanes : Int32) (w_a0_laneShift : Int32) : Int64 :=
  let v421 : Int64 := (shlL (1 : Int64) p1)
  (w_a0_inUse ||| v421)
set_option maxRecDepth 65536 in
set_option maxHeartbeats 40000000 in
theorem rm6 (l : Launch) (Z : State) (az : Array Value) (hw : ∀ d ∈ tables_1, d.before az Z = true) (ws : List Jvm.Cond) (a0 : Addr) (p1 : Int32) (w_a0_inUse : Int64) (w_a0_dirty : Int64) (w_a0_lanes : Int32) (w_a0_laneShift : Int32) (w_a0_words : Value) (h0 : Heap) (n0 : Nat) (Z0 : n0 ≤ h0.size) (F_a0_inUse : Fld Z h0 a0 "com/example/dayflower/dayflower/filter/FilterSlab" "inUse" "J" (.long w_a0_inUse)) (F_a0_dirty : Fld Z h0 a0 "com/example/dayflower/dayflower/filter/FilterSlab" "dirty" "J" (.long w_a0_dirty)) (E_a0 : Exa Z h0 a0 "com/example/dayflower/dayflower/filter/FilterSlab") (ge_a0 : n0 ≤ a0) (F_a0_lanes : Fld Z h0 a0 "com/example/dayflower/dayflower/filter/FilterSlab" "lanes" "I" (.int w_a0_lanes)) (F_a0_laneShift : Fld Z h0 a0 "com/example/dayflower/dayflower/filter/FilterSlab" "laneShift" "I" (.int w_a0_laneShift)) (F_a0_words : Fld Z h0 a0 "com/example/dayflower/dayflower/filter/FilterSlab" "words" "[J" w_a0_words) (ob_0 : ∀ (v421 : Int64), (shlL (1 : Int64) p1) = v421 → (w_a0_inUse &&& v421) = (0 : Int64)) (ob_1 : ∀ (v421 : Int64), (shlL (1 : Int64) p1) = v421 → (w_a0_dirty &&& v421) = (0 : Int64)) :
    Met l (⟨"com/example/dayflower/dayflower/filter/FilterSlab", "take", "(I)V"⟩ : MethodName) prog_14_method_6_code 7 none ws ({ frames := 0, cells := 0, slots := 0, locals := 0 } : Room) Z #[(.ref a0), (.int p1)] h0 (fun v h' L => v = none ∧ Fr n0 L ∧ Keep h0 h' [a0] ∧ Fld Z h' a0 "com/example/dayflower/dayflower/filter/FilterSlab" "dirty" "J" (.long w_a0_dirty) ∧ Fld Z h' a0 "com/example/dayflower/dayflower/filter/FilterSlab" "inUse" "J" (.long (F_take_a0_inUse p1 w_a0_inUse w_a0_dirty w_a0_lanes w_a0_laneShift)) ∧ Fld Z h' a0 "com/example/dayflower/dayflower/filter/FilterSlab" "laneShift" "I" (.int w_a0_laneShift) ∧ Fld Z h' a0 "com/example/dayflower/dayflower/filter/FilterSlab" "lanes" "I" (.int w_a0_lanes) ∧ Fld Z h' a0 "com/example/dayflower/dayflower/filter/FilterSlab" "words" "[J" w_a0_words) := by
  refine enter (plainFor_of_name pn_1) (ef_6 a0 p1) ?_
  intro p e s m below meth c T0 kc kn Q hkc hkn hQ K' X0 e0
  have K : Fx p s m meth c prog_14_method_6_code 7 "com/example/dayflower/dayflower/filter/FilterSlab" "take" none Z := K'
  have N0 := Fr.nil n0
  have K0 : Keep h0 h0 [a0] := Keep.refl _ _
  refine k_lconst1 K X0 d6_0 (q := 1) rfl ?_
  refine k_iloadN K X0 d6_1 rfl (q := 2) rfl ?_
  refine k_lshl K X0 d6_2 (q := 3) rfl ?_
  obtain ⟨v421, hv_v421⟩ : ∃ z : Int64, (shlL (1 : Int64) p1) = z := ⟨_, rfl⟩
  refine k_lstoreN K X0 d6_3 hv_v421 (Ls' := #[.val (.ref a0), .val (.int p1), .val (.long v421), .second, .unset, .unset, .unset]) rfl (q := 4) rfl ?_
  refine k_aloadN K X0 d6_4 rfl rfl (q := 5) rfl ?_
  refine k_getfield K X0 e0 d6_5 (wd hw 38 rfl) F_a0_inUse (q := 8) rfl ?_
  intro T422 X423 e424
  refine k_lloadN K X423 d6_8 rfl (q := 9) rfl ?_
  refine k_land K X423 d6_9 (q := 10) rfl ?_
  refine k_lconst0 K X423 d6_10 (q := 11) rfl ?_
  refine k_lcmp K X423 d6_11 (q := 12) rfl ?_
  refine k_lcmp_eq_y K X423 d6_12 (ob_0 v421 hv_v421) (by decide) (q := 29) rfl ?_
  refine k_aloadN K X423 d6_29 rfl rfl (q := 30) rfl ?_
  refine k_getfield K X423 e424 d6_30 (wd hw 40 rfl) F_a0_dirty (q := 33) rfl ?_
  intro T425 X426 e427
  refine k_lloadN K X426 d6_33 rfl (q := 34) rfl ?_
  refine k_land K X426 d6_34 (q := 35) rfl ?_
  refine k_lconst0 K X426 d6_35 (q := 36) rfl ?_
  refine k_lcmp K X426 d6_36 (q := 37) rfl ?_
  refine k_lcmp_eq_y K X426 d6_37 (ob_1 v421 hv_v421) (by decide) (q := 90) rfl ?_
  refine k_aloadN K X426 d6_90 rfl rfl (q := 91) rfl ?_
  refine k_dup K X426 d6_91 rfl (q := 92) rfl ?_
  refine k_getfield K X426 e427 d6_92 (wd hw 38 rfl) F_a0_inUse (q := 95) rfl ?_
  intro T428 X429 e430
  refine k_lloadN K X429 d6_95 rfl (q := 96) rfl ?_
  refine k_lor K X429 d6_96 (q := 97) rfl ?_
  refine k_putfield K X429 e430 d6_97 (wd hw 38 rfl) F_a0_inUse E_a0 (Or.inl (wd hw 39 rfl)) (wd hw 3 rfl) (ty := .long) (by decide) rfl rfl (q := 100) rfl ?_
  intro T431 h432 X433 e434 W435
  have f436 := Fld.same W435 F_a0_inUse
  have f437 := Fld.other W435 F_a0_dirty (Or.inr (slot_ne (Or.inl (wd hw 41 rfl)) (Or.inl (wd hw 39 rfl)) (by decide) (t := .long) (t' := .long) (by decide) (by decide)))
  have f438 := Exa.wr W435 E_a0
  have f439 := Fld.other W435 F_a0_lanes (Or.inr (slot_ne (Or.inr (wd hw 19 rfl)) (Or.inl (wd hw 39 rfl)) (by decide) (t := .int) (t' := .long) (by decide) (by decide)))
  have f440 := Fld.other W435 F_a0_laneShift (Or.inr (slot_ne (Or.inr (wd hw 24 rfl)) (Or.inl (wd hw 39 rfl)) (by decide) (t := .int) (t' := .long) (by decide) (by decide)))
  have f441 := Fld.other W435 F_a0_words (Or.inr (slot_ne (Or.inr (wd hw 32 rfl)) (Or.inl (wd hw 39 rfl)) (by decide) (t := (.array .long)) (t' := .long) (by decide) (by decide)))
  have N442 := Fr.snoc X433 N0 ge_a0
  have K443 := Keep.wr K0 W435 (Or.inl (List.mem_of_getElem? (i := 0) rfl))
  have Z444 := Nat.le_trans Z0 (Nat.le_of_eq (Wr.size W435).symm)
  exact k_retv K X433 e434 d6_100 (Nat.le_trans (by decide) hkc) (Nat.le_trans (by decide) hkn) (hQ _ _ _ ⟨rfl, N442, K443, f437, (by rw [(show F_take_a0_inUse p1 w_a0_inUse w_a0_dirty w_a0_lanes w_a0_laneShift = (w_a0_inUse ||| v421) from by first | (simp only [F_take_a0_inUse, hv_v421]; done) | (subst hv_v421; simp only [F_take_a0_inUse]))]; exact f436), f440, f439, f441⟩)
theorem d7_0 : decode prog_14_method_4_code 0 = .ok (.aload_n 1, 1) := by decide +kernel
theorem d7_1 : decode prog_14_method_4_code 1 = .ok (.astore 4, 2) := by decide +kernel
theorem d7_3 : decode prog_14_method_4_code 3 = .ok (.aload 4, 2) := by decide +kernel
theorem d7_5 : decode prog_14_method_4_code 5 = .ok (.arraylength, 1) := by decide +kernel
theorem d7_6 : decode prog_14_method_4_code 6 = .ok (.istore 5, 2) := by decide +kernel
theorem d7_8 : decode prog_14_method_4_code 8 = .ok (.iconst 0, 1) := by decide +kernel
theorem d7_9 : decode prog_14_method_4_code 9 = .ok (.istore 6, 2) := by decide +kernel
theorem d7_11 : decode prog_14_method_4_code 11 = .ok (.iload 6, 2) := by decide +kernel
theorem d7_13 : decode prog_14_method_4_code 13 = .ok (.iload 5, 2) := by decide +kernel
theorem d7_15 : decode prog_14_method_4_code 15 = .ok (.if_icmp .ge 45, 3) := by decide +kernel
theorem d7_18 : decode prog_14_method_4_code 18 = .ok (.aload 4, 2) := by decide +kernel
theorem d7_20 : decode prog_14_method_4_code 20 = .ok (.iload 6, 2) := by decide +kernel
theorem d7_22 : decode prog_14_method_4_code 22 = .ok (.iaload, 1) := by decide +kernel
theorem d7_23 : decode prog_14_method_4_code 23 = .ok (.istore 7, 2) := by decide +kernel
theorem d7_25 : decode prog_14_method_4_code 25 = .ok (.iload 7, 2) := by decide +kernel
theorem d7_27 : decode prog_14_method_4_code 27 = .ok (.i2l, 1) := by decide +kernel
theorem d7_28 : decode prog_14_method_4_code 28 = .ok (.aload_n 0, 1) := by decide +kernel
theorem d7_29 : decode prog_14_method_4_code 29 = .ok (.getfield 33, 3) := by decide +kernel
theorem d7_32 : decode prog_14_method_4_code 32 = .ok (.lshl, 1) := by decide +kernel
theorem d7_33 : decode prog_14_method_4_code 33 = .ok (.lstore 8, 2) := by decide +kernel
theorem d7_35 : decode prog_14_method_4_code 35 = .ok (.aload_n 0, 1) := by decide +kernel
theorem d7_36 : decode prog_14_method_4_code 36 = .ok (.getfield 42, 3) := by decide +kernel
theorem d7_39 : decode prog_14_method_4_code 39 = .ok (.lload 8, 2) := by decide +kernel
theorem d7_41 : decode prog_14_method_4_code 41 = .ok (.bipush 6, 2) := by decide +kernel
theorem d7_43 : decode prog_14_method_4_code 43 = .ok (.lushr, 1) := by decide +kernel
theorem d7_44 : decode prog_14_method_4_code 44 = .ok (.l2i, 1) := by decide +kernel
theorem d7_45 : decode prog_14_method_4_code 45 = .ok (.dup2, 1) := by decide +kernel
theorem d7_46 : decode prog_14_method_4_code 46 = .ok (.laload, 1) := by decide +kernel
theorem d7_47 : decode prog_14_method_4_code 47 = .ok (.lload_n 2, 1) := by decide +kernel
theorem d7_48 : decode prog_14_method_4_code 48 = .ok (.lload 8, 2) := by decide +kernel
theorem d7_50 : decode prog_14_method_4_code 50 = .ok (.l2i, 1) := by decide +kernel
theorem d7_51 : decode prog_14_method_4_code 51 = .ok (.lshl, 1) := by decide +kernel
theorem d7_52 : decode prog_14_method_4_code 52 = .ok (.lor, 1) := by decide +kernel
theorem d7_53 : decode prog_14_method_4_code 53 = .ok (.lastore, 1) := by decide +kernel
theorem d7_54 : decode prog_14_method_4_code 54 = .ok (.iinc 6 1, 3) := by decide +kernel
theorem d7_57 : decode prog_14_method_4_code 57 = .ok (.goto (-46), 3) := by decide +kernel
theorem d7_60 : decode prog_14_method_4_code 60 = .ok (.return_, 1) := by decide +kernel
theorem ef_71 (a0 : Addr) (a1 : Addr) (q2 : Int64) : ∀ m : MethodId, entryFrame m #[(.ref a0), (.ref a1), (.long q2)] 10 = mkF m 0 #[.val (.ref a0), .val (.ref a1), .val (.long q2), .second, .unset, .unset, .unset, .unset, .unset, .unset] [] := by intro m; first | (simp [entryFrame, mkF, argsToLocals, Value.category]; done) | rfl
def F_add1_w_a0_words_g (q2 : Int64) (s_a1_0 : Int32) (w_a0_laneShift : Int32) (n_w_a0_words : Nat) (g_w_a0_words : Nat → Int64) : Nat → Int64 :=
  let v500 : Int64 := (shlL (Int32.toInt64 s_a1_0) w_a0_laneShift)
  let v504 : Int64 := (g_w_a0_words (Int32.toNatClampNeg (Int64.toInt32 (ushrL v500 (6 : Int32)))))
  let v505 : Nat → Int64 := (upd g_w_a0_words (Int32.toNatClampNeg (Int64.toInt32 (ushrL v500 (6 : Int32)))) (v504 ||| (shlL q2 (Int64.toInt32 v500))))
  v505
set_option maxRecDepth 65536 in
set_option maxHeartbeats 40000000 in
theorem rm71 (l : Launch) (Z : State) (az : Array Value) (hw : ∀ d ∈ tables_1, d.before az Z = true) (ws : List Jvm.Cond) (a0 : Addr) (a1 : Addr) (q2 : Int64) (s_a1_0 : Int32) (w_a0_laneShift : Int32) (w_a0_words : Addr) (n_w_a0_words : Nat) (g_w_a0_words : Nat → Int64) (h0 : Heap) (n0 : Nat) (Z0 : n0 ≤ h0.size) (A_a1 : Ary Z h0 a1 .int 1 (fun i => Value.int (List.getD [s_a1_0] i 0))) (F_a0_laneShift : Fld Z h0 a0 "com/example/dayflower/dayflower/filter/FilterSlab" "laneShift" "I" (.int w_a0_laneShift)) (F_a0_words : Fld Z h0 a0 "com/example/dayflower/dayflower/filter/FilterSlab" "words" "[J" (.ref w_a0_words)) (A_w_a0_words : Ary Z h0 w_a0_words .long n_w_a0_words (fun i => Value.long (g_w_a0_words i))) (ge_w_a0_words : n0 ≤ w_a0_words) (ne_a1_w_a0_words : a1 ≠ w_a0_words) (ne_a0_w_a0_words : a0 ≠ w_a0_words) (ob_0 : ∀ (v500 : Int64), (shlL (Int32.toInt64 s_a1_0) w_a0_laneShift) = v500 → ¬ (Int64.toInt32 (ushrL v500 (6 : Int32))) < (0 : Int32) ∧ Int32.toNatClampNeg (Int64.toInt32 (ushrL v500 (6 : Int32))) < n_w_a0_words) :
    Met l (⟨"com/example/dayflower/dayflower/filter/FilterSlab", "add", "([IJ)V"⟩ : MethodName) prog_14_method_4_code 10 none ws ({ frames := 0, cells := 0, slots := 0, locals := 0 } : Room) Z #[(.ref a0), (.ref a1), (.long q2)] h0 (fun v h' L => v = none ∧ Fr n0 L ∧ Keep h0 h' [w_a0_words] ∧ Ary Z h' w_a0_words .long n_w_a0_words (fun i => Value.long ((F_add1_w_a0_words_g q2 s_a1_0 w_a0_laneShift n_w_a0_words g_w_a0_words) i))) := by
  refine enter (plainFor_of_name pn_1) (ef_71 a0 a1 q2) ?_
  intro p e s m below meth c T0 kc kn Q hkc hkn hQ K' X0 e0
  have K : Fx p s m meth c prog_14_method_4_code 10 "com/example/dayflower/dayflower/filter/FilterSlab" "add" none Z := K'
  have N0 := Fr.nil n0
  have K0 : Keep h0 h0 [w_a0_words] := Keep.refl _ _
  refine k_aloadN K X0 d7_0 rfl rfl (q := 1) rfl ?_
  refine k_astore K X0 d7_1 rfl (Ls' := #[.val (.ref a0), .val (.ref a1), .val (.long q2), .second, .val (.ref a1), .unset, .unset, .unset, .unset, .unset]) rfl (q := 3) rfl ?_
  refine k_aload K X0 d7_3 rfl rfl (q := 5) rfl ?_
  refine k_arraylength K X0 e0 d7_5 A_a1 (v := (1 : Int32)) rfl (q := 6) rfl ?_
  refine k_istore K X0 d7_6 rfl (Ls' := #[.val (.ref a0), .val (.ref a1), .val (.long q2), .second, .val (.ref a1), .val (.int (1 : Int32)), .unset, .unset, .unset, .unset]) rfl (q := 8) rfl ?_
  refine k_iconst K X0 d7_8 (v := (0 : Int32)) rfl (q := 9) rfl ?_
  refine k_istore K X0 d7_9 rfl (Ls' := #[.val (.ref a0), .val (.ref a1), .val (.long q2), .second, .val (.ref a1), .val (.int (1 : Int32)), .val (.int (0 : Int32)), .unset, .unset, .unset]) rfl (q := 11) rfl ?_
  refine k_iload K X0 d7_11 rfl (q := 13) rfl ?_
  refine k_iload K X0 d7_13 rfl (q := 15) rfl ?_
  refine k_icmp_ge_n K X0 d7_15 (by decide) (q := 18) rfl ?_
  refine k_aload K X0 d7_18 rfl rfl (q := 20) rfl ?_
  refine k_iload K X0 d7_20 rfl (q := 22) rfl ?_
  refine k_iaload K X0 e0 d7_22 A_a1 (i := 0) (v := (.int s_a1_0)) (by decide) (by decide) rfl (q := 23) rfl ?_
  refine k_istore K X0 d7_23 rfl (Ls' := #[.val (.ref a0), .val (.ref a1), .val (.long q2), .second, .val (.ref a1), .val (.int (1 : Int32)), .val (.int (0 : Int32)), .val (.int s_a1_0), .unset, .unset]) rfl (q := 25) rfl ?_
  refine k_iload K X0 d7_25 rfl (q := 27) rfl ?_
  refine k_i2l K X0 d7_27 (q := 28) rfl ?_
  refine k_aloadN K X0 d7_28 rfl rfl (q := 29) rfl ?_
  refine k_getfield K X0 e0 d7_29 (wd hw 23 rfl) F_a0_laneShift (q := 32) rfl ?_
  intro T497 X498 e499
  refine k_lshl K X498 d7_32 (q := 33) rfl ?_
  obtain ⟨v500, hv_v500⟩ : ∃ z : Int64, (shlL (Int32.toInt64 s_a1_0) w_a0_laneShift) = z := ⟨_, rfl⟩
  refine k_lstore K X498 d7_33 hv_v500 (Ls' := #[.val (.ref a0), .val (.ref a1), .val (.long q2), .second, .val (.ref a1), .val (.int (1 : Int32)), .val (.int (0 : Int32)), .val (.int s_a1_0), .val (.long v500), .second]) rfl (q := 35) rfl ?_
  refine k_aloadN K X498 d7_35 rfl rfl (q := 36) rfl ?_
  refine k_getfield K X498 e499 d7_36 (wd hw 31 rfl) F_a0_words (q := 39) rfl ?_
  intro T501 X502 e503
  refine k_lload K X502 d7_39 rfl (q := 41) rfl ?_
  refine k_bipush K X502 d7_41 (v := (6 : Int32)) rfl (q := 43) rfl ?_
  refine k_lushr K X502 d7_43 (q := 44) rfl ?_
  refine k_l2i K X502 d7_44 (q := 45) rfl ?_
  refine k_dup2 K X502 d7_45 rfl rfl (q := 46) rfl ?_
  refine k_laload K X502 e503 d7_46 A_w_a0_words (i := (Int32.toNatClampNeg (Int64.toInt32 (ushrL v500 (6 : Int32))))) (v := (.long (g_w_a0_words (Int32.toNatClampNeg (Int64.toInt32 (ushrL v500 (6 : Int32))))))) ⟨((ob_0 v500 hv_v500)).1, rfl⟩ ((ob_0 v500 hv_v500)).2 rfl (q := 47) rfl ?_
  obtain ⟨v504, hv_v504⟩ : ∃ z : Int64, (g_w_a0_words (Int32.toNatClampNeg (Int64.toInt32 (ushrL v500 (6 : Int32))))) = z := ⟨_, rfl⟩
  refine k_nameJ hv_v504 ?_
  refine k_lloadN K X502 d7_47 rfl (q := 48) rfl ?_
  refine k_lload K X502 d7_48 rfl (q := 50) rfl ?_
  refine k_l2i K X502 d7_50 (q := 51) rfl ?_
  refine k_lshl K X502 d7_51 (q := 52) rfl ?_
  refine k_lor K X502 d7_52 (q := 53) rfl ?_
  obtain ⟨v505, hv_v505⟩ : ∃ z : Nat → Int64, (upd g_w_a0_words (Int32.toNatClampNeg (Int64.toInt32 (ushrL v500 (6 : Int32)))) (v504 ||| (shlL q2 (Int64.toInt32 v500)))) = z := ⟨_, rfl⟩
  refine k_lastore K X502 e503 d7_53 A_w_a0_words (i := (Int32.toNatClampNeg (Int64.toInt32 (ushrL v500 (6 : Int32))))) ⟨((ob_0 v500 hv_v500)).1, rfl⟩ ((ob_0 v500 hv_v500)).2 (q := 54) rfl ?_
  intro T506 h507 X508 e509 W510 A511
  have f512 : Ary Z h507 w_a0_words .long n_w_a0_words (fun i => Value.long (v505 i)) := Ary.eqv A511 (fun k _ => by rw [← hv_v505]; show (if k = (Int32.toNatClampNeg (Int64.toInt32 (ushrL v500 (6 : Int32)))) then _ else _) = _; unfold upd; split <;> rfl)
  have f513 := Ary.other A_a1 W510 ne_a1_w_a0_words
  have f514 := Fld.other W510 F_a0_laneShift (Or.inl ne_a0_w_a0_words)
  have f515 := Fld.other W510 F_a0_words (Or.inl ne_a0_w_a0_words)
  have N516 := Fr.snoc X508 N0 ge_w_a0_words
  have K517 := Keep.wr K0 W510 (Or.inl (List.mem_of_getElem? (i := 0) rfl))
  have Z518 := Nat.le_trans Z0 (Nat.le_of_eq (Wr.size W510).symm)
  refine k_iinc K X508 d7_54 rfl (by decide) (Ls' := #[.val (.ref a0), .val (.ref a1), .val (.long q2), .second, .val (.ref a1), .val (.int (1 : Int32)), .val (.int (1 : Int32)), .val (.int s_a1_0), .val (.long v500), .second]) rfl (q := 57) rfl ?_
  refine k_goto K X508 d7_57 (by decide) (q := 11) rfl ?_
  refine k_iload K X508 d7_11 rfl (q := 13) rfl ?_
  refine k_iload K X508 d7_13 rfl (q := 15) rfl ?_
  refine k_icmp_ge_y K X508 d7_15 (by decide) (by decide) (q := 60) rfl ?_
  exact k_retv K X508 e509 d7_60 (Nat.le_trans (by decide) hkc) (Nat.le_trans (by decide) hkn) (hQ _ _ _ ⟨rfl, N516, K517, (by rw [(show F_add1_w_a0_words_g q2 s_a1_0 w_a0_laneShift n_w_a0_words g_w_a0_words = v505 from by first | (simp only [F_add1_w_a0_words_g, hv_v500, hv_v504, hv_v505]; done) | (subst hv_v500; subst hv_v504; subst hv_v505; simp only [F_add1_w_a0_words_g]))]; exact f512)⟩)
theorem d9_0 : decode prog_14_method_3_code 0 = .ok (.aload_n 0, 1) := by decide +kernel
theorem d9_1 : decode prog_14_method_3_code 1 = .ok (.getfield 48, 3) := by decide +kernel
theorem d9_4 : decode prog_14_method_3_code 4 = .ok (.lstore_n 2, 1) := by decide +kernel
theorem d9_5 : decode prog_14_method_3_code 5 = .ok (.aload_n 1, 1) := by decide +kernel
theorem d9_6 : decode prog_14_method_3_code 6 = .ok (.astore 4, 2) := by decide +kernel
theorem d9_8 : decode prog_14_method_3_code 8 = .ok (.aload 4, 2) := by decide +kernel
theorem d9_10 : decode prog_14_method_3_code 10 = .ok (.arraylength, 1) := by decide +kernel
theorem d9_11 : decode prog_14_method_3_code 11 = .ok (.istore 5, 2) := by decide +kernel
theorem d9_13 : decode prog_14_method_3_code 13 = .ok (.iconst 0, 1) := by decide +kernel
theorem d9_14 : decode prog_14_method_3_code 14 = .ok (.istore 6, 2) := by decide +kernel
theorem d9_16 : decode prog_14_method_3_code 16 = .ok (.iload 6, 2) := by decide +kernel
theorem d9_18 : decode prog_14_method_3_code 18 = .ok (.iload 5, 2) := by decide +kernel
theorem d9_20 : decode prog_14_method_3_code 20 = .ok (.if_icmp .ge 53, 3) := by decide +kernel
theorem d9_23 : decode prog_14_method_3_code 23 = .ok (.aload 4, 2) := by decide +kernel
theorem d9_25 : decode prog_14_method_3_code 25 = .ok (.iload 6, 2) := by decide +kernel
theorem d9_27 : decode prog_14_method_3_code 27 = .ok (.iaload, 1) := by decide +kernel
theorem d9_28 : decode prog_14_method_3_code 28 = .ok (.istore 7, 2) := by decide +kernel
theorem d9_30 : decode prog_14_method_3_code 30 = .ok (.iload 7, 2) := by decide +kernel
theorem d9_32 : decode prog_14_method_3_code 32 = .ok (.i2l, 1) := by decide +kernel
theorem d9_33 : decode prog_14_method_3_code 33 = .ok (.aload_n 0, 1) := by decide +kernel
theorem d9_34 : decode prog_14_method_3_code 34 = .ok (.getfield 33, 3) := by decide +kernel
theorem d9_37 : decode prog_14_method_3_code 37 = .ok (.lshl, 1) := by decide +kernel
theorem d9_38 : decode prog_14_method_3_code 38 = .ok (.lstore 8, 2) := by decide +kernel
theorem d9_40 : decode prog_14_method_3_code 40 = .ok (.lload_n 2, 1) := by decide +kernel
theorem d9_41 : decode prog_14_method_3_code 41 = .ok (.aload_n 0, 1) := by decide +kernel
theorem d9_42 : decode prog_14_method_3_code 42 = .ok (.getfield 42, 3) := by decide +kernel
theorem d9_45 : decode prog_14_method_3_code 45 = .ok (.lload 8, 2) := by decide +kernel
theorem d9_47 : decode prog_14_method_3_code 47 = .ok (.bipush 6, 2) := by decide +kernel
theorem d9_49 : decode prog_14_method_3_code 49 = .ok (.lushr, 1) := by decide +kernel
theorem d9_50 : decode prog_14_method_3_code 50 = .ok (.l2i, 1) := by decide +kernel
theorem d9_51 : decode prog_14_method_3_code 51 = .ok (.laload, 1) := by decide +kernel
theorem d9_52 : decode prog_14_method_3_code 52 = .ok (.lload 8, 2) := by decide +kernel
theorem d9_54 : decode prog_14_method_3_code 54 = .ok (.l2i, 1) := by decide +kernel
theorem d9_55 : decode prog_14_method_3_code 55 = .ok (.lushr, 1) := by decide +kernel
theorem d9_56 : decode prog_14_method_3_code 56 = .ok (.land, 1) := by decide +kernel
theorem d9_57 : decode prog_14_method_3_code 57 = .ok (.lstore_n 2, 1) := by decide +kernel
theorem d9_58 : decode prog_14_method_3_code 58 = .ok (.lload_n 2, 1) := by decide +kernel
theorem d9_59 : decode prog_14_method_3_code 59 = .ok (.lconst 0, 1) := by decide +kernel
theorem d9_60 : decode prog_14_method_3_code 60 = .ok (.lcmp, 1) := by decide +kernel
theorem d9_61 : decode prog_14_method_3_code 61 = .ok (.ifCond .ne 6, 3) := by decide +kernel
theorem d9_73 : decode prog_14_method_3_code 73 = .ok (.lload_n 2, 1) := by decide +kernel
theorem d9_74 : decode prog_14_method_3_code 74 = .ok (.lreturn, 1) := by decide +kernel
theorem d9_67 : decode prog_14_method_3_code 67 = .ok (.iinc 6 1, 3) := by decide +kernel
theorem d9_70 : decode prog_14_method_3_code 70 = .ok (.goto (-54), 3) := by decide +kernel
theorem d9_64 : decode prog_14_method_3_code 64 = .ok (.goto 9, 3) := by decide +kernel
theorem ef_91 (a0 : Addr) (a1 : Addr) : ∀ m : MethodId, entryFrame m #[(.ref a0), (.ref a1)] 10 = mkF m 0 #[.val (.ref a0), .val (.ref a1), .unset, .unset, .unset, .unset, .unset, .unset, .unset, .unset] [] := by intro m; first | (simp [entryFrame, mkF, argsToLocals, Value.category]; done) | rfl
def F_holding1 (w_a0_inUse : Int64) (s_a1_0 : Int32) (w_a0_laneShift : Int32) (n_w_a0_words : Nat) (g_w_a0_words : Nat → Int64) : Int64 :=
  let v548 : Int64 := (shlL (Int32.toInt64 s_a1_0) w_a0_laneShift)
  let v552 : Int64 := (g_w_a0_words (Int32.toNatClampNeg (Int64.toInt32 (ushrL v548 (6 : Int32)))))
  let v553 : Int64 := (w_a0_inUse &&& (ushrL v552 (Int64.toInt32 v548)))
  v553
set_option maxRecDepth 65536 in
set_option maxHeartbeats 40000000 in
theorem rm91 (l : Launch) (Z : State) (az : Array Value) (hw : ∀ d ∈ tables_1, d.before az Z = true) (ws : List Jvm.Cond) (a0 : Addr) (a1 : Addr) (w_a0_inUse : Int64) (s_a1_0 : Int32) (w_a0_laneShift : Int32) (w_a0_words : Addr) (n_w_a0_words : Nat) (g_w_a0_words : Nat → Int64) (h0 : Heap) (F_a0_inUse : Fld Z h0 a0 "com/example/dayflower/dayflower/filter/FilterSlab" "inUse" "J" (.long w_a0_inUse)) (A_a1 : Ary Z h0 a1 .int 1 (fun i => Value.int (List.getD [s_a1_0] i 0))) (F_a0_laneShift : Fld Z h0 a0 "com/example/dayflower/dayflower/filter/FilterSlab" "laneShift" "I" (.int w_a0_laneShift)) (F_a0_words : Fld Z h0 a0 "com/example/dayflower/dayflower/filter/FilterSlab" "words" "[J" (.ref w_a0_words)) (A_w_a0_words : Ary Z h0 w_a0_words .long n_w_a0_words (fun i => Value.long (g_w_a0_words i))) (ob_0 : ∀ (v548 : Int64), (shlL (Int32.toInt64 s_a1_0) w_a0_laneShift) = v548 → ¬ (Int64.toInt32 (ushrL v548 (6 : Int32))) < (0 : Int32) ∧ Int32.toNatClampNeg (Int64.toInt32 (ushrL v548 (6 : Int32))) < n_w_a0_words) :
    Met l (⟨"com/example/dayflower/dayflower/filter/FilterSlab", "holding", "([I)J"⟩ : MethodName) prog_14_method_3_code 10 (some .long) ws ({ frames := 0, cells := 0, slots := 0, locals := 0 } : Room) Z #[(.ref a0), (.ref a1)] h0 (fun v h' L => v = some (Value.long (F_holding1 w_a0_inUse s_a1_0 w_a0_laneShift n_w_a0_words g_w_a0_words)) ∧ h' = h0 ∧ L = []) := by
  refine enter (plainFor_of_name pn_1) (ef_91 a0 a1) ?_
  intro p e s m below meth c T0 kc kn Q hkc hkn hQ K' X0 e0
  have K : Fx p s m meth c prog_14_method_3_code 10 "com/example/dayflower/dayflower/filter/FilterSlab" "holding" (some .long) Z := K'
  refine k_aloadN K X0 d9_0 rfl rfl (q := 1) rfl ?_
  refine k_getfield K X0 e0 d9_1 (wd hw 38 rfl) F_a0_inUse (q := 4) rfl ?_
  intro T542 X543 e544
  refine k_lstoreN K X543 d9_4 rfl (Ls' := #[.val (.ref a0), .val (.ref a1), .val (.long w_a0_inUse), .second, .unset, .unset, .unset, .unset, .unset, .unset]) rfl (q := 5) rfl ?_
  refine k_aloadN K X543 d9_5 rfl rfl (q := 6) rfl ?_
  refine k_astore K X543 d9_6 rfl (Ls' := #[.val (.ref a0), .val (.ref a1), .val (.long w_a0_inUse), .second, .val (.ref a1), .unset, .unset, .unset, .unset, .unset]) rfl (q := 8) rfl ?_
  refine k_aload K X543 d9_8 rfl rfl (q := 10) rfl ?_
  refine k_arraylength K X543 e544 d9_10 A_a1 (v := (1 : Int32)) rfl (q := 11) rfl ?_
  refine k_istore K X543 d9_11 rfl (Ls' := #[.val (.ref a0), .val (.ref a1), .val (.long w_a0_inUse), .second, .val (.ref a1), .val (.int (1 : Int32)), .unset, .unset, .unset, .unset]) rfl (q := 13) rfl ?_
  refine k_iconst K X543 d9_13 (v := (0 : Int32)) rfl (q := 14) rfl ?_
  refine k_istore K X543 d9_14 rfl (Ls' := #[.val (.ref a0), .val (.ref a1), .val (.long w_a0_inUse), .second, .val (.ref a1), .val (.int (1 : Int32)), .val (.int (0 : Int32)), .unset, .unset, .unset]) rfl (q := 16) rfl ?_
  refine k_iload K X543 d9_16 rfl (q := 18) rfl ?_
  refine k_iload K X543 d9_18 rfl (q := 20) rfl ?_
  refine k_icmp_ge_n K X543 d9_20 (by decide) (q := 23) rfl ?_
  refine k_aload K X543 d9_23 rfl rfl (q := 25) rfl ?_
  refine k_iload K X543 d9_25 rfl (q := 27) rfl ?_
  refine k_iaload K X543 e544 d9_27 A_a1 (i := 0) (v := (.int s_a1_0)) (by decide) (by decide) rfl (q := 28) rfl ?_
  refine k_istore K X543 d9_28 rfl (Ls' := #[.val (.ref a0), .val (.ref a1), .val (.long w_a0_inUse), .second, .val (.ref a1), .val (.int (1 : Int32)), .val (.int (0 : Int32)), .val (.int s_a1_0), .unset, .unset]) rfl (q := 30) rfl ?_
  refine k_iload K X543 d9_30 rfl (q := 32) rfl ?_
  refine k_i2l K X543 d9_32 (q := 33) rfl ?_
  refine k_aloadN K X543 d9_33 rfl rfl (q := 34) rfl ?_
  refine k_getfield K X543 e544 d9_34 (wd hw 23 rfl) F_a0_laneShift (q := 37) rfl ?_
  intro T545 X546 e547
  refine k_lshl K X546 d9_37 (q := 38) rfl ?_
  obtain ⟨v548, hv_v548⟩ : ∃ z : Int64, (shlL (Int32.toInt64 s_a1_0) w_a0_laneShift) = z := ⟨_, rfl⟩
  refine k_lstore K X546 d9_38 hv_v548 (Ls' := #[.val (.ref a0), .val (.ref a1), .val (.long w_a0_inUse), .second, .val (.ref a1), .val (.int (1 : Int32)), .val (.int (0 : Int32)), .val (.int s_a1_0), .val (.long v548), .second]) rfl (q := 40) rfl ?_
  refine k_lloadN K X546 d9_40 rfl (q := 41) rfl ?_
  refine k_aloadN K X546 d9_41 rfl rfl (q := 42) rfl ?_
  refine k_getfield K X546 e547 d9_42 (wd hw 31 rfl) F_a0_words (q := 45) rfl ?_
  intro T549 X550 e551
  refine k_lload K X550 d9_45 rfl (q := 47) rfl ?_
  refine k_bipush K X550 d9_47 (v := (6 : Int32)) rfl (q := 49) rfl ?_
  refine k_lushr K X550 d9_49 (q := 50) rfl ?_
  refine k_l2i K X550 d9_50 (q := 51) rfl ?_
  refine k_laload K X550 e551 d9_51 A_w_a0_words (i := (Int32.toNatClampNeg (Int64.toInt32 (ushrL v548 (6 : Int32))))) (v := (.long (g_w_a0_words (Int32.toNatClampNeg (Int64.toInt32 (ushrL v548 (6 : Int32))))))) ⟨((ob_0 v548 hv_v548)).1, rfl⟩ ((ob_0 v548 hv_v548)).2 rfl (q := 52) rfl ?_
  obtain ⟨v552, hv_v552⟩ : ∃ z : Int64, (g_w_a0_words (Int32.toNatClampNeg (Int64.toInt32 (ushrL v548 (6 : Int32))))) = z := ⟨_, rfl⟩
  refine k_nameJ hv_v552 ?_
  refine k_lload K X550 d9_52 rfl (q := 54) rfl ?_
  refine k_l2i K X550 d9_54 (q := 55) rfl ?_
  refine k_lushr K X550 d9_55 (q := 56) rfl ?_
  refine k_land K X550 d9_56 (q := 57) rfl ?_
  obtain ⟨v553, hv_v553⟩ : ∃ z : Int64, (w_a0_inUse &&& (ushrL v552 (Int64.toInt32 v548))) = z := ⟨_, rfl⟩
  refine k_lstoreN K X550 d9_57 hv_v553 (Ls' := #[.val (.ref a0), .val (.ref a1), .val (.long v553), .second, .val (.ref a1), .val (.int (1 : Int32)), .val (.int (0 : Int32)), .val (.int s_a1_0), .val (.long v548), .second]) rfl (q := 58) rfl ?_
  refine k_lloadN K X550 d9_58 rfl (q := 59) rfl ?_
  refine k_lconst0 K X550 d9_59 (q := 60) rfl ?_
  refine k_lcmp K X550 d9_60 (q := 61) rfl ?_
  have J556 : ∀ (s555 : Slot), (s555 = .unset ∨ ∃ w : Value, s555 = .val w ∧ w.category = 1) → Run p e below s kc kn Q T549 (mkF m 73 #[.val (.ref a0), .val (.ref a1), .val (.long v553), .second, .val (.ref a1), .val (.int (1 : Int32)), s555, .val (.int s_a1_0), .val (.long v548), .second] []) := by
    intro s555 hsl_s555
    refine k_lloadN K X550 d9_73 rfl (q := 74) rfl ?_
    exact k_retl K X550 e551 d9_74 (Nat.le_trans (by decide) hkc) (Nat.le_trans (by decide) hkn) (hQ _ _ _ ⟨(by show some (Value.long v553) = some (Value.long (F_holding1 w_a0_inUse s_a1_0 w_a0_laneShift n_w_a0_words g_w_a0_words)); first | (simp only [F_holding1, hv_v548, hv_v552, hv_v553]; done) | (subst hv_v548; subst hv_v552; subst hv_v553; simp only [F_holding1])), rfl, rfl⟩)
  refine k_lcmp_ne K X550 d9_61 (by decide) (q := 67) rfl (q' := 64) rfl ?_ ?_
  · intro hc557
    refine k_iinc K X550 d9_67 rfl (by decide) (Ls' := #[.val (.ref a0), .val (.ref a1), .val (.long v553), .second, .val (.ref a1), .val (.int (1 : Int32)), .val (.int (1 : Int32)), .val (.int s_a1_0), .val (.long v548), .second]) rfl (q := 70) rfl ?_
    refine k_goto K X550 d9_70 (by decide) (q := 16) rfl ?_
    refine k_iload K X550 d9_16 rfl (q := 18) rfl ?_
    refine k_iload K X550 d9_18 rfl (q := 20) rfl ?_
    refine k_icmp_ge_y K X550 d9_20 (by decide) (by decide) (q := 73) rfl ?_
    exact J556 _ (by first | exact Or.inl rfl | exact Or.inr ⟨_, rfl, rfl⟩ | assumption)
  · intro hc557
    refine k_goto K X550 d9_64 (by decide) (q := 73) rfl ?_
    exact J556 _ (by first | exact Or.inl rfl | exact Or.inr ⟨_, rfl, rfl⟩ | assumption)
theorem d8_0 : decode prog_14_method_7_code 0 = .ok (.lconst 1, 1) := by decide +kernel
theorem d8_1 : decode prog_14_method_7_code 1 = .ok (.iload_n 1, 1) := by decide +kernel
theorem d8_2 : decode prog_14_method_7_code 2 = .ok (.lshl, 1) := by decide +kernel
theorem d8_3 : decode prog_14_method_7_code 3 = .ok (.lstore_n 2, 1) := by decide +kernel
theorem d8_4 : decode prog_14_method_7_code 4 = .ok (.aload_n 0, 1) := by decide +kernel
theorem d8_5 : decode prog_14_method_7_code 5 = .ok (.dup, 1) := by decide +kernel
theorem d8_6 : decode prog_14_method_7_code 6 = .ok (.getfield 48, 3) := by decide +kernel
theorem d8_9 : decode prog_14_method_7_code 9 = .ok (.lload_n 2, 1) := by decide +kernel
theorem d8_10 : decode prog_14_method_7_code 10 = .ok (.ldc2_w 63, 3) := by decide +kernel
theorem d8_13 : decode prog_14_method_7_code 13 = .ok (.lxor, 1) := by decide +kernel
theorem d8_14 : decode prog_14_method_7_code 14 = .ok (.land, 1) := by decide +kernel
theorem d8_15 : decode prog_14_method_7_code 15 = .ok (.putfield 48, 3) := by decide +kernel
theorem d8_18 : decode prog_14_method_7_code 18 = .ok (.aload_n 0, 1) := by decide +kernel
theorem d8_19 : decode prog_14_method_7_code 19 = .ok (.dup, 1) := by decide +kernel
theorem d8_20 : decode prog_14_method_7_code 20 = .ok (.getfield 56, 3) := by decide +kernel
theorem d8_23 : decode prog_14_method_7_code 23 = .ok (.lload_n 2, 1) := by decide +kernel
theorem d8_24 : decode prog_14_method_7_code 24 = .ok (.lor, 1) := by decide +kernel
theorem d8_25 : decode prog_14_method_7_code 25 = .ok (.putfield 56, 3) := by decide +kernel
theorem d8_28 : decode prog_14_method_7_code 28 = .ok (.return_, 1) := by decide +kernel
theorem ef_8 (a0 : Addr) (p1 : Int32) : ∀ m : MethodId, entryFrame m #[(.ref a0), (.int p1)] 4 = mkF m 0 #[.val (.ref a0), .val (.int p1), .unset, .unset] [] := by intro m; first | (simp [entryFrame, mkF, argsToLocals, Value.category]; done) | rfl
def F_free_a0_dirty (p1 : Int32) (w_a0_inUse : Int64) (w_a0_dirty : Int64) (w_a0_lanes : Int32) (w_a0_laneShift : Int32) : Int64 :=
  let v674 : Int64 := (shlL (1 : Int64) p1)
  (w_a0_dirty ||| v674)
def F_free_a0_inUse (p1 : Int32) (w_a0_inUse : Int64) (w_a0_dirty : Int64) (w_a0_lanes : Int32) (w_a0_laneShift : Int32) : Int64 :=
  let v674 : Int64 := (shlL (1 : Int64) p1)
  (w_a0_inUse &&& (v674 ^^^ (-1 : Int64)))
set_option maxRecDepth 65536 in
set_option maxHeartbeats 40000000 in
theorem rm8 (l : Launch) (Z : State) (az : Array Value) (hw : ∀ d ∈ tables_1, d.before az Z = true) (ws : List Jvm.Cond) (a0 : Addr) (p1 : Int32) (w_a0_inUse : Int64) (w_a0_dirty : Int64) (w_a0_lanes : Int32) (w_a0_laneShift : Int32) (w_a0_words : Value) (h0 : Heap) (n0 : Nat) (Z0 : n0 ≤ h0.size) (F_a0_inUse : Fld Z h0 a0 "com/example/dayflower/dayflower/filter/FilterSlab" "inUse" "J" (.long w_a0_inUse)) (E_a0 : Exa Z h0 a0 "com/example/dayflower/dayflower/filter/FilterSlab") (ge_a0 : n0 ≤ a0) (F_a0_dirty : Fld Z h0 a0 "com/example/dayflower/dayflower/filter/FilterSlab" "dirty" "J" (.long w_a0_dirty)) (F_a0_lanes : Fld Z h0 a0 "com/example/dayflower/dayflower/filter/FilterSlab" "lanes" "I" (.int w_a0_lanes)) (F_a0_laneShift : Fld Z h0 a0 "com/example/dayflower/dayflower/filter/FilterSlab" "laneShift" "I" (.int w_a0_laneShift)) (F_a0_words : Fld Z h0 a0 "com/example/dayflower/dayflower/filter/FilterSlab" "words" "[J" w_a0_words) :
    Met l (⟨"com/example/dayflower/dayflower/filter/FilterSlab", "free", "(I)V"⟩ : MethodName) prog_14_method_7_code 4 none ws ({ frames := 0, cells := 0, slots := 0, locals := 0 } : Room) Z #[(.ref a0), (.int p1)] h0 (fun v h' L => v = none ∧ Fr n0 L ∧ Keep h0 h' [a0] ∧ Fld Z h' a0 "com/example/dayflower/dayflower/filter/FilterSlab" "dirty" "J" (.long (F_free_a0_dirty p1 w_a0_inUse w_a0_dirty w_a0_lanes w_a0_laneShift)) ∧ Fld Z h' a0 "com/example/dayflower/dayflower/filter/FilterSlab" "inUse" "J" (.long (F_free_a0_inUse p1 w_a0_inUse w_a0_dirty w_a0_lanes w_a0_laneShift)) ∧ Fld Z h' a0 "com/example/dayflower/dayflower/filter/FilterSlab" "laneShift" "I" (.int w_a0_laneShift) ∧ Fld Z h' a0 "com/example/dayflower/dayflower/filter/FilterSlab" "lanes" "I" (.int w_a0_lanes) ∧ Fld Z h' a0 "com/example/dayflower/dayflower/filter/FilterSlab" "words" "[J" w_a0_words) := by
  refine enter (plainFor_of_name pn_1) (ef_8 a0 p1) ?_
  intro p e s m below meth c T0 kc kn Q hkc hkn hQ K' X0 e0
  have K : Fx p s m meth c prog_14_method_7_code 4 "com/example/dayflower/dayflower/filter/FilterSlab" "free" none Z := K'
  have N0 := Fr.nil n0
  have K0 : Keep h0 h0 [a0] := Keep.refl _ _
  refine k_lconst1 K X0 d8_0 (q := 1) rfl ?_
  refine k_iloadN K X0 d8_1 rfl (q := 2) rfl ?_
  refine k_lshl K X0 d8_2 (q := 3) rfl ?_
  obtain ⟨v674, hv_v674⟩ : ∃ z : Int64, (shlL (1 : Int64) p1) = z := ⟨_, rfl⟩
  refine k_lstoreN K X0 d8_3 hv_v674 (Ls' := #[.val (.ref a0), .val (.int p1), .val (.long v674), .second]) rfl (q := 4) rfl ?_
  refine k_aloadN K X0 d8_4 rfl rfl (q := 5) rfl ?_
  refine k_dup K X0 d8_5 rfl (q := 6) rfl ?_
  refine k_getfield K X0 e0 d8_6 (wd hw 38 rfl) F_a0_inUse (q := 9) rfl ?_
  intro T675 X676 e677
  refine k_lloadN K X676 d8_9 rfl (q := 10) rfl ?_
  refine k_ldc2 K X676 d8_10 (wd hw 52 rfl) (q := 13) rfl ?_
  refine k_lxor K X676 d8_13 (q := 14) rfl ?_
  refine k_land K X676 d8_14 (q := 15) rfl ?_
  refine k_putfield K X676 e677 d8_15 (wd hw 38 rfl) F_a0_inUse E_a0 (Or.inl (wd hw 39 rfl)) (wd hw 3 rfl) (ty := .long) (by decide) rfl rfl (q := 18) rfl ?_
  intro T678 h679 X680 e681 W682
  have f683 := Fld.same W682 F_a0_inUse
  have f684 := Exa.wr W682 E_a0
  have f685 := Fld.other W682 F_a0_dirty (Or.inr (slot_ne (Or.inl (wd hw 41 rfl)) (Or.inl (wd hw 39 rfl)) (by decide) (t := .long) (t' := .long) (by decide) (by decide)))
  have f686 := Fld.other W682 F_a0_lanes (Or.inr (slot_ne (Or.inr (wd hw 19 rfl)) (Or.inl (wd hw 39 rfl)) (by decide) (t := .int) (t' := .long) (by decide) (by decide)))
  have f687 := Fld.other W682 F_a0_laneShift (Or.inr (slot_ne (Or.inr (wd hw 24 rfl)) (Or.inl (wd hw 39 rfl)) (by decide) (t := .int) (t' := .long) (by decide) (by decide)))
  have f688 := Fld.other W682 F_a0_words (Or.inr (slot_ne (Or.inr (wd hw 32 rfl)) (Or.inl (wd hw 39 rfl)) (by decide) (t := (.array .long)) (t' := .long) (by decide) (by decide)))
  have N689 := Fr.snoc X680 N0 ge_a0
  have K690 := Keep.wr K0 W682 (Or.inl (List.mem_of_getElem? (i := 0) rfl))
  have Z691 := Nat.le_trans Z0 (Nat.le_of_eq (Wr.size W682).symm)
  refine k_aloadN K X680 d8_18 rfl rfl (q := 19) rfl ?_
  refine k_dup K X680 d8_19 rfl (q := 20) rfl ?_
  refine k_getfield K X680 e681 d8_20 (wd hw 40 rfl) f685 (q := 23) rfl ?_
  intro T692 X693 e694
  refine k_lloadN K X693 d8_23 rfl (q := 24) rfl ?_
  refine k_lor K X693 d8_24 (q := 25) rfl ?_
  refine k_putfield K X693 e694 d8_25 (wd hw 40 rfl) f685 f684 (Or.inl (wd hw 41 rfl)) (wd hw 3 rfl) (ty := .long) (by decide) rfl rfl (q := 28) rfl ?_
  intro T695 h696 X697 e698 W699
  have f700 := Fld.same W699 f685
  have f701 := Exa.wr W699 f684
  have f702 := Fld.other W699 f686 (Or.inr (slot_ne (Or.inr (wd hw 19 rfl)) (Or.inl (wd hw 41 rfl)) (by decide) (t := .int) (t' := .long) (by decide) (by decide)))
  have f703 := Fld.other W699 f687 (Or.inr (slot_ne (Or.inr (wd hw 24 rfl)) (Or.inl (wd hw 41 rfl)) (by decide) (t := .int) (t' := .long) (by decide) (by decide)))
  have f704 := Fld.other W699 f688 (Or.inr (slot_ne (Or.inr (wd hw 32 rfl)) (Or.inl (wd hw 41 rfl)) (by decide) (t := (.array .long)) (t' := .long) (by decide) (by decide)))
  have f705 := Fld.other W699 f683 (Or.inr (slot_ne (Or.inl (wd hw 39 rfl)) (Or.inl (wd hw 41 rfl)) (by decide) (t := .long) (t' := .long) (by decide) (by decide)))
  have N706 := Fr.snoc X697 N689 ge_a0
  have K707 := Keep.wr K690 W699 (Or.inl (List.mem_of_getElem? (i := 0) rfl))
  have Z708 := Nat.le_trans Z691 (Nat.le_of_eq (Wr.size W699).symm)
  exact k_retv K X697 e698 d8_28 (Nat.le_trans (by decide) hkc) (Nat.le_trans (by decide) hkn) (hQ _ _ _ ⟨rfl, N706, K707, (by rw [(show F_free_a0_dirty p1 w_a0_inUse w_a0_dirty w_a0_lanes w_a0_laneShift = (w_a0_dirty ||| v674) from by first | (simp only [F_free_a0_dirty, hv_v674]; done) | (subst hv_v674; simp only [F_free_a0_dirty]))]; exact f700), (by rw [(show F_free_a0_inUse p1 w_a0_inUse w_a0_dirty w_a0_lanes w_a0_laneShift = (w_a0_inUse &&& (v674 ^^^ (-1 : Int64))) from by first | (simp only [F_free_a0_inUse, hv_v674]; done) | (subst hv_v674; simp only [F_free_a0_inUse]))]; exact f705), f703, f702, f704⟩)
theorem d10_0 : decode prog_14_method_8_code 0 = .ok (.aload_n 0, 1) := by decide +kernel
theorem d10_1 : decode prog_14_method_8_code 1 = .ok (.getfield 48, 3) := by decide +kernel
theorem d10_4 : decode prog_14_method_8_code 4 = .ok (.lconst 0, 1) := by decide +kernel
theorem d10_5 : decode prog_14_method_8_code 5 = .ok (.lcmp, 1) := by decide +kernel
theorem d10_6 : decode prog_14_method_8_code 6 = .ok (.ifCond .ne 7, 3) := by decide +kernel
theorem d10_14 : decode prog_14_method_8_code 14 = .ok (.ireturn, 1) := by decide +kernel
theorem d10_13 : decode prog_14_method_8_code 13 = .ok (.iconst 0, 1) := by decide +kernel
theorem d10_9 : decode prog_14_method_8_code 9 = .ok (.iconst 1, 1) := by decide +kernel
theorem d10_10 : decode prog_14_method_8_code 10 = .ok (.goto 4, 3) := by decide +kernel
theorem ef_10 (a0 : Addr) : ∀ m : MethodId, entryFrame m #[(.ref a0)] 1 = mkF m 0 #[.val (.ref a0)] [] := by intro m; first | (simp [entryFrame, mkF, argsToLocals, Value.category]; done) | rfl
def F_empty (w_a0_inUse : Int64) : Int32 :=
  let d713 : Int32 := (if w_a0_inUse = (0 : Int64) then (1 : Int32) else (0 : Int32))
  (nar .boolean d713)
set_option maxRecDepth 65536 in
set_option maxHeartbeats 40000000 in
theorem rm10 (l : Launch) (Z : State) (az : Array Value) (hw : ∀ d ∈ tables_1, d.before az Z = true) (ws : List Jvm.Cond) (a0 : Addr) (w_a0_inUse : Int64) (h0 : Heap) (F_a0_inUse : Fld Z h0 a0 "com/example/dayflower/dayflower/filter/FilterSlab" "inUse" "J" (.long w_a0_inUse)) :
    Met l (⟨"com/example/dayflower/dayflower/filter/FilterSlab", "empty", "()Z"⟩ : MethodName) prog_14_method_8_code 1 (some .boolean) ws ({ frames := 0, cells := 0, slots := 0, locals := 0 } : Room) Z #[(.ref a0)] h0 (fun v h' L => v = some (Value.int (F_empty w_a0_inUse)) ∧ h' = h0 ∧ L = []) := by
  refine enter (plainFor_of_name pn_1) (ef_10 a0) ?_
  intro p e s m below meth c T0 kc kn Q hkc hkn hQ K' X0 e0
  have K : Fx p s m meth c prog_14_method_8_code 1 "com/example/dayflower/dayflower/filter/FilterSlab" "empty" (some .boolean) Z := K'
  refine k_aloadN K X0 d10_0 rfl rfl (q := 1) rfl ?_
  refine k_getfield K X0 e0 d10_1 (wd hw 38 rfl) F_a0_inUse (q := 4) rfl ?_
  intro T709 X710 e711
  refine k_lconst0 K X710 d10_4 (q := 5) rfl ?_
  refine k_lcmp K X710 d10_5 (q := 6) rfl ?_
  have J714 : ∀ (d713 : Int32), (if w_a0_inUse = (0 : Int64) then (1 : Int32) else (0 : Int32)) = d713 → Run p e below s kc kn Q T709 (mkF m 14 #[.val (.ref a0)] [(.int d713)]) := by
    intro d713 hv_d713
    exact k_retz K X710 e711 d10_14 (Nat.le_trans (by decide) hkc) (Nat.le_trans (by decide) hkn) (hQ _ _ _ ⟨(by show some (Value.int (nar .boolean d713)) = some (Value.int (F_empty w_a0_inUse)); first | (simp only [F_empty, hv_d713]; done) | (subst hv_d713; simp only [F_empty])), rfl, rfl⟩)
  refine k_lcmp_ne K X710 d10_6 (by decide) (q := 13) rfl (q' := 9) rfl ?_ ?_
  · intro hc715
    refine k_iconst K X710 d10_13 (v := (0 : Int32)) rfl (q := 14) rfl ?_
    exact J714 _ (by first | (simp only [if_neg hc715]; done) | rfl)
  · intro hc715
    refine k_iconst K X710 d10_9 (v := (1 : Int32)) rfl (q := 10) rfl ?_
    refine k_goto K X710 d10_10 (by decide) (q := 14) rfl ?_
    exact J714 _ (by first | (simp only [if_pos hc715]; done) | rfl)
theorem d11_0 : decode prog_14_method_5_code 0 = .ok (.aload_n 0, 1) := by decide +kernel
theorem d11_1 : decode prog_14_method_5_code 1 = .ok (.getfield 42, 3) := by decide +kernel
theorem d11_4 : decode prog_14_method_5_code 4 = .ok (.iload_n 1, 1) := by decide +kernel
theorem d11_5 : decode prog_14_method_5_code 5 = .ok (.i2l, 1) := by decide +kernel
theorem d11_6 : decode prog_14_method_5_code 6 = .ok (.aload_n 0, 1) := by decide +kernel
theorem d11_7 : decode prog_14_method_5_code 7 = .ok (.getfield 33, 3) := by decide +kernel
theorem d11_10 : decode prog_14_method_5_code 10 = .ok (.lshl, 1) := by decide +kernel
theorem d11_11 : decode prog_14_method_5_code 11 = .ok (.bipush 6, 2) := by decide +kernel
theorem d11_13 : decode prog_14_method_5_code 13 = .ok (.lushr, 1) := by decide +kernel
theorem d11_14 : decode prog_14_method_5_code 14 = .ok (.l2i, 1) := by decide +kernel
theorem d11_15 : decode prog_14_method_5_code 15 = .ok (.laload, 1) := by decide +kernel
theorem d11_16 : decode prog_14_method_5_code 16 = .ok (.lreturn, 1) := by decide +kernel
theorem ef_11 (a0 : Addr) (p1 : Int32) : ∀ m : MethodId, entryFrame m #[(.ref a0), (.int p1)] 2 = mkF m 0 #[.val (.ref a0), .val (.int p1)] [] := by intro m; first | (simp [entryFrame, mkF, argsToLocals, Value.category]; done) | rfl
def F_word (p1 : Int32) (w_a0_laneShift : Int32) (n_w_a0_words : Nat) (g_w_a0_words : Nat → Int64) : Int64 :=
  let v731 : Int64 := (g_w_a0_words (Int32.toNatClampNeg (Int64.toInt32 (ushrL (shlL (Int32.toInt64 p1) w_a0_laneShift) (6 : Int32)))))
  v731
set_option maxRecDepth 65536 in
set_option maxHeartbeats 40000000 in
theorem rm11 (l : Launch) (Z : State) (az : Array Value) (hw : ∀ d ∈ tables_1, d.before az Z = true) (ws : List Jvm.Cond) (a0 : Addr) (p1 : Int32) (w_a0_words : Addr) (w_a0_laneShift : Int32) (n_w_a0_words : Nat) (g_w_a0_words : Nat → Int64) (h0 : Heap) (F_a0_words : Fld Z h0 a0 "com/example/dayflower/dayflower/filter/FilterSlab" "words" "[J" (.ref w_a0_words)) (F_a0_laneShift : Fld Z h0 a0 "com/example/dayflower/dayflower/filter/FilterSlab" "laneShift" "I" (.int w_a0_laneShift)) (A_w_a0_words : Ary Z h0 w_a0_words .long n_w_a0_words (fun i => Value.long (g_w_a0_words i))) (ob_0 : ¬ (Int64.toInt32 (ushrL (shlL (Int32.toInt64 p1) w_a0_laneShift) (6 : Int32))) < (0 : Int32) ∧ Int32.toNatClampNeg (Int64.toInt32 (ushrL (shlL (Int32.toInt64 p1) w_a0_laneShift) (6 : Int32))) < n_w_a0_words) :
    Met l (⟨"com/example/dayflower/dayflower/filter/FilterSlab", "word", "(I)J"⟩ : MethodName) prog_14_method_5_code 2 (some .long) ws ({ frames := 0, cells := 0, slots := 0, locals := 0 } : Room) Z #[(.ref a0), (.int p1)] h0 (fun v h' L => v = some (Value.long (F_word p1 w_a0_laneShift n_w_a0_words g_w_a0_words)) ∧ h' = h0 ∧ L = []) := by
  refine enter (plainFor_of_name pn_1) (ef_11 a0 p1) ?_
  intro p e s m below meth c T0 kc kn Q hkc hkn hQ K' X0 e0
  have K : Fx p s m meth c prog_14_method_5_code 2 "com/example/dayflower/dayflower/filter/FilterSlab" "word" (some .long) Z := K'
  refine k_aloadN K X0 d11_0 rfl rfl (q := 1) rfl ?_
  refine k_getfield K X0 e0 d11_1 (wd hw 31 rfl) F_a0_words (q := 4) rfl ?_
  intro T725 X726 e727
  refine k_iloadN K X726 d11_4 rfl (q := 5) rfl ?_
  refine k_i2l K X726 d11_5 (q := 6) rfl ?_
  refine k_aloadN K X726 d11_6 rfl rfl (q := 7) rfl ?_
  refine k_getfield K X726 e727 d11_7 (wd hw 23 rfl) F_a0_laneShift (q := 10) rfl ?_
  intro T728 X729 e730
  refine k_lshl K X729 d11_10 (q := 11) rfl ?_
  refine k_bipush K X729 d11_11 (v := (6 : Int32)) rfl (q := 13) rfl ?_
  refine k_lushr K X729 d11_13 (q := 14) rfl ?_
  refine k_l2i K X729 d11_14 (q := 15) rfl ?_
  refine k_laload K X729 e730 d11_15 A_w_a0_words (i := (Int32.toNatClampNeg (Int64.toInt32 (ushrL (shlL (Int32.toInt64 p1) w_a0_laneShift) (6 : Int32))))) (v := (.long (g_w_a0_words (Int32.toNatClampNeg (Int64.toInt32 (ushrL (shlL (Int32.toInt64 p1) w_a0_laneShift) (6 : Int32))))))) ⟨((ob_0)).1, rfl⟩ ((ob_0)).2 rfl (q := 16) rfl ?_
  obtain ⟨v731, hv_v731⟩ : ∃ z : Int64, (g_w_a0_words (Int32.toNatClampNeg (Int64.toInt32 (ushrL (shlL (Int32.toInt64 p1) w_a0_laneShift) (6 : Int32))))) = z := ⟨_, rfl⟩
  refine k_nameJ hv_v731 ?_
  exact k_retl K X729 e730 d11_16 (Nat.le_trans (by decide) hkc) (Nat.le_trans (by decide) hkn) (hQ _ _ _ ⟨(by show some (Value.long v731) = some (Value.long (F_word p1 w_a0_laneShift n_w_a0_words g_w_a0_words)); first | (simp only [F_word, hv_v731]; done) | (subst hv_v731; simp only [F_word])), rfl, rfl⟩)
theorem own_eqI {x y : Int32} : x = y ↔ x.toInt = y.toInt := Int32.toInt_inj.symm
theorem own_eqJ {x y : Int64} : x = y ↔ x.toInt = y.toInt := Int64.toInt_inj.symm
theorem own_ltI {x y : Int32} : x < y ↔ x.toInt < y.toInt := Int32.lt_iff_toInt_lt
theorem own_ltJ {x y : Int64} : x < y ↔ x.toInt < y.toInt := Int64.lt_iff_toInt_lt
def own_ln (l : Int32) : Prop := l = 1 ∨ l = 2 ∨ l = 4 ∨ l = 8 ∨ l = 16 ∨ l = 32 ∨ l = 64
def own_sp (k : Nat) (x l : Int32) : Prop := own_ln l ∧ 0 ≤ x.toInt ∧ x.toInt + k * l.toInt = 64
theorem own_sp0 {l : Int32} (h : own_ln l) : own_sp (64 / l.toInt.toNat) 0 l := by
  refine ⟨h, by decide, ?_⟩
  rcases h with rfl | rfl | rfl | rfl | rfl | rfl | rfl <;> decide
theorem own_spz {x l : Int32} (h : own_sp 0 x l) : ¬ x < 64 := by
  have := h.2.2; intro z; have := own_ltI.mp z; have e : (64 : Int32).toInt = 64 := rfl
  simp at *; omega
theorem own_spn {k : Nat} {x l : Int32} (h : own_sp (k + 1) x l) : x < 64 ∧ own_sp k (x + l) l := by
  obtain ⟨a, b, c⟩ := h
  have hl : 1 ≤ l.toInt ∧ l.toInt ≤ 64 := by rcases a with rfl | rfl | rfl | rfl | rfl | rfl | rfl <;> decide
  have e : (64 : Int32).toInt = 64 := rfl
  have c' : x.toInt + (k * l.toInt + l.toInt) = 64 := by rw [← c]; push_cast; rw [Int.add_mul, Int.one_mul]
  have kp : 0 ≤ (k : Int) * l.toInt := Int.mul_nonneg (by omega) (by omega)
  have s := c_iadd x l; have r := rng32 (x + l)
  exact ⟨own_ltI.mpr (by omega), a, by omega, by omega⟩
theorem d12_0 : decode prog_14_method_10_code 0 = .ok (.lconst 0, 1) := by decide +kernel
theorem d12_1 : decode prog_14_method_10_code 1 = .ok (.lstore_n 3, 1) := by decide +kernel
theorem d12_2 : decode prog_14_method_10_code 2 = .ok (.iconst 0, 1) := by decide +kernel
theorem d12_3 : decode prog_14_method_10_code 3 = .ok (.istore 5, 2) := by decide +kernel
theorem d12_5 : decode prog_14_method_10_code 5 = .ok (.iload 5, 2) := by decide +kernel
theorem d12_7 : decode prog_14_method_10_code 7 = .ok (.bipush 64, 2) := by decide +kernel
theorem d12_9 : decode prog_14_method_10_code 9 = .ok (.if_icmp .ge 22, 3) := by decide +kernel
theorem d12_31 : decode prog_14_method_10_code 31 = .ok (.lload_n 3, 1) := by decide +kernel
theorem d12_32 : decode prog_14_method_10_code 32 = .ok (.lreturn, 1) := by decide +kernel
theorem d12_12 : decode prog_14_method_10_code 12 = .ok (.lload_n 3, 1) := by decide +kernel
theorem d12_13 : decode prog_14_method_10_code 13 = .ok (.lload_n 1, 1) := by decide +kernel
theorem d12_14 : decode prog_14_method_10_code 14 = .ok (.iload 5, 2) := by decide +kernel
theorem d12_16 : decode prog_14_method_10_code 16 = .ok (.lshl, 1) := by decide +kernel
theorem d12_17 : decode prog_14_method_10_code 17 = .ok (.lor, 1) := by decide +kernel
theorem d12_18 : decode prog_14_method_10_code 18 = .ok (.lstore_n 3, 1) := by decide +kernel
theorem d12_19 : decode prog_14_method_10_code 19 = .ok (.iload 5, 2) := by decide +kernel
theorem d12_21 : decode prog_14_method_10_code 21 = .ok (.aload_n 0, 1) := by decide +kernel
theorem d12_22 : decode prog_14_method_10_code 22 = .ok (.getfield 26, 3) := by decide +kernel
theorem d12_25 : decode prog_14_method_10_code 25 = .ok (.iadd, 1) := by decide +kernel
theorem d12_26 : decode prog_14_method_10_code 26 = .ok (.istore 5, 2) := by decide +kernel
theorem d12_28 : decode prog_14_method_10_code 28 = .ok (.goto (-23), 3) := by decide +kernel
theorem ef_12 (a0 : Addr) (q1 : Int64) : ∀ m : MethodId, entryFrame m #[(.ref a0), (.long q1)] 6 = mkF m 0 #[.val (.ref a0), .val (.long q1), .second, .unset, .unset, .unset] [] := by intro m; first | (simp [entryFrame, mkF, argsToLocals, Value.category]; done) | rfl
def U12_5_0 (q1 : Int64) (w_a0_lanes : Int32) (x747 : Int64) (x748 : Int32) : Int64 :=
  let v762 : Int64 := (x747 ||| (shlL q1 x748))
  let v766 : Int32 := (x748 + w_a0_lanes)
  v762
def U12_5_1 (q1 : Int64) (w_a0_lanes : Int32) (x747 : Int64) (x748 : Int32) : Int32 :=
  let v762 : Int64 := (x747 ||| (shlL q1 x748))
  let v766 : Int32 := (x748 + w_a0_lanes)
  v766
def L12_5_0 (k : Nat) (q1 : Int64) (w_a0_lanes : Int32) : Int64 → Int32 → Int64 := match k with
  | 0 => fun x747 x748 => x747
  | k + 1 => fun x747 x748 => L12_5_0 k q1 w_a0_lanes (U12_5_0 q1 w_a0_lanes x747 x748) (U12_5_1 q1 w_a0_lanes x747 x748)
def L12_5_1 (k : Nat) (q1 : Int64) (w_a0_lanes : Int32) : Int64 → Int32 → Int32 := match k with
  | 0 => fun x747 x748 => x748
  | k + 1 => fun x747 x748 => L12_5_1 k q1 w_a0_lanes (U12_5_0 q1 w_a0_lanes x747 x748) (U12_5_1 q1 w_a0_lanes x747 x748)
def F_spread (q1 : Int64) (w_a0_lanes : Int32) : Int64 :=
  let x747 : Int64 := (L12_5_0 (64 / w_a0_lanes.toInt.toNat) q1 w_a0_lanes (0 : Int64) (0 : Int32))
  let x748 : Int32 := (L12_5_1 (64 / w_a0_lanes.toInt.toNat) q1 w_a0_lanes (0 : Int64) (0 : Int32))
  x747
set_option maxRecDepth 65536 in
set_option maxHeartbeats 40000000 in
theorem rm12 (l : Launch) (Z : State) (az : Array Value) (hw : ∀ d ∈ tables_1, d.before az Z = true) (ws : List Jvm.Cond) (a0 : Addr) (q1 : Int64) (w_a0_lanes : Int32) (h0 : Heap) (F_a0_lanes : Fld Z h0 a0 "com/example/dayflower/dayflower/filter/FilterSlab" "lanes" "I" (.int w_a0_lanes)) (ob_0 : own_ln w_a0_lanes) :
    Met l (⟨"com/example/dayflower/dayflower/filter/FilterSlab", "spread", "(J)J"⟩ : MethodName) prog_14_method_10_code 6 (some .long) ws ({ frames := 0, cells := 0, slots := 0, locals := 0 } : Room) Z #[(.ref a0), (.long q1)] h0 (fun v h' L => v = some (Value.long (F_spread q1 w_a0_lanes)) ∧ h' = h0 ∧ L = []) := by
  refine enter (plainFor_of_name pn_1) (ef_12 a0 q1) ?_
  intro p e s m below meth c T0 kc kn Q hkc hkn hQ K' X0 e0
  have K : Fx p s m meth c prog_14_method_10_code 6 "com/example/dayflower/dayflower/filter/FilterSlab" "spread" (some .long) Z := K'
  refine k_lconst0 K X0 d12_0 (q := 1) rfl ?_
  refine k_lstoreN K X0 d12_1 rfl (Ls' := #[.val (.ref a0), .val (.long q1), .second, .val (.long (0 : Int64)), .second, .unset]) rfl (q := 2) rfl ?_
  refine k_iconst K X0 d12_2 (v := (0 : Int32)) rfl (q := 3) rfl ?_
  refine k_istore K X0 d12_3 rfl (Ls' := #[.val (.ref a0), .val (.long q1), .second, .val (.long (0 : Int64)), .second, .val (.int (0 : Int32))]) rfl (q := 5) rfl ?_
  have LP761 : ∀ (k : Nat) (x747 : Int64) (x748 : Int32) (T749 : State), Stand p l e ({ frames := 0, cells := 0, slots := 0, locals := 0 } : Room) s m #[(.ref a0), (.long q1)] below meth c T749 [] 0 0 → T749.heap = h0 → own_sp k x748 w_a0_lanes → L12_5_0 k q1 w_a0_lanes x747 x748 = (L12_5_0 (64 / w_a0_lanes.toInt.toNat) q1 w_a0_lanes (0 : Int64) (0 : Int32)) → L12_5_1 k q1 w_a0_lanes x747 x748 = (L12_5_1 (64 / w_a0_lanes.toInt.toNat) q1 w_a0_lanes (0 : Int64) (0 : Int32)) → Run p e below s kc kn Q T749 (mkF m 5 #[.val (.ref a0), .val (.long q1), .second, .val (.long x747), .second, .val (.int x748)] []) := by
    intro k
    induction k with
    | zero =>
      intro x747 x748 T749 X752 e754 hi760 hR758 hR759
      have hv_x747 : (L12_5_0 (64 / w_a0_lanes.toInt.toNat) q1 w_a0_lanes (0 : Int64) (0 : Int32)) = x747 := hR758.symm
      have hv_x748 : (L12_5_1 (64 / w_a0_lanes.toInt.toNat) q1 w_a0_lanes (0 : Int64) (0 : Int32)) = x748 := hR759.symm
      refine k_iload K X752 d12_5 rfl (q := 7) rfl ?_
      refine k_bipush K X752 d12_7 (v := (64 : Int32)) rfl (q := 9) rfl ?_
      refine k_icmp_ge_y K X752 d12_9 (own_spz hi760) (by decide) (q := 31) rfl ?_
      refine k_lloadN K X752 d12_31 rfl (q := 32) rfl ?_
      exact k_retl K X752 e754 d12_32 (Nat.le_trans (by decide) hkc) (Nat.le_trans (by decide) hkn) (hQ _ _ _ ⟨(by show some (Value.long x747) = some (Value.long (F_spread q1 w_a0_lanes)); first | (simp only [F_spread, hv_x747, hv_x748]; done) | (subst hv_x747; subst hv_x748; simp only [F_spread])), rfl, rfl⟩)
    | succ k ih =>
      intro x747 x748 T749 X752 e754 hi760 hR758 hR759
      refine k_iload K X752 d12_5 rfl (q := 7) rfl ?_
      refine k_bipush K X752 d12_7 (v := (64 : Int32)) rfl (q := 9) rfl ?_
      refine k_icmp_ge_n K X752 d12_9 (own_spn hi760).1 (q := 12) rfl ?_
      refine k_lloadN K X752 d12_12 rfl (q := 13) rfl ?_
      refine k_lloadN K X752 d12_13 rfl (q := 14) rfl ?_
      refine k_iload K X752 d12_14 rfl (q := 16) rfl ?_
      refine k_lshl K X752 d12_16 (q := 17) rfl ?_
      refine k_lor K X752 d12_17 (q := 18) rfl ?_
      obtain ⟨v762, hv_v762⟩ : ∃ z : Int64, (x747 ||| (shlL q1 x748)) = z := ⟨_, rfl⟩
      refine k_lstoreN K X752 d12_18 hv_v762 (Ls' := #[.val (.ref a0), .val (.long q1), .second, .val (.long v762), .second, .val (.int x748)]) rfl (q := 19) rfl ?_
      refine k_iload K X752 d12_19 rfl (q := 21) rfl ?_
      refine k_aloadN K X752 d12_21 rfl rfl (q := 22) rfl ?_
      refine k_getfield K X752 e754 d12_22 (wd hw 18 rfl) F_a0_lanes (q := 25) rfl ?_
      intro T763 X764 e765
      refine k_iadd K X764 d12_25 (q := 26) rfl ?_
      obtain ⟨v766, hv_v766⟩ : ∃ z : Int32, (x748 + w_a0_lanes) = z := ⟨_, rfl⟩
      refine k_istore K X764 d12_26 hv_v766 (Ls' := #[.val (.ref a0), .val (.long q1), .second, .val (.long v762), .second, .val (.int v766)]) rfl (q := 28) rfl ?_
      refine k_goto K X764 d12_28 (by decide) (q := 5) rfl ?_
      have hu767 : U12_5_0 q1 w_a0_lanes x747 x748 = v762 := by simp only [U12_5_0, hv_v762, hv_v766]
      have hu768 : U12_5_1 q1 w_a0_lanes x747 x748 = v766 := by simp only [U12_5_1, hv_v762, hv_v766]
      have hR758' : L12_5_0 k q1 w_a0_lanes v762 v766 = (L12_5_0 (64 / w_a0_lanes.toInt.toNat) q1 w_a0_lanes (0 : Int64) (0 : Int32)) := by
        rw [← hR758]
        show _ = L12_5_0 k q1 w_a0_lanes (U12_5_0 q1 w_a0_lanes x747 x748) (U12_5_1 q1 w_a0_lanes x747 x748)
        rw [hu767, hu768]
      have hR759' : L12_5_1 k q1 w_a0_lanes v762 v766 = (L12_5_1 (64 / w_a0_lanes.toInt.toNat) q1 w_a0_lanes (0 : Int64) (0 : Int32)) := by
        rw [← hR759]
        show _ = L12_5_1 k q1 w_a0_lanes (U12_5_0 q1 w_a0_lanes x747 x748) (U12_5_1 q1 w_a0_lanes x747 x748)
        rw [hu767, hu768]
      exact ih v762 v766 T763 X764 e765 (by rw [← hv_v766]; exact (own_spn hi760).2) hR758' hR759'
  exact LP761 (64 / w_a0_lanes.toInt.toNat) (0 : Int64) (0 : Int32) T0 X0 e0 (own_sp0 (ob_0)) rfl rfl

def own_wl (k : Nat) (x : Int32) (n : Nat) : Prop := 0 ≤ x.toInt ∧ x.toInt + k = n ∧ n ≤ 4096
theorem own_wl0 {n : Nat} (h : n ≤ 4096) : own_wl n 0 n := ⟨by decide, by show (0 : Int) + n = n; omega, h⟩
theorem own_n32 {n : Nat} (h : n ≤ 4096) : (Nat.toInt32 n).toInt = n := Int32.toInt_ofNat_of_lt (by omega)
theorem own_wlz {x : Int32} {n : Nat} (h : own_wl 0 x n) : ¬ x < Nat.toInt32 n := by
  obtain ⟨a, b, c⟩ := h
  rw [own_ltI, own_n32 c]; omega
theorem own_wln {k : Nat} {x : Int32} {n : Nat} (h : own_wl (k + 1) x n) : x < Nat.toInt32 n ∧ own_wl k (x + 1) n ∧ (¬ x < 0 ∧ Int32.toNatClampNeg x < n) := by
  obtain ⟨a, b, c⟩ := h
  have s := c_iadd x 1; have r := rng32 (x + 1)
  have e1 : (1 : Int32).toInt = 1 := rfl
  have e0 : (0 : Int32).toInt = 0 := rfl
  refine ⟨by rw [own_ltI, own_n32 c]; omega, ⟨by omega, by omega, c⟩, by rw [own_ltI]; omega, ?_⟩
  simp only [Int32.toNatClampNeg]; omega
theorem d6_40 : decode prog_14_method_6_code 40 = .ok (.aload_n 0, 1) := by decide +kernel
theorem d6_41 : decode prog_14_method_6_code 41 = .ok (.aload_n 0, 1) := by decide +kernel
theorem d6_42 : decode prog_14_method_6_code 42 = .ok (.getfield 56, 3) := by decide +kernel
theorem d6_45 : decode prog_14_method_6_code 45 = .ok (.invokevirtual 59, 3) := by decide +kernel
theorem pd_2 : parseMethodDescriptor "(J)J" = some ⟨[.long], some .long⟩ := by decide +kernel
theorem d6_48 : decode prog_14_method_6_code 48 = .ok (.ldc2_w 63, 3) := by decide +kernel
theorem d6_51 : decode prog_14_method_6_code 51 = .ok (.lxor, 1) := by decide +kernel
theorem d6_52 : decode prog_14_method_6_code 52 = .ok (.lstore 4, 2) := by decide +kernel
theorem d6_54 : decode prog_14_method_6_code 54 = .ok (.iconst 0, 1) := by decide +kernel
theorem d6_55 : decode prog_14_method_6_code 55 = .ok (.istore 6, 2) := by decide +kernel
theorem d6_57 : decode prog_14_method_6_code 57 = .ok (.iload 6, 2) := by decide +kernel
theorem d6_59 : decode prog_14_method_6_code 59 = .ok (.aload_n 0, 1) := by decide +kernel
theorem d6_60 : decode prog_14_method_6_code 60 = .ok (.getfield 42, 3) := by decide +kernel
theorem d6_63 : decode prog_14_method_6_code 63 = .ok (.arraylength, 1) := by decide +kernel
theorem d6_64 : decode prog_14_method_6_code 64 = .ok (.if_icmp .ge 21, 3) := by decide +kernel
theorem d6_85 : decode prog_14_method_6_code 85 = .ok (.aload_n 0, 1) := by decide +kernel
theorem d6_86 : decode prog_14_method_6_code 86 = .ok (.lconst 0, 1) := by decide +kernel
theorem d6_87 : decode prog_14_method_6_code 87 = .ok (.putfield 56, 3) := by decide +kernel
theorem d6_67 : decode prog_14_method_6_code 67 = .ok (.aload_n 0, 1) := by decide +kernel
theorem d6_68 : decode prog_14_method_6_code 68 = .ok (.getfield 42, 3) := by decide +kernel
theorem d6_71 : decode prog_14_method_6_code 71 = .ok (.iload 6, 2) := by decide +kernel
theorem d6_73 : decode prog_14_method_6_code 73 = .ok (.dup2, 1) := by decide +kernel
theorem d6_74 : decode prog_14_method_6_code 74 = .ok (.laload, 1) := by decide +kernel
theorem d6_75 : decode prog_14_method_6_code 75 = .ok (.lload 4, 2) := by decide +kernel
theorem d6_77 : decode prog_14_method_6_code 77 = .ok (.land, 1) := by decide +kernel
theorem d6_78 : decode prog_14_method_6_code 78 = .ok (.lastore, 1) := by decide +kernel
theorem d6_79 : decode prog_14_method_6_code 79 = .ok (.iinc 6 1, 3) := by decide +kernel
theorem d6_82 : decode prog_14_method_6_code 82 = .ok (.goto (-25), 3) := by decide +kernel
theorem ef_62 (a0 : Addr) (p1 : Int32) : ∀ m : MethodId, entryFrame m #[(.ref a0), (.int p1)] 7 = mkF m 0 #[.val (.ref a0), .val (.int p1), .unset, .unset, .unset, .unset, .unset] [] := by intro m; first | (simp [entryFrame, mkF, argsToLocals, Value.category]; done) | rfl
def U6_572_0 (p1 : Int32) (w_a0_inUse : Int64) (w_a0_dirty : Int64) (w_a0_lanes : Int32) (n_w_a0_words : Nat) (g_w_a0_words : Nat → Int64) (w_a0_laneShift : Int32) (v1075 : Int64) (v1088 : Int64) (x1089 : Int32) (x1090 : Nat → Int64) : Int32 :=
  let v1152 : Int64 := (x1090 (Int32.toNatClampNeg x1089))
  let v1153 : Nat → Int64 := (upd x1090 (Int32.toNatClampNeg x1089) (v1152 &&& v1088))
  let v1170 : Int32 := (x1089 + (1 : Int32))
  v1170
def U6_572_1 (p1 : Int32) (w_a0_inUse : Int64) (w_a0_dirty : Int64) (w_a0_lanes : Int32) (n_w_a0_words : Nat) (g_w_a0_words : Nat → Int64) (w_a0_laneShift : Int32) (v1075 : Int64) (v1088 : Int64) (x1089 : Int32) (x1090 : Nat → Int64) : Nat → Int64 :=
  let v1152 : Int64 := (x1090 (Int32.toNatClampNeg x1089))
  let v1153 : Nat → Int64 := (upd x1090 (Int32.toNatClampNeg x1089) (v1152 &&& v1088))
  let v1170 : Int32 := (x1089 + (1 : Int32))
  v1153
def L6_572_0 (k : Nat) (p1 : Int32) (w_a0_inUse : Int64) (w_a0_dirty : Int64) (w_a0_lanes : Int32) (n_w_a0_words : Nat) (g_w_a0_words : Nat → Int64) (w_a0_laneShift : Int32) (v1075 : Int64) (v1088 : Int64) : Int32 → (Nat → Int64) → Int32 := match k with
  | 0 => fun x1089 x1090 => x1089
  | k + 1 => fun x1089 x1090 => L6_572_0 k p1 w_a0_inUse w_a0_dirty w_a0_lanes n_w_a0_words g_w_a0_words w_a0_laneShift v1075 v1088 (U6_572_0 p1 w_a0_inUse w_a0_dirty w_a0_lanes n_w_a0_words g_w_a0_words w_a0_laneShift v1075 v1088 x1089 x1090) (U6_572_1 p1 w_a0_inUse w_a0_dirty w_a0_lanes n_w_a0_words g_w_a0_words w_a0_laneShift v1075 v1088 x1089 x1090)
def L6_572_1 (k : Nat) (p1 : Int32) (w_a0_inUse : Int64) (w_a0_dirty : Int64) (w_a0_lanes : Int32) (n_w_a0_words : Nat) (g_w_a0_words : Nat → Int64) (w_a0_laneShift : Int32) (v1075 : Int64) (v1088 : Int64) : Int32 → (Nat → Int64) → Nat → Int64 := match k with
  | 0 => fun x1089 x1090 => x1090
  | k + 1 => fun x1089 x1090 => L6_572_1 k p1 w_a0_inUse w_a0_dirty w_a0_lanes n_w_a0_words g_w_a0_words w_a0_laneShift v1075 v1088 (U6_572_0 p1 w_a0_inUse w_a0_dirty w_a0_lanes n_w_a0_words g_w_a0_words w_a0_laneShift v1075 v1088 x1089 x1090) (U6_572_1 p1 w_a0_inUse w_a0_dirty w_a0_lanes n_w_a0_words g_w_a0_words w_a0_laneShift v1075 v1088 x1089 x1090)
def F_take2_a0_dirty (p1 : Int32) (w_a0_inUse : Int64) (w_a0_dirty : Int64) (w_a0_lanes : Int32) (n_w_a0_words : Nat) (g_w_a0_words : Nat → Int64) (w_a0_laneShift : Int32) : Int64 :=
  let v1075 : Int64 := (shlL (1 : Int64) p1)
  let v1088 : Int64 := ((F_spread w_a0_dirty w_a0_lanes) ^^^ (-1 : Int64))
  let x1089 : Int32 := (L6_572_0 n_w_a0_words p1 w_a0_inUse w_a0_dirty w_a0_lanes n_w_a0_words g_w_a0_words w_a0_laneShift v1075 v1088 (0 : Int32) g_w_a0_words)
  let x1090 : Nat → Int64 := (L6_572_1 n_w_a0_words p1 w_a0_inUse w_a0_dirty w_a0_lanes n_w_a0_words g_w_a0_words w_a0_laneShift v1075 v1088 (0 : Int32) g_w_a0_words)
  (0 : Int64)
def F_take2_a0_inUse (p1 : Int32) (w_a0_inUse : Int64) (w_a0_dirty : Int64) (w_a0_lanes : Int32) (n_w_a0_words : Nat) (g_w_a0_words : Nat → Int64) (w_a0_laneShift : Int32) : Int64 :=
  let v1075 : Int64 := (shlL (1 : Int64) p1)
  let v1088 : Int64 := ((F_spread w_a0_dirty w_a0_lanes) ^^^ (-1 : Int64))
  let x1089 : Int32 := (L6_572_0 n_w_a0_words p1 w_a0_inUse w_a0_dirty w_a0_lanes n_w_a0_words g_w_a0_words w_a0_laneShift v1075 v1088 (0 : Int32) g_w_a0_words)
  let x1090 : Nat → Int64 := (L6_572_1 n_w_a0_words p1 w_a0_inUse w_a0_dirty w_a0_lanes n_w_a0_words g_w_a0_words w_a0_laneShift v1075 v1088 (0 : Int32) g_w_a0_words)
  (w_a0_inUse ||| v1075)
def F_take2_w_a0_words_g (p1 : Int32) (w_a0_inUse : Int64) (w_a0_dirty : Int64) (w_a0_lanes : Int32) (n_w_a0_words : Nat) (g_w_a0_words : Nat → Int64) (w_a0_laneShift : Int32) : Nat → Int64 :=
  let v1075 : Int64 := (shlL (1 : Int64) p1)
  let v1088 : Int64 := ((F_spread w_a0_dirty w_a0_lanes) ^^^ (-1 : Int64))
  let x1089 : Int32 := (L6_572_0 n_w_a0_words p1 w_a0_inUse w_a0_dirty w_a0_lanes n_w_a0_words g_w_a0_words w_a0_laneShift v1075 v1088 (0 : Int32) g_w_a0_words)
  let x1090 : Nat → Int64 := (L6_572_1 n_w_a0_words p1 w_a0_inUse w_a0_dirty w_a0_lanes n_w_a0_words g_w_a0_words w_a0_laneShift v1075 v1088 (0 : Int32) g_w_a0_words)
  x1090
set_option maxRecDepth 65536 in
set_option maxHeartbeats 40000000 in
theorem rm62 (l : Launch) (Z : State) (az : Array Value) (hw : ∀ d ∈ tables_1, d.before az Z = true) (ws : List Jvm.Cond) (a0 : Addr) (p1 : Int32) (w_a0_inUse : Int64) (w_a0_dirty : Int64) (w_a0_lanes : Int32) (w_a0_words : Addr) (n_w_a0_words : Nat) (g_w_a0_words : Nat → Int64) (w_a0_laneShift : Int32) (h0 : Heap) (n0 : Nat) (Z0 : n0 ≤ h0.size) (F_a0_inUse : Fld Z h0 a0 "com/example/dayflower/dayflower/filter/FilterSlab" "inUse" "J" (.long w_a0_inUse)) (F_a0_dirty : Fld Z h0 a0 "com/example/dayflower/dayflower/filter/FilterSlab" "dirty" "J" (.long w_a0_dirty)) (F_a0_lanes : Fld Z h0 a0 "com/example/dayflower/dayflower/filter/FilterSlab" "lanes" "I" (.int w_a0_lanes)) (E_a0 : Exa Z h0 a0 "com/example/dayflower/dayflower/filter/FilterSlab") (F_a0_words : Fld Z h0 a0 "com/example/dayflower/dayflower/filter/FilterSlab" "words" "[J" (.ref w_a0_words)) (A_w_a0_words : Ary Z h0 w_a0_words .long n_w_a0_words (fun i => Value.long (g_w_a0_words i))) (ge_a0 : n0 ≤ a0) (ne_w_a0_words_a0 : w_a0_words ≠ a0) (ge_w_a0_words : n0 ≤ w_a0_words) (F_a0_laneShift : Fld Z h0 a0 "com/example/dayflower/dayflower/filter/FilterSlab" "laneShift" "I" (.int w_a0_laneShift)) (ob_0 : ∀ (v1075 : Int64), (shlL (1 : Int64) p1) = v1075 → (w_a0_inUse &&& v1075) = (0 : Int64)) (ob_1 : ∀ (v1075 : Int64), (shlL (1 : Int64) p1) = v1075 → ¬ ((w_a0_dirty &&& v1075) = (0 : Int64))) (ob_2 : (own_ln w_a0_lanes)) (ob_3 : n_w_a0_words ≤ 4096) :
    Met l (⟨"com/example/dayflower/dayflower/filter/FilterSlab", "take", "(I)V"⟩ : MethodName) prog_14_method_6_code 7 none ws ({ frames := 1, cells := 0, slots := 0, locals := 17 } : Room) Z #[(.ref a0), (.int p1)] h0 (fun v h' L => v = none ∧ Fr n0 L ∧ Keep h0 h' [a0, w_a0_words] ∧ Fld Z h' a0 "com/example/dayflower/dayflower/filter/FilterSlab" "dirty" "J" (.long (F_take2_a0_dirty p1 w_a0_inUse w_a0_dirty w_a0_lanes n_w_a0_words g_w_a0_words w_a0_laneShift)) ∧ Fld Z h' a0 "com/example/dayflower/dayflower/filter/FilterSlab" "inUse" "J" (.long (F_take2_a0_inUse p1 w_a0_inUse w_a0_dirty w_a0_lanes n_w_a0_words g_w_a0_words w_a0_laneShift)) ∧ Fld Z h' a0 "com/example/dayflower/dayflower/filter/FilterSlab" "laneShift" "I" (.int w_a0_laneShift) ∧ Fld Z h' a0 "com/example/dayflower/dayflower/filter/FilterSlab" "lanes" "I" (.int w_a0_lanes) ∧ Fld Z h' a0 "com/example/dayflower/dayflower/filter/FilterSlab" "words" "[J" (.ref w_a0_words) ∧ Ary Z h' w_a0_words .long n_w_a0_words (fun i => Value.long ((F_take2_w_a0_words_g p1 w_a0_inUse w_a0_dirty w_a0_lanes n_w_a0_words g_w_a0_words w_a0_laneShift) i))) := by
  refine enter (plainFor_of_name pn_1) (ef_62 a0 p1) ?_
  intro p e s m below meth c T0 kc kn Q hkc hkn hQ K' X0 e0
  have K : Fx p s m meth c prog_14_method_6_code 7 "com/example/dayflower/dayflower/filter/FilterSlab" "take" none Z := K'
  have N0 := Fr.nil n0
  have K0 : Keep h0 h0 [a0, w_a0_words] := Keep.refl _ _
  refine k_lconst1 K X0 d6_0 (q := 1) rfl ?_
  refine k_iloadN K X0 d6_1 rfl (q := 2) rfl ?_
  refine k_lshl K X0 d6_2 (q := 3) rfl ?_
  obtain ⟨v1075, hv_v1075⟩ : ∃ z : Int64, (shlL (1 : Int64) p1) = z := ⟨_, rfl⟩
  refine k_lstoreN K X0 d6_3 hv_v1075 (Ls' := #[.val (.ref a0), .val (.int p1), .val (.long v1075), .second, .unset, .unset, .unset]) rfl (q := 4) rfl ?_
  refine k_aloadN K X0 d6_4 rfl rfl (q := 5) rfl ?_
  refine k_getfield K X0 e0 d6_5 (wd hw 38 rfl) F_a0_inUse (q := 8) rfl ?_
  intro T1076 X1077 e1078
  refine k_lloadN K X1077 d6_8 rfl (q := 9) rfl ?_
  refine k_land K X1077 d6_9 (q := 10) rfl ?_
  refine k_lconst0 K X1077 d6_10 (q := 11) rfl ?_
  refine k_lcmp K X1077 d6_11 (q := 12) rfl ?_
  refine k_lcmp_eq_y K X1077 d6_12 (ob_0 v1075 hv_v1075) (by decide) (q := 29) rfl ?_
  refine k_aloadN K X1077 d6_29 rfl rfl (q := 30) rfl ?_
  refine k_getfield K X1077 e1078 d6_30 (wd hw 40 rfl) F_a0_dirty (q := 33) rfl ?_
  intro T1079 X1080 e1081
  refine k_lloadN K X1080 d6_33 rfl (q := 34) rfl ?_
  refine k_land K X1080 d6_34 (q := 35) rfl ?_
  refine k_lconst0 K X1080 d6_35 (q := 36) rfl ?_
  refine k_lcmp K X1080 d6_36 (q := 37) rfl ?_
  refine k_lcmp_eq_n K X1080 d6_37 (ob_1 v1075 hv_v1075) (q := 40) rfl ?_
  refine k_aloadN K X1080 d6_40 rfl rfl (q := 41) rfl ?_
  refine k_aloadN K X1080 d6_41 rfl rfl (q := 42) rfl ?_
  refine k_getfield K X1080 e1081 d6_42 (wd hw 40 rfl) F_a0_dirty (q := 45) rfl ?_
  intro T1082 X1083 e1084
  refine k_privateP K X1083 e1084 d6_45 (wd hw 68 rfl) (wd hw 70 rfl) (wd hw 3 rfl) (wd hw 69 rfl) (wd hw 4 rfl) (wd hw 71 rfl) (by decide) E_a0 (rm12 l Z az hw [] a0 w_a0_dirty w_a0_lanes h0 F_a0_lanes (ob_2)) (W := 0) (by decide) (by decide) (by decide) (by decide) rfl pd_2 (argsL := [(.long w_a0_dirty)]) (rest := []) rfl rfl rfl (Nat.le_of_eq rfl) (q := 48) rfl ?_
  intro T1085 X1086 e1087
  refine k_ldc2 K X1086 d6_48 (wd hw 52 rfl) (q := 51) rfl ?_
  refine k_lxor K X1086 d6_51 (q := 52) rfl ?_
  obtain ⟨v1088, hv_v1088⟩ : ∃ z : Int64, ((F_spread w_a0_dirty w_a0_lanes) ^^^ (-1 : Int64)) = z := ⟨_, rfl⟩
  refine k_lstore K X1086 d6_52 hv_v1088 (Ls' := #[.val (.ref a0), .val (.int p1), .val (.long v1075), .second, .val (.long v1088), .second, .unset]) rfl (q := 54) rfl ?_
  refine k_iconst K X1086 d6_54 (v := (0 : Int32)) rfl (q := 55) rfl ?_
  refine k_istore K X1086 d6_55 rfl (Ls' := #[.val (.ref a0), .val (.int p1), .val (.long v1075), .second, .val (.long v1088), .second, .val (.int (0 : Int32))]) rfl (q := 57) rfl ?_
  have LP1109 : ∀ (k : Nat) (x1089 : Int32) (x1090 : Nat → Int64) (T1091 : State) (h1092 : Heap) (Lc1093 : List Loc), Stand p l e ({ frames := 1, cells := 0, slots := 0, locals := 17 } : Room) s m #[(.ref a0), (.int p1)] below meth c T1091 Lc1093 0 0 → Fr n0 Lc1093 → T1091.heap = h1092 → Keep h0 h1092 [a0, w_a0_words] → n0 ≤ h1092.size → Fld Z h1092 a0 "com/example/dayflower/dayflower/filter/FilterSlab" "inUse" "J" (.long w_a0_inUse) → Fld Z h1092 a0 "com/example/dayflower/dayflower/filter/FilterSlab" "dirty" "J" (.long w_a0_dirty) → Fld Z h1092 a0 "com/example/dayflower/dayflower/filter/FilterSlab" "lanes" "I" (.int w_a0_lanes) → Exa Z h1092 a0 "com/example/dayflower/dayflower/filter/FilterSlab" → Fld Z h1092 a0 "com/example/dayflower/dayflower/filter/FilterSlab" "words" "[J" (.ref w_a0_words) → Ary Z h1092 w_a0_words .long n_w_a0_words (fun i => Value.long (x1090 i)) → Fld Z h1092 a0 "com/example/dayflower/dayflower/filter/FilterSlab" "laneShift" "I" (.int w_a0_laneShift) → own_wl k x1089 n_w_a0_words → L6_572_0 k p1 w_a0_inUse w_a0_dirty w_a0_lanes n_w_a0_words g_w_a0_words w_a0_laneShift v1075 v1088 x1089 x1090 = (L6_572_0 n_w_a0_words p1 w_a0_inUse w_a0_dirty w_a0_lanes n_w_a0_words g_w_a0_words w_a0_laneShift v1075 v1088 (0 : Int32) g_w_a0_words) → L6_572_1 k p1 w_a0_inUse w_a0_dirty w_a0_lanes n_w_a0_words g_w_a0_words w_a0_laneShift v1075 v1088 x1089 x1090 = (L6_572_1 n_w_a0_words p1 w_a0_inUse w_a0_dirty w_a0_lanes n_w_a0_words g_w_a0_words w_a0_laneShift v1075 v1088 (0 : Int32) g_w_a0_words) → Run p e below s kc kn Q T1091 (mkF m 57 #[.val (.ref a0), .val (.int p1), .val (.long v1075), .second, .val (.long v1088), .second, .val (.int x1089)] []) := by
    intro k
    induction k with
    | zero =>
      intro x1089 x1090 T1091 h1092 Lc1093 X1094 N1095 e1096 K1097 Z1098 f1099 f1100 f1101 f1102 f1103 f1104 f1105 hi1108 hR1106 hR1107
      have hv_x1089 : (L6_572_0 n_w_a0_words p1 w_a0_inUse w_a0_dirty w_a0_lanes n_w_a0_words g_w_a0_words w_a0_laneShift v1075 v1088 (0 : Int32) g_w_a0_words) = x1089 := hR1106.symm
      have hv_x1090 : (L6_572_1 n_w_a0_words p1 w_a0_inUse w_a0_dirty w_a0_lanes n_w_a0_words g_w_a0_words w_a0_laneShift v1075 v1088 (0 : Int32) g_w_a0_words) = x1090 := hR1107.symm
      refine k_iload K X1094 d6_57 rfl (q := 59) rfl ?_
      refine k_aloadN K X1094 d6_59 rfl rfl (q := 60) rfl ?_
      refine k_getfield K X1094 e1096 d6_60 (wd hw 31 rfl) f1103 (q := 63) rfl ?_
      intro T1110 X1111 e1112
      refine k_arraylength K X1111 e1112 d6_63 f1104 (v := (Nat.toInt32 n_w_a0_words)) rfl (q := 64) rfl ?_
      refine k_icmp_ge_y K X1111 d6_64 (own_wlz hi1108) (by decide) (q := 85) rfl ?_
      refine k_aloadN K X1111 d6_85 rfl rfl (q := 86) rfl ?_
      refine k_lconst0 K X1111 d6_86 (q := 87) rfl ?_
      refine k_putfield K X1111 e1112 d6_87 (wd hw 40 rfl) f1100 f1102 (Or.inl (wd hw 41 rfl)) (wd hw 3 rfl) (ty := .long) (by decide) rfl rfl (q := 90) rfl ?_
      intro T1113 h1114 X1115 e1116 W1117
      have f1118 := Fld.same W1117 f1100
      have f1119 := Fld.other W1117 f1099 (Or.inr (slot_ne (Or.inl (wd hw 39 rfl)) (Or.inl (wd hw 41 rfl)) (by decide) (t := .long) (t' := .long) (by decide) (by decide)))
      have f1120 := Fld.other W1117 f1101 (Or.inr (slot_ne (Or.inr (wd hw 19 rfl)) (Or.inl (wd hw 41 rfl)) (by decide) (t := .int) (t' := .long) (by decide) (by decide)))
      have f1121 := Exa.wr W1117 f1102
      have f1122 := Fld.other W1117 f1103 (Or.inr (slot_ne (Or.inr (wd hw 32 rfl)) (Or.inl (wd hw 41 rfl)) (by decide) (t := (.array .long)) (t' := .long) (by decide) (by decide)))
      have f1123 := Ary.other f1104 W1117 ne_w_a0_words_a0
      have f1124 := Fld.other W1117 f1105 (Or.inr (slot_ne (Or.inr (wd hw 24 rfl)) (Or.inl (wd hw 41 rfl)) (by decide) (t := .int) (t' := .long) (by decide) (by decide)))
      have N1125 := Fr.snoc X1115 N1095 ge_a0
      have K1126 := Keep.wr K1097 W1117 (Or.inl (List.mem_of_getElem? (i := 0) rfl))
      have Z1127 := Nat.le_trans Z1098 (Nat.le_of_eq (Wr.size W1117).symm)
      refine k_aloadN K X1115 d6_90 rfl rfl (q := 91) rfl ?_
      refine k_dup K X1115 d6_91 rfl (q := 92) rfl ?_
      refine k_getfield K X1115 e1116 d6_92 (wd hw 38 rfl) f1119 (q := 95) rfl ?_
      intro T1128 X1129 e1130
      refine k_lloadN K X1129 d6_95 rfl (q := 96) rfl ?_
      refine k_lor K X1129 d6_96 (q := 97) rfl ?_
      refine k_putfield K X1129 e1130 d6_97 (wd hw 38 rfl) f1119 f1121 (Or.inl (wd hw 39 rfl)) (wd hw 3 rfl) (ty := .long) (by decide) rfl rfl (q := 100) rfl ?_
      intro T1131 h1132 X1133 e1134 W1135
      have f1136 := Fld.same W1135 f1119
      have f1137 := Fld.other W1135 f1120 (Or.inr (slot_ne (Or.inr (wd hw 19 rfl)) (Or.inl (wd hw 39 rfl)) (by decide) (t := .int) (t' := .long) (by decide) (by decide)))
      have f1138 := Exa.wr W1135 f1121
      have f1139 := Fld.other W1135 f1122 (Or.inr (slot_ne (Or.inr (wd hw 32 rfl)) (Or.inl (wd hw 39 rfl)) (by decide) (t := (.array .long)) (t' := .long) (by decide) (by decide)))
      have f1140 := Ary.other f1123 W1135 ne_w_a0_words_a0
      have f1141 := Fld.other W1135 f1124 (Or.inr (slot_ne (Or.inr (wd hw 24 rfl)) (Or.inl (wd hw 39 rfl)) (by decide) (t := .int) (t' := .long) (by decide) (by decide)))
      have f1142 := Fld.other W1135 f1118 (Or.inr (slot_ne (Or.inl (wd hw 41 rfl)) (Or.inl (wd hw 39 rfl)) (by decide) (t := .long) (t' := .long) (by decide) (by decide)))
      have N1143 := Fr.snoc X1133 N1125 ge_a0
      have K1144 := Keep.wr K1126 W1135 (Or.inl (List.mem_of_getElem? (i := 0) rfl))
      have Z1145 := Nat.le_trans Z1127 (Nat.le_of_eq (Wr.size W1135).symm)
      exact k_retv K X1133 e1134 d6_100 (Nat.le_trans (by decide) hkc) (Nat.le_trans (by decide) hkn) (hQ _ _ _ ⟨rfl, N1143, K1144, (by rw [(show F_take2_a0_dirty p1 w_a0_inUse w_a0_dirty w_a0_lanes n_w_a0_words g_w_a0_words w_a0_laneShift = (0 : Int64) from by first | (simp only [F_take2_a0_dirty, hv_v1075, hv_v1088, hv_x1089, hv_x1090]; done) | (subst hv_v1075; subst hv_v1088; subst hv_x1089; subst hv_x1090; simp only [F_take2_a0_dirty]))]; exact f1142), (by rw [(show F_take2_a0_inUse p1 w_a0_inUse w_a0_dirty w_a0_lanes n_w_a0_words g_w_a0_words w_a0_laneShift = (w_a0_inUse ||| v1075) from by first | (simp only [F_take2_a0_inUse, hv_v1075, hv_v1088, hv_x1089, hv_x1090]; done) | (subst hv_v1075; subst hv_v1088; subst hv_x1089; subst hv_x1090; simp only [F_take2_a0_inUse]))]; exact f1136), f1141, f1137, f1139, (by rw [(show F_take2_w_a0_words_g p1 w_a0_inUse w_a0_dirty w_a0_lanes n_w_a0_words g_w_a0_words w_a0_laneShift = x1090 from by first | (simp only [F_take2_w_a0_words_g, hv_v1075, hv_v1088, hv_x1089, hv_x1090]; done) | (subst hv_v1075; subst hv_v1088; subst hv_x1089; subst hv_x1090; simp only [F_take2_w_a0_words_g]))]; exact f1140)⟩)
    | succ k ih =>
      intro x1089 x1090 T1091 h1092 Lc1093 X1094 N1095 e1096 K1097 Z1098 f1099 f1100 f1101 f1102 f1103 f1104 f1105 hi1108 hR1106 hR1107
      refine k_iload K X1094 d6_57 rfl (q := 59) rfl ?_
      refine k_aloadN K X1094 d6_59 rfl rfl (q := 60) rfl ?_
      refine k_getfield K X1094 e1096 d6_60 (wd hw 31 rfl) f1103 (q := 63) rfl ?_
      intro T1146 X1147 e1148
      refine k_arraylength K X1147 e1148 d6_63 f1104 (v := (Nat.toInt32 n_w_a0_words)) rfl (q := 64) rfl ?_
      refine k_icmp_ge_n K X1147 d6_64 (own_wln hi1108).1 (q := 67) rfl ?_
      refine k_aloadN K X1147 d6_67 rfl rfl (q := 68) rfl ?_
      refine k_getfield K X1147 e1148 d6_68 (wd hw 31 rfl) f1103 (q := 71) rfl ?_
      intro T1149 X1150 e1151
      refine k_iload K X1150 d6_71 rfl (q := 73) rfl ?_
      refine k_dup2 K X1150 d6_73 rfl rfl (q := 74) rfl ?_
      refine k_laload K X1150 e1151 d6_74 f1104 (i := (Int32.toNatClampNeg x1089)) (v := (.long (x1090 (Int32.toNatClampNeg x1089)))) ⟨(own_wln hi1108).2.2.1, rfl⟩ (own_wln hi1108).2.2.2 rfl (q := 75) rfl ?_
      obtain ⟨v1152, hv_v1152⟩ : ∃ z : Int64, (x1090 (Int32.toNatClampNeg x1089)) = z := ⟨_, rfl⟩
      refine k_nameJ hv_v1152 ?_
      refine k_lload K X1150 d6_75 rfl (q := 77) rfl ?_
      refine k_land K X1150 d6_77 (q := 78) rfl ?_
      obtain ⟨v1153, hv_v1153⟩ : ∃ z : Nat → Int64, (upd x1090 (Int32.toNatClampNeg x1089) (v1152 &&& v1088)) = z := ⟨_, rfl⟩
      refine k_lastore K X1150 e1151 d6_78 f1104 (i := (Int32.toNatClampNeg x1089)) ⟨(own_wln hi1108).2.2.1, rfl⟩ (own_wln hi1108).2.2.2 (q := 79) rfl ?_
      intro T1154 h1155 X1156 e1157 W1158 A1159
      have f1160 : Ary Z h1155 w_a0_words .long n_w_a0_words (fun i => Value.long (v1153 i)) := Ary.eqv A1159 (fun k _ => by rw [← hv_v1153]; show (if k = (Int32.toNatClampNeg x1089) then _ else _) = _; unfold upd; split <;> rfl)
      have f1161 := Fld.other W1158 f1099 (Or.inl (Ne.symm ne_w_a0_words_a0))
      have f1162 := Fld.other W1158 f1100 (Or.inl (Ne.symm ne_w_a0_words_a0))
      have f1163 := Fld.other W1158 f1101 (Or.inl (Ne.symm ne_w_a0_words_a0))
      have f1164 := Exa.wr W1158 f1102
      have f1165 := Fld.other W1158 f1103 (Or.inl (Ne.symm ne_w_a0_words_a0))
      have f1166 := Fld.other W1158 f1105 (Or.inl (Ne.symm ne_w_a0_words_a0))
      have N1167 := Fr.snoc X1156 N1095 ge_w_a0_words
      have K1168 := Keep.wr K1097 W1158 (Or.inl (List.mem_of_getElem? (i := 1) rfl))
      have Z1169 := Nat.le_trans Z1098 (Nat.le_of_eq (Wr.size W1158).symm)
      obtain ⟨v1170, hv_v1170⟩ : ∃ z : Int32, (x1089 + (1 : Int32)) = z := ⟨_, rfl⟩
      refine k_iinc K X1156 d6_79 rfl hv_v1170 (Ls' := #[.val (.ref a0), .val (.int p1), .val (.long v1075), .second, .val (.long v1088), .second, .val (.int v1170)]) rfl (q := 82) rfl ?_
      refine k_goto K X1156 d6_82 (by decide) (q := 57) rfl ?_
      have hu1171 : U6_572_0 p1 w_a0_inUse w_a0_dirty w_a0_lanes n_w_a0_words g_w_a0_words w_a0_laneShift v1075 v1088 x1089 x1090 = v1170 := by simp only [U6_572_0, hv_v1152, hv_v1153, hv_v1170]
      have hu1172 : U6_572_1 p1 w_a0_inUse w_a0_dirty w_a0_lanes n_w_a0_words g_w_a0_words w_a0_laneShift v1075 v1088 x1089 x1090 = v1153 := by simp only [U6_572_1, hv_v1152, hv_v1153, hv_v1170]
      have hR1106' : L6_572_0 k p1 w_a0_inUse w_a0_dirty w_a0_lanes n_w_a0_words g_w_a0_words w_a0_laneShift v1075 v1088 v1170 v1153 = (L6_572_0 n_w_a0_words p1 w_a0_inUse w_a0_dirty w_a0_lanes n_w_a0_words g_w_a0_words w_a0_laneShift v1075 v1088 (0 : Int32) g_w_a0_words) := by
        rw [← hR1106]
        show _ = L6_572_0 k p1 w_a0_inUse w_a0_dirty w_a0_lanes n_w_a0_words g_w_a0_words w_a0_laneShift v1075 v1088 (U6_572_0 p1 w_a0_inUse w_a0_dirty w_a0_lanes n_w_a0_words g_w_a0_words w_a0_laneShift v1075 v1088 x1089 x1090) (U6_572_1 p1 w_a0_inUse w_a0_dirty w_a0_lanes n_w_a0_words g_w_a0_words w_a0_laneShift v1075 v1088 x1089 x1090)
        rw [hu1171, hu1172]
      have hR1107' : L6_572_1 k p1 w_a0_inUse w_a0_dirty w_a0_lanes n_w_a0_words g_w_a0_words w_a0_laneShift v1075 v1088 v1170 v1153 = (L6_572_1 n_w_a0_words p1 w_a0_inUse w_a0_dirty w_a0_lanes n_w_a0_words g_w_a0_words w_a0_laneShift v1075 v1088 (0 : Int32) g_w_a0_words) := by
        rw [← hR1107]
        show _ = L6_572_1 k p1 w_a0_inUse w_a0_dirty w_a0_lanes n_w_a0_words g_w_a0_words w_a0_laneShift v1075 v1088 (U6_572_0 p1 w_a0_inUse w_a0_dirty w_a0_lanes n_w_a0_words g_w_a0_words w_a0_laneShift v1075 v1088 x1089 x1090) (U6_572_1 p1 w_a0_inUse w_a0_dirty w_a0_lanes n_w_a0_words g_w_a0_words w_a0_laneShift v1075 v1088 x1089 x1090)
        rw [hu1171, hu1172]
      exact ih v1170 v1153 T1154 _ _ X1156 N1167 e1157 K1168 Z1169 f1161 f1162 f1163 f1164 f1165 f1160 f1166 (by rw [← hv_v1170]; exact (own_wln hi1108).2.1) hR1106' hR1107'
  exact LP1109 n_w_a0_words (0 : Int32) g_w_a0_words T1085 _ _ X1086 N0 e1087 K0 Z0 F_a0_inUse F_a0_dirty F_a0_lanes E_a0 F_a0_words A_w_a0_words F_a0_laneShift (own_wl0 (ob_3)) rfl rfl

def own_T (k l W : Int32) : Prop := (k = 0 ∧ l = 1 ∧ W = 64) ∨ (k = 1 ∧ l = 2 ∧ W = 32) ∨ (k = 2 ∧ l = 4 ∧ W = 16) ∨ (k = 3 ∧ l = 8 ∧ W = 8) ∨ (k = 4 ∧ l = 16 ∧ W = 4) ∨ (k = 5 ∧ l = 32 ∧ W = 2) ∨ (k = 6 ∧ l = 64 ∧ W = 1)
theorem own_e6 (t : Int32) (h1 : 0 ≤ t.toInt) (h2 : t.toInt ≤ 6) : own_T t (shlI 1 t) (shrI 64 t) := by
  have h : t.toInt = 0 ∨ t.toInt = 1 ∨ t.toInt = 2 ∨ t.toInt = 3 ∨ t.toInt = 4 ∨ t.toInt = 5 ∨ t.toInt = 6 := by omega
  unfold own_T
  rcases h with h | h | h | h | h | h | h
  · obtain rfl : t = 0 := Int32.toInt_inj.mp (h.trans (by decide))
    decide
  · obtain rfl : t = 1 := Int32.toInt_inj.mp (h.trans (by decide))
    decide
  · obtain rfl : t = 2 := Int32.toInt_inj.mp (h.trans (by decide))
    decide
  · obtain rfl : t = 3 := Int32.toInt_inj.mp (h.trans (by decide))
    decide
  · obtain rfl : t = 4 := Int32.toInt_inj.mp (h.trans (by decide))
    decide
  · obtain rfl : t = 5 := Int32.toInt_inj.mp (h.trans (by decide))
    decide
  · obtain rfl : t = 6 := Int32.toInt_inj.mp (h.trans (by decide))
    decide
theorem own_T_of (p : Int32) : own_T ((p &&& 7) % 7) (shlI 1 ((p &&& 7) % 7)) (shrI 64 ((p &&& 7) % 7)) := by
  have a1 := (c_and p 7 (by decide)).1
  have a2 := (c_irem (p &&& 7) 7 7 rfl).1 a1
  exact own_e6 _ (by omega) (by omega)
theorem own_T_ntz {k l W : Int32} (h : own_T k l W) : F_numberOfTrailingZeros l = k := by rcases h with ⟨rfl, rfl, rfl⟩ | ⟨rfl, rfl, rfl⟩ | ⟨rfl, rfl, rfl⟩ | ⟨rfl, rfl, rfl⟩ | ⟨rfl, rfl, rfl⟩ | ⟨rfl, rfl, rfl⟩ | ⟨rfl, rfl, rfl⟩ <;> decide +kernel
theorem own_T_bc {k l W : Int32} (h : own_T k l W) : F_bitCount l = 1 := by rcases h with ⟨rfl, rfl, rfl⟩ | ⟨rfl, rfl, rfl⟩ | ⟨rfl, rfl, rfl⟩ | ⟨rfl, rfl, rfl⟩ | ⟨rfl, rfl, rfl⟩ | ⟨rfl, rfl, rfl⟩ | ⟨rfl, rfl, rfl⟩ <;> decide +kernel
theorem own_T_lo {k l W : Int32} (h : own_T k l W) : ¬ l < 1 := by rcases h with ⟨rfl, rfl, rfl⟩ | ⟨rfl, rfl, rfl⟩ | ⟨rfl, rfl, rfl⟩ | ⟨rfl, rfl, rfl⟩ | ⟨rfl, rfl, rfl⟩ | ⟨rfl, rfl, rfl⟩ | ⟨rfl, rfl, rfl⟩ <;> decide
theorem own_T_hi {k l W : Int32} (h : own_T k l W) : ¬ 64 < l := by rcases h with ⟨rfl, rfl, rfl⟩ | ⟨rfl, rfl, rfl⟩ | ⟨rfl, rfl, rfl⟩ | ⟨rfl, rfl, rfl⟩ | ⟨rfl, rfl, rfl⟩ | ⟨rfl, rfl, rfl⟩ | ⟨rfl, rfl, rfl⟩ <;> decide
theorem own_T_W {k l W : Int32} (h : own_T k l W) : ¬ W = 0 := by rcases h with ⟨rfl, rfl, rfl⟩ | ⟨rfl, rfl, rfl⟩ | ⟨rfl, rfl, rfl⟩ | ⟨rfl, rfl, rfl⟩ | ⟨rfl, rfl, rfl⟩ | ⟨rfl, rfl, rfl⟩ | ⟨rfl, rfl, rfl⟩ <;> decide
theorem own_pos (p n : Int32) (h0 : 0 ≤ p.toInt) (hn : 0 < n.toInt) : 0 ≤ (p % n).toInt ∧ (p % n).toInt < n.toInt := by
  have h := (c_irem p n n.toInt rfl).1 h0
  have h3 := Int.emod_nonneg p.toInt (show n.toInt ≠ 0 by omega)
  have h4 := Int.emod_lt_of_pos p.toInt hn
  omega
theorem own_m31 (p : Int32) : 0 ≤ (p &&& 2147483647).toInt := (c_and p 2147483647 (by decide)).1
theorem own_words {k l W : Int32} (h : own_T k l W) (n : Int32) (h1 : 1 ≤ n.toInt) (h2 : n.toInt ≤ 4096) : (Int64.toInt32 (F_bytes n l / 8)).toInt = (n.toInt * l.toInt + 63) / 64 := by
  have i1 : (Int32.toInt64 n).toInt = n.toInt := c_i2l n
  have i2 : (Int32.toInt64 l).toInt = l.toInt := c_i2l l
  have m := c_lmul (Int32.toInt64 n) (Int32.toInt64 l)
  rw [i1, i2] at m
  have rm := rng64 (Int32.toInt64 n * Int32.toInt64 l)
  have b : 0 ≤ n.toInt * l.toInt ∧ n.toInt * l.toInt ≤ 262144 := by
    rcases h with ⟨rfl, rfl, rfl⟩ | ⟨rfl, rfl, rfl⟩ | ⟨rfl, rfl, rfl⟩ | ⟨rfl, rfl, rfl⟩ | ⟨rfl, rfl, rfl⟩ | ⟨rfl, rfl, rfl⟩ | ⟨rfl, rfl, rfl⟩
    · rw [show (1 : Int32).toInt = 1 from rfl]; omega
    · rw [show (2 : Int32).toInt = 2 from rfl]; omega
    · rw [show (4 : Int32).toInt = 4 from rfl]; omega
    · rw [show (8 : Int32).toInt = 8 from rfl]; omega
    · rw [show (16 : Int32).toInt = 16 from rfl]; omega
    · rw [show (32 : Int32).toInt = 32 from rfl]; omega
    · rw [show (64 : Int32).toInt = 64 from rfl]; omega
  simp only [F_bytes]
  generalize Int32.toInt64 n * Int32.toInt64 l = x at *
  generalize n.toInt * l.toInt = y at *
  have e64 : (64 : Int64).toInt = 64 := rfl
  have e8 : (8 : Int64).toInt = 8 := rfl
  have e1 : (1 : Int64).toInt = 1 := rfl
  have a1 := c_ladd x 64; have r1 := rng64 (x + 64)
  have a2 := c_lsub (x + 64) 1; have r2 := rng64 (x + 64 - 1)
  have a3 := (c_ldiv (x + 64 - 1) 64 64 rfl (by decide)).1 (by omega)
  have a4 := c_lmul ((x + 64 - 1) / 64) 8; rw [e8] at a4; have r4 := rng64 ((x + 64 - 1) / 64 * 8)
  have a5 := (c_ldiv ((x + 64 - 1) / 64 * 8) 8 8 rfl (by decide)).1 (by omega)
  have a6 := c_l2i ((x + 64 - 1) / 64 * 8 / 8); have r6 := rng32 (Int64.toInt32 ((x + 64 - 1) / 64 * 8 / 8))
  omega
theorem own_cap {k l W : Int32} (h : own_T k l W) (n : Int32) (h1 : 1 ≤ n.toInt) (h2 : n.toInt ≤ 4096) : ¬ (Int64.toInt32 (F_bytes n l / 8)) < 0 ∧ (Int32.toNatClampNeg (Int64.toInt32 (F_bytes n l / 8))) ≤ 4096 := by
  have w := own_words h n h1 h2
  have b : 0 ≤ (n.toInt * l.toInt + 63) / 64 ∧ (n.toInt * l.toInt + 63) / 64 ≤ 4096 := by
    rcases h with ⟨rfl, rfl, rfl⟩ | ⟨rfl, rfl, rfl⟩ | ⟨rfl, rfl, rfl⟩ | ⟨rfl, rfl, rfl⟩ | ⟨rfl, rfl, rfl⟩ | ⟨rfl, rfl, rfl⟩ | ⟨rfl, rfl, rfl⟩
    · rw [show (1 : Int32).toInt = 1 from rfl]; omega
    · rw [show (2 : Int32).toInt = 2 from rfl]; omega
    · rw [show (4 : Int32).toInt = 4 from rfl]; omega
    · rw [show (8 : Int32).toInt = 8 from rfl]; omega
    · rw [show (16 : Int32).toInt = 16 from rfl]; omega
    · rw [show (32 : Int32).toInt = 32 from rfl]; omega
    · rw [show (64 : Int32).toInt = 64 from rfl]; omega
  refine ⟨fun z => ?_, ?_⟩
  · have := own_ltI.mp z; have e : (0 : Int32).toInt = 0 := rfl
    omega
  · simp only [Int32.toNatClampNeg]; omega
theorem own_i0 (a : Int32) (h0 : 0 ≤ a.toInt) (h1 : a.toInt < 4096) : (Int64.toInt32 (ushrL (shlL (Int32.toInt64 a) 0) 6)).toInt = a.toInt / 64 ∧ (shlL (Int32.toInt64 a) 0).toInt = a.toInt * 1 := by
  have i1 : (Int32.toInt64 a).toInt = a.toInt := c_i2l a
  have s : ((shlL (Int32.toInt64 a) 0).toInt - (Int32.toInt64 a).toInt * 1) % 18446744073709551616 = 0 := c_lshl (Int32.toInt64 a) 0 0 (by decide)
  have rs := rng64 (shlL (Int32.toInt64 a) 0)
  generalize shlL (Int32.toInt64 a) 0 = x at *
  have u : (ushrL x 6).toInt = x.toInt % 18446744073709551616 / 64 := c_lushr x 6 6 (by decide) (by decide)
  have ru := rng64 (ushrL x 6)
  generalize ushrL x 6 = y at *
  have c := c_l2i y; have rc := rng32 (Int64.toInt32 y)
  omega
theorem own_s0 (m : Int64) (a : Int32) (h0 : 0 ≤ a.toInt) (h1 : a.toInt < 4096) : shlL m (Int64.toInt32 (shlL (Int32.toInt64 a) 0)) = shlL m (shlI (a % 64) 0) := by
  have x1 := (own_i0 a h0 h1).2
  have c := c_l2i (shlL (Int32.toInt64 a) 0); have rc := rng32 (Int64.toInt32 (shlL (Int32.toInt64 a) 0))
  have rm := (c_irem a 64 64 rfl).1 h0
  have sh : ((shlI (a % 64) 0).toInt - (a % 64).toInt * 1) % 4294967296 = 0 := c_ishl (a % 64) 0 0 (by decide)
  have k1 : ((Int64.toInt32 (shlL (Int32.toInt64 a) 0)) &&& 63).toInt = (Int64.toInt32 (shlL (Int32.toInt64 a) 0)).toInt % 64 := c_mask _ 63 6 (by decide) (by decide)
  have k2 : ((shlI (a % 64) 0) &&& 63).toInt = (shlI (a % 64) 0).toInt % 64 := c_mask _ 63 6 (by decide) (by decide)
  have e : (Int64.toInt32 (shlL (Int32.toInt64 a) 0)) &&& 63 = (shlI (a % 64) 0) &&& 63 := by rw [own_eqI, k1, k2]; omega
  show m <<< ((Int64.toInt32 (shlL (Int32.toInt64 a) 0)) &&& 63).toInt64 = m <<< ((shlI (a % 64) 0) &&& 63).toInt64
  rw [e]
theorem own_i1 (a : Int32) (h0 : 0 ≤ a.toInt) (h1 : a.toInt < 4096) : (Int64.toInt32 (ushrL (shlL (Int32.toInt64 a) 1) 6)).toInt = a.toInt / 32 ∧ (shlL (Int32.toInt64 a) 1).toInt = a.toInt * 2 := by
  have i1 : (Int32.toInt64 a).toInt = a.toInt := c_i2l a
  have s : ((shlL (Int32.toInt64 a) 1).toInt - (Int32.toInt64 a).toInt * 2) % 18446744073709551616 = 0 := c_lshl (Int32.toInt64 a) 1 1 (by decide)
  have rs := rng64 (shlL (Int32.toInt64 a) 1)
  generalize shlL (Int32.toInt64 a) 1 = x at *
  have u : (ushrL x 6).toInt = x.toInt % 18446744073709551616 / 64 := c_lushr x 6 6 (by decide) (by decide)
  have ru := rng64 (ushrL x 6)
  generalize ushrL x 6 = y at *
  have c := c_l2i y; have rc := rng32 (Int64.toInt32 y)
  omega
theorem own_s1 (m : Int64) (a : Int32) (h0 : 0 ≤ a.toInt) (h1 : a.toInt < 4096) : shlL m (Int64.toInt32 (shlL (Int32.toInt64 a) 1)) = shlL m (shlI (a % 32) 1) := by
  have x1 := (own_i1 a h0 h1).2
  have c := c_l2i (shlL (Int32.toInt64 a) 1); have rc := rng32 (Int64.toInt32 (shlL (Int32.toInt64 a) 1))
  have rm := (c_irem a 32 32 rfl).1 h0
  have sh : ((shlI (a % 32) 1).toInt - (a % 32).toInt * 2) % 4294967296 = 0 := c_ishl (a % 32) 1 1 (by decide)
  have k1 : ((Int64.toInt32 (shlL (Int32.toInt64 a) 1)) &&& 63).toInt = (Int64.toInt32 (shlL (Int32.toInt64 a) 1)).toInt % 64 := c_mask _ 63 6 (by decide) (by decide)
  have k2 : ((shlI (a % 32) 1) &&& 63).toInt = (shlI (a % 32) 1).toInt % 64 := c_mask _ 63 6 (by decide) (by decide)
  have e : (Int64.toInt32 (shlL (Int32.toInt64 a) 1)) &&& 63 = (shlI (a % 32) 1) &&& 63 := by rw [own_eqI, k1, k2]; omega
  show m <<< ((Int64.toInt32 (shlL (Int32.toInt64 a) 1)) &&& 63).toInt64 = m <<< ((shlI (a % 32) 1) &&& 63).toInt64
  rw [e]
theorem own_i2 (a : Int32) (h0 : 0 ≤ a.toInt) (h1 : a.toInt < 4096) : (Int64.toInt32 (ushrL (shlL (Int32.toInt64 a) 2) 6)).toInt = a.toInt / 16 ∧ (shlL (Int32.toInt64 a) 2).toInt = a.toInt * 4 := by
  have i1 : (Int32.toInt64 a).toInt = a.toInt := c_i2l a
  have s : ((shlL (Int32.toInt64 a) 2).toInt - (Int32.toInt64 a).toInt * 4) % 18446744073709551616 = 0 := c_lshl (Int32.toInt64 a) 2 2 (by decide)
  have rs := rng64 (shlL (Int32.toInt64 a) 2)
  generalize shlL (Int32.toInt64 a) 2 = x at *
  have u : (ushrL x 6).toInt = x.toInt % 18446744073709551616 / 64 := c_lushr x 6 6 (by decide) (by decide)
  have ru := rng64 (ushrL x 6)
  generalize ushrL x 6 = y at *
  have c := c_l2i y; have rc := rng32 (Int64.toInt32 y)
  omega
theorem own_s2 (m : Int64) (a : Int32) (h0 : 0 ≤ a.toInt) (h1 : a.toInt < 4096) : shlL m (Int64.toInt32 (shlL (Int32.toInt64 a) 2)) = shlL m (shlI (a % 16) 2) := by
  have x1 := (own_i2 a h0 h1).2
  have c := c_l2i (shlL (Int32.toInt64 a) 2); have rc := rng32 (Int64.toInt32 (shlL (Int32.toInt64 a) 2))
  have rm := (c_irem a 16 16 rfl).1 h0
  have sh : ((shlI (a % 16) 2).toInt - (a % 16).toInt * 4) % 4294967296 = 0 := c_ishl (a % 16) 2 2 (by decide)
  have k1 : ((Int64.toInt32 (shlL (Int32.toInt64 a) 2)) &&& 63).toInt = (Int64.toInt32 (shlL (Int32.toInt64 a) 2)).toInt % 64 := c_mask _ 63 6 (by decide) (by decide)
  have k2 : ((shlI (a % 16) 2) &&& 63).toInt = (shlI (a % 16) 2).toInt % 64 := c_mask _ 63 6 (by decide) (by decide)
  have e : (Int64.toInt32 (shlL (Int32.toInt64 a) 2)) &&& 63 = (shlI (a % 16) 2) &&& 63 := by rw [own_eqI, k1, k2]; omega
  show m <<< ((Int64.toInt32 (shlL (Int32.toInt64 a) 2)) &&& 63).toInt64 = m <<< ((shlI (a % 16) 2) &&& 63).toInt64
  rw [e]
theorem own_i3 (a : Int32) (h0 : 0 ≤ a.toInt) (h1 : a.toInt < 4096) : (Int64.toInt32 (ushrL (shlL (Int32.toInt64 a) 3) 6)).toInt = a.toInt / 8 ∧ (shlL (Int32.toInt64 a) 3).toInt = a.toInt * 8 := by
  have i1 : (Int32.toInt64 a).toInt = a.toInt := c_i2l a
  have s : ((shlL (Int32.toInt64 a) 3).toInt - (Int32.toInt64 a).toInt * 8) % 18446744073709551616 = 0 := c_lshl (Int32.toInt64 a) 3 3 (by decide)
  have rs := rng64 (shlL (Int32.toInt64 a) 3)
  generalize shlL (Int32.toInt64 a) 3 = x at *
  have u : (ushrL x 6).toInt = x.toInt % 18446744073709551616 / 64 := c_lushr x 6 6 (by decide) (by decide)
  have ru := rng64 (ushrL x 6)
  generalize ushrL x 6 = y at *
  have c := c_l2i y; have rc := rng32 (Int64.toInt32 y)
  omega
theorem own_s3 (m : Int64) (a : Int32) (h0 : 0 ≤ a.toInt) (h1 : a.toInt < 4096) : shlL m (Int64.toInt32 (shlL (Int32.toInt64 a) 3)) = shlL m (shlI (a % 8) 3) := by
  have x1 := (own_i3 a h0 h1).2
  have c := c_l2i (shlL (Int32.toInt64 a) 3); have rc := rng32 (Int64.toInt32 (shlL (Int32.toInt64 a) 3))
  have rm := (c_irem a 8 8 rfl).1 h0
  have sh : ((shlI (a % 8) 3).toInt - (a % 8).toInt * 8) % 4294967296 = 0 := c_ishl (a % 8) 3 3 (by decide)
  have k1 : ((Int64.toInt32 (shlL (Int32.toInt64 a) 3)) &&& 63).toInt = (Int64.toInt32 (shlL (Int32.toInt64 a) 3)).toInt % 64 := c_mask _ 63 6 (by decide) (by decide)
  have k2 : ((shlI (a % 8) 3) &&& 63).toInt = (shlI (a % 8) 3).toInt % 64 := c_mask _ 63 6 (by decide) (by decide)
  have e : (Int64.toInt32 (shlL (Int32.toInt64 a) 3)) &&& 63 = (shlI (a % 8) 3) &&& 63 := by rw [own_eqI, k1, k2]; omega
  show m <<< ((Int64.toInt32 (shlL (Int32.toInt64 a) 3)) &&& 63).toInt64 = m <<< ((shlI (a % 8) 3) &&& 63).toInt64
  rw [e]
theorem own_i4 (a : Int32) (h0 : 0 ≤ a.toInt) (h1 : a.toInt < 4096) : (Int64.toInt32 (ushrL (shlL (Int32.toInt64 a) 4) 6)).toInt = a.toInt / 4 ∧ (shlL (Int32.toInt64 a) 4).toInt = a.toInt * 16 := by
  have i1 : (Int32.toInt64 a).toInt = a.toInt := c_i2l a
  have s : ((shlL (Int32.toInt64 a) 4).toInt - (Int32.toInt64 a).toInt * 16) % 18446744073709551616 = 0 := c_lshl (Int32.toInt64 a) 4 4 (by decide)
  have rs := rng64 (shlL (Int32.toInt64 a) 4)
  generalize shlL (Int32.toInt64 a) 4 = x at *
  have u : (ushrL x 6).toInt = x.toInt % 18446744073709551616 / 64 := c_lushr x 6 6 (by decide) (by decide)
  have ru := rng64 (ushrL x 6)
  generalize ushrL x 6 = y at *
  have c := c_l2i y; have rc := rng32 (Int64.toInt32 y)
  omega
theorem own_s4 (m : Int64) (a : Int32) (h0 : 0 ≤ a.toInt) (h1 : a.toInt < 4096) : shlL m (Int64.toInt32 (shlL (Int32.toInt64 a) 4)) = shlL m (shlI (a % 4) 4) := by
  have x1 := (own_i4 a h0 h1).2
  have c := c_l2i (shlL (Int32.toInt64 a) 4); have rc := rng32 (Int64.toInt32 (shlL (Int32.toInt64 a) 4))
  have rm := (c_irem a 4 4 rfl).1 h0
  have sh : ((shlI (a % 4) 4).toInt - (a % 4).toInt * 16) % 4294967296 = 0 := c_ishl (a % 4) 4 4 (by decide)
  have k1 : ((Int64.toInt32 (shlL (Int32.toInt64 a) 4)) &&& 63).toInt = (Int64.toInt32 (shlL (Int32.toInt64 a) 4)).toInt % 64 := c_mask _ 63 6 (by decide) (by decide)
  have k2 : ((shlI (a % 4) 4) &&& 63).toInt = (shlI (a % 4) 4).toInt % 64 := c_mask _ 63 6 (by decide) (by decide)
  have e : (Int64.toInt32 (shlL (Int32.toInt64 a) 4)) &&& 63 = (shlI (a % 4) 4) &&& 63 := by rw [own_eqI, k1, k2]; omega
  show m <<< ((Int64.toInt32 (shlL (Int32.toInt64 a) 4)) &&& 63).toInt64 = m <<< ((shlI (a % 4) 4) &&& 63).toInt64
  rw [e]
theorem own_i5 (a : Int32) (h0 : 0 ≤ a.toInt) (h1 : a.toInt < 4096) : (Int64.toInt32 (ushrL (shlL (Int32.toInt64 a) 5) 6)).toInt = a.toInt / 2 ∧ (shlL (Int32.toInt64 a) 5).toInt = a.toInt * 32 := by
  have i1 : (Int32.toInt64 a).toInt = a.toInt := c_i2l a
  have s : ((shlL (Int32.toInt64 a) 5).toInt - (Int32.toInt64 a).toInt * 32) % 18446744073709551616 = 0 := c_lshl (Int32.toInt64 a) 5 5 (by decide)
  have rs := rng64 (shlL (Int32.toInt64 a) 5)
  generalize shlL (Int32.toInt64 a) 5 = x at *
  have u : (ushrL x 6).toInt = x.toInt % 18446744073709551616 / 64 := c_lushr x 6 6 (by decide) (by decide)
  have ru := rng64 (ushrL x 6)
  generalize ushrL x 6 = y at *
  have c := c_l2i y; have rc := rng32 (Int64.toInt32 y)
  omega
theorem own_s5 (m : Int64) (a : Int32) (h0 : 0 ≤ a.toInt) (h1 : a.toInt < 4096) : shlL m (Int64.toInt32 (shlL (Int32.toInt64 a) 5)) = shlL m (shlI (a % 2) 5) := by
  have x1 := (own_i5 a h0 h1).2
  have c := c_l2i (shlL (Int32.toInt64 a) 5); have rc := rng32 (Int64.toInt32 (shlL (Int32.toInt64 a) 5))
  have rm := (c_irem a 2 2 rfl).1 h0
  have sh : ((shlI (a % 2) 5).toInt - (a % 2).toInt * 32) % 4294967296 = 0 := c_ishl (a % 2) 5 5 (by decide)
  have k1 : ((Int64.toInt32 (shlL (Int32.toInt64 a) 5)) &&& 63).toInt = (Int64.toInt32 (shlL (Int32.toInt64 a) 5)).toInt % 64 := c_mask _ 63 6 (by decide) (by decide)
  have k2 : ((shlI (a % 2) 5) &&& 63).toInt = (shlI (a % 2) 5).toInt % 64 := c_mask _ 63 6 (by decide) (by decide)
  have e : (Int64.toInt32 (shlL (Int32.toInt64 a) 5)) &&& 63 = (shlI (a % 2) 5) &&& 63 := by rw [own_eqI, k1, k2]; omega
  show m <<< ((Int64.toInt32 (shlL (Int32.toInt64 a) 5)) &&& 63).toInt64 = m <<< ((shlI (a % 2) 5) &&& 63).toInt64
  rw [e]
theorem own_i6 (a : Int32) (h0 : 0 ≤ a.toInt) (h1 : a.toInt < 4096) : (Int64.toInt32 (ushrL (shlL (Int32.toInt64 a) 6) 6)).toInt = a.toInt / 1 ∧ (shlL (Int32.toInt64 a) 6).toInt = a.toInt * 64 := by
  have i1 : (Int32.toInt64 a).toInt = a.toInt := c_i2l a
  have s : ((shlL (Int32.toInt64 a) 6).toInt - (Int32.toInt64 a).toInt * 64) % 18446744073709551616 = 0 := c_lshl (Int32.toInt64 a) 6 6 (by decide)
  have rs := rng64 (shlL (Int32.toInt64 a) 6)
  generalize shlL (Int32.toInt64 a) 6 = x at *
  have u : (ushrL x 6).toInt = x.toInt % 18446744073709551616 / 64 := c_lushr x 6 6 (by decide) (by decide)
  have ru := rng64 (ushrL x 6)
  generalize ushrL x 6 = y at *
  have c := c_l2i y; have rc := rng32 (Int64.toInt32 y)
  omega
theorem own_s6 (m : Int64) (a : Int32) (h0 : 0 ≤ a.toInt) (h1 : a.toInt < 4096) : shlL m (Int64.toInt32 (shlL (Int32.toInt64 a) 6)) = shlL m (shlI (a % 1) 6) := by
  have x1 := (own_i6 a h0 h1).2
  have c := c_l2i (shlL (Int32.toInt64 a) 6); have rc := rng32 (Int64.toInt32 (shlL (Int32.toInt64 a) 6))
  have rm := (c_irem a 1 1 rfl).1 h0
  have sh : ((shlI (a % 1) 6).toInt - (a % 1).toInt * 64) % 4294967296 = 0 := c_ishl (a % 1) 6 6 (by decide)
  have k1 : ((Int64.toInt32 (shlL (Int32.toInt64 a) 6)) &&& 63).toInt = (Int64.toInt32 (shlL (Int32.toInt64 a) 6)).toInt % 64 := c_mask _ 63 6 (by decide) (by decide)
  have k2 : ((shlI (a % 1) 6) &&& 63).toInt = (shlI (a % 1) 6).toInt % 64 := c_mask _ 63 6 (by decide) (by decide)
  have e : (Int64.toInt32 (shlL (Int32.toInt64 a) 6)) &&& 63 = (shlI (a % 1) 6) &&& 63 := by rw [own_eqI, k1, k2]; omega
  show m <<< ((Int64.toInt32 (shlL (Int32.toInt64 a) 6)) &&& 63).toInt64 = m <<< ((shlI (a % 1) 6) &&& 63).toInt64
  rw [e]
theorem own_i {k l W : Int32} (h : own_T k l W) (a : Int32) (h0 : 0 ≤ a.toInt) (h1 : a.toInt < 4096) : (Int64.toInt32 (ushrL (shlL (Int32.toInt64 a) k) 6)).toInt = a.toInt / W.toInt ∧ (a / W).toInt = a.toInt / W.toInt := by
  rcases h with ⟨rfl, rfl, rfl⟩ | ⟨rfl, rfl, rfl⟩ | ⟨rfl, rfl, rfl⟩ | ⟨rfl, rfl, rfl⟩ | ⟨rfl, rfl, rfl⟩ | ⟨rfl, rfl, rfl⟩ | ⟨rfl, rfl, rfl⟩
  · exact ⟨(own_i0 a h0 h1).1, (c_idiv a 64 64 rfl (by decide)).1 h0⟩
  · exact ⟨(own_i1 a h0 h1).1, (c_idiv a 32 32 rfl (by decide)).1 h0⟩
  · exact ⟨(own_i2 a h0 h1).1, (c_idiv a 16 16 rfl (by decide)).1 h0⟩
  · exact ⟨(own_i3 a h0 h1).1, (c_idiv a 8 8 rfl (by decide)).1 h0⟩
  · exact ⟨(own_i4 a h0 h1).1, (c_idiv a 4 4 rfl (by decide)).1 h0⟩
  · exact ⟨(own_i5 a h0 h1).1, (c_idiv a 2 2 rfl (by decide)).1 h0⟩
  · exact ⟨(own_i6 a h0 h1).1, (c_idiv a 1 1 rfl (by decide)).1 h0⟩
theorem own_s {k l W : Int32} (h : own_T k l W) (m : Int64) (a : Int32) (h0 : 0 ≤ a.toInt) (h1 : a.toInt < 4096) : shlL m (Int64.toInt32 (shlL (Int32.toInt64 a) k)) = shlL m (shlI (a % W) k) := by
  rcases h with ⟨rfl, rfl, rfl⟩ | ⟨rfl, rfl, rfl⟩ | ⟨rfl, rfl, rfl⟩ | ⟨rfl, rfl, rfl⟩ | ⟨rfl, rfl, rfl⟩ | ⟨rfl, rfl, rfl⟩ | ⟨rfl, rfl, rfl⟩
  · exact own_s0 m a h0 h1
  · exact own_s1 m a h0 h1
  · exact own_s2 m a h0 h1
  · exact own_s3 m a h0 h1
  · exact own_s4 m a h0 h1
  · exact own_s5 m a h0 h1
  · exact own_s6 m a h0 h1
/-- the place of a position's word -/
def own_ix (a k : Int32) : Nat := Int32.toNatClampNeg (Int64.toInt32 (ushrL (shlL (Int32.toInt64 a) k) 6))
theorem own_in {k l W : Int32} (h : own_T k l W) (n a : Int32) (h1 : 1 ≤ n.toInt) (h2 : n.toInt ≤ 4096) (h0 : 0 ≤ a.toInt) (h3 : a.toInt < n.toInt) : ¬ (Int64.toInt32 (ushrL (shlL (Int32.toInt64 a) k) 6)) < 0 ∧ Int32.toNatClampNeg (Int64.toInt32 (ushrL (shlL (Int32.toInt64 a) k) 6)) < (Int32.toNatClampNeg (Int64.toInt32 (F_bytes n l / 8))) := by
  have w := own_words h n h1 h2
  have i := (own_i h a h0 (by omega)).1
  have b : 0 ≤ a.toInt / W.toInt ∧ a.toInt / W.toInt < (n.toInt * l.toInt + 63) / 64 := by
    rcases h with ⟨rfl, rfl, rfl⟩ | ⟨rfl, rfl, rfl⟩ | ⟨rfl, rfl, rfl⟩ | ⟨rfl, rfl, rfl⟩ | ⟨rfl, rfl, rfl⟩ | ⟨rfl, rfl, rfl⟩ | ⟨rfl, rfl, rfl⟩
    · rw [show (64 : Int32).toInt = 64 from rfl, show (1 : Int32).toInt = 1 from rfl]; omega
    · rw [show (32 : Int32).toInt = 32 from rfl, show (2 : Int32).toInt = 2 from rfl]; omega
    · rw [show (16 : Int32).toInt = 16 from rfl, show (4 : Int32).toInt = 4 from rfl]; omega
    · rw [show (8 : Int32).toInt = 8 from rfl]; omega
    · rw [show (4 : Int32).toInt = 4 from rfl, show (16 : Int32).toInt = 16 from rfl]; omega
    · rw [show (2 : Int32).toInt = 2 from rfl, show (32 : Int32).toInt = 32 from rfl]; omega
    · rw [show (1 : Int32).toInt = 1 from rfl, show (64 : Int32).toInt = 64 from rfl]; omega
  refine ⟨fun z => ?_, ?_⟩
  · have := own_ltI.mp z; have e : (0 : Int32).toInt = 0 := rfl
    omega
  · simp only [Int32.toNatClampNeg]; omega
theorem own_same {k l W : Int32} (h : own_T k l W) (a c : Int32) (h0 : 0 ≤ a.toInt) (h1 : a.toInt < 4096) (h2 : 0 ≤ c.toInt) (h3 : c.toInt < 4096) : own_ix a k = own_ix c k ↔ a / W = c / W := by
  have i1 := own_i h a h0 h1
  have i2 := own_i h c h2 h3
  have b1 : 0 ≤ a.toInt / W.toInt ∧ 0 ≤ c.toInt / W.toInt := by
    rcases h with ⟨rfl, rfl, rfl⟩ | ⟨rfl, rfl, rfl⟩ | ⟨rfl, rfl, rfl⟩ | ⟨rfl, rfl, rfl⟩ | ⟨rfl, rfl, rfl⟩ | ⟨rfl, rfl, rfl⟩ | ⟨rfl, rfl, rfl⟩
    · rw [show (64 : Int32).toInt = 64 from rfl]; omega
    · rw [show (32 : Int32).toInt = 32 from rfl]; omega
    · rw [show (16 : Int32).toInt = 16 from rfl]; omega
    · rw [show (8 : Int32).toInt = 8 from rfl]; omega
    · rw [show (4 : Int32).toInt = 4 from rfl]; omega
    · rw [show (2 : Int32).toInt = 2 from rfl]; omega
    · rw [show (1 : Int32).toInt = 1 from rfl]; omega
  rw [own_eqI, i1.2, i2.2]
  simp only [own_ix, Int32.toNatClampNeg, i1.1, i2.1]
  omega
theorem own_0or (x : Int64) : (0 : Int64) ||| x = x := Int64.zero_or
theorem own_or0 (x : Int64) : x ||| (0 : Int64) = x := Int64.or_zero

theorem own_sm : ∀ n : Fin 64, ((Int32.ofNat n.1).toInt64.toBitVec.smod 64) = BitVec.ofNat 64 n.1 := by decide +kernel
theorem own_su : ∀ n : Fin 64, ((Int32.ofNat n.1).toInt64.toUInt64.toBitVec % 64) = BitVec.ofNat 64 n.1 := by decide +kernel
theorem own_sn (s : Int32) (n : Nat) (hn : n < 64) (h : (s &&& 63).toInt = n) : s &&& 63 = Int32.ofNat n := Int32.toInt_inj.mp (by rw [h, Int32.toInt_ofNat_of_lt (by omega)])
theorem own_shl (m : Int64) (s : Int32) (n : Nat) (hn : n < 64) (h : (s &&& 63).toInt = n) : (shlL m s).toBitVec = m.toBitVec <<< n := by
  show (m <<< (s &&& 63).toInt64).toBitVec = _
  rw [own_sn s n hn h, Int64.toBitVec_shiftLeft, own_sm ⟨n, hn⟩, BitVec.shiftLeft_eq', BitVec.toNat_ofNat, Nat.mod_eq_of_lt (by omega)]
theorem own_ush (m : Int64) (s : Int32) (n : Nat) (hn : n < 64) (h : (s &&& 63).toInt = n) : (ushrL m s).toBitVec = m.toBitVec >>> n := by
  show (m.toUInt64 >>> (s &&& 63).toInt64.toUInt64).toBitVec = _
  rw [own_sn s n hn h, UInt64.toBitVec_shiftRight, own_su ⟨n, hn⟩, BitVec.ushiftRight_eq', BitVec.toNat_ofNat, Nat.mod_eq_of_lt (by omega)]
  rfl
theorem own_sml (t : Int32) (h0 : 0 ≤ t.toInt) (h1 : t.toInt < 64) : (t &&& 63).toInt = (t.toInt.toNat : Nat) := by
  have : (t &&& 63).toInt = t.toInt % 64 := c_mask t 63 6 (by decide) (by decide)
  omega
theorem own_oneB (n : Nat) (hn : n < 64) (i : Nat) : ((1 : BitVec 64) <<< n).getLsbD i = decide (i = n) := by
  rw [BitVec.getLsbD_shiftLeft]
  have e1 : (1 : BitVec 64).getLsbD (i - n) = decide (i - n = 0) := by
    show (1#64).getLsbD _ = _
    rw [BitVec.getLsbD_one]; simp
  rw [e1]
  by_cases c : i = n
  · subst c; simp; omega
  · by_cases c2 : i < n
    · simp [c, c2]
    · have : ¬ (i - n = 0) := by omega
      rw [decide_eq_false this, decide_eq_false c, Bool.and_false]
theorem own_one (t : Int32) (h0 : 0 ≤ t.toInt) (h1 : t.toInt < 64) (i : Nat) : (shlL 1 t).toBitVec.getLsbD i = decide (i = t.toInt.toNat) := by
  rw [own_shl 1 t t.toInt.toNat (by omega) (own_sml t h0 h1)]
  exact own_oneB _ (by omega) i
theorem own_disj (s t : Int32) (h0 : 0 ≤ s.toInt) (h1 : s.toInt < 64) (h2 : 0 ≤ t.toInt) (h3 : t.toInt < 64) (hn : ¬ s = t) : shlL 1 s &&& shlL 1 t = 0 := by
  apply Int64.toBitVec_inj.mp
  rw [Int64.toBitVec_and]
  apply BitVec.eq_of_getLsbD_eq
  intro i hi
  rw [BitVec.getLsbD_and, own_one s h0 h1, own_one t h2 h3]
  have n : ¬ (s.toInt.toNat = t.toInt.toNat) := fun z => hn (Int32.toInt_inj.mp (by omega))
  generalize s.toInt.toNat = a at *
  generalize t.toInt.toNat = b at *
  by_cases c : i = a
  · subst c; rw [decide_eq_false n]; simp
  · rw [decide_eq_false c]; simp
theorem own_off0 (x q i : Nat) (hi : i < 1) : (x * 1 % 64 + i < 64) ∧ (x / 64 = q / 64 → ¬ x = q → x * 1 % 64 ≤ q * 1 % 64 + i → 1 ≤ q * 1 % 64 + i - x * 1 % 64) := by omega
theorem own_off1 (x q i : Nat) (hi : i < 2) : (x * 2 % 64 + i < 64) ∧ (x / 32 = q / 32 → ¬ x = q → x * 2 % 64 ≤ q * 2 % 64 + i → 2 ≤ q * 2 % 64 + i - x * 2 % 64) := by omega
theorem own_off2 (x q i : Nat) (hi : i < 4) : (x * 4 % 64 + i < 64) ∧ (x / 16 = q / 16 → ¬ x = q → x * 4 % 64 ≤ q * 4 % 64 + i → 4 ≤ q * 4 % 64 + i - x * 4 % 64) := by omega
theorem own_off3 (x q i : Nat) (hi : i < 8) : (x * 8 % 64 + i < 64) ∧ (x / 8 = q / 8 → ¬ x = q → x * 8 % 64 ≤ q * 8 % 64 + i → 8 ≤ q * 8 % 64 + i - x * 8 % 64) := by omega
theorem own_off4 (x q i : Nat) (hi : i < 16) : (x * 16 % 64 + i < 64) ∧ (x / 4 = q / 4 → ¬ x = q → x * 16 % 64 ≤ q * 16 % 64 + i → 16 ≤ q * 16 % 64 + i - x * 16 % 64) := by omega
theorem own_off5 (x q i : Nat) (hi : i < 32) : (x * 32 % 64 + i < 64) ∧ (x / 2 = q / 2 → ¬ x = q → x * 32 % 64 ≤ q * 32 % 64 + i → 32 ≤ q * 32 % 64 + i - x * 32 % 64) := by omega
theorem own_off6 (x q i : Nat) (hi : i < 64) : (x * 64 % 64 + i < 64) ∧ (x / 1 = q / 1 → ¬ x = q → x * 64 % 64 ≤ q * 64 % 64 + i → 64 ≤ q * 64 % 64 + i - x * 64 % 64) := by omega
theorem own_off {k l W : Int32} (h : own_T k l W) (x q i : Nat) (hi : i < l.toInt.toNat) : (x * l.toInt.toNat % 64 + i < 64) ∧ (x / W.toInt.toNat = q / W.toInt.toNat → ¬ x = q → x * l.toInt.toNat % 64 ≤ q * l.toInt.toNat % 64 + i → l.toInt.toNat ≤ q * l.toInt.toNat % 64 + i - x * l.toInt.toNat % 64) := by
  rcases h with ⟨rfl, rfl, rfl⟩ | ⟨rfl, rfl, rfl⟩ | ⟨rfl, rfl, rfl⟩ | ⟨rfl, rfl, rfl⟩ | ⟨rfl, rfl, rfl⟩ | ⟨rfl, rfl, rfl⟩ | ⟨rfl, rfl, rfl⟩
  · exact own_off0 x q i hi
  · exact own_off1 x q i hi
  · exact own_off2 x q i hi
  · exact own_off3 x q i hi
  · exact own_off4 x q i hi
  · exact own_off5 x q i hi
  · exact own_off6 x q i hi
theorem own_sx0 (a : Int32) (h0 : 0 ≤ a.toInt) (h1 : a.toInt < 4096) : ((Int64.toInt32 (shlL (Int32.toInt64 a) 0)) &&& 63).toInt = ((a.toInt.toNat * 1 % 64 : Nat) : Int) := by
  have x1 := (own_i0 a h0 h1).2
  have c := c_l2i (shlL (Int32.toInt64 a) 0); have rc := rng32 (Int64.toInt32 (shlL (Int32.toInt64 a) 0))
  have k1 : ((Int64.toInt32 (shlL (Int32.toInt64 a) 0)) &&& 63).toInt = (Int64.toInt32 (shlL (Int32.toInt64 a) 0)).toInt % 64 := c_mask _ 63 6 (by decide) (by decide)
  omega
theorem own_sx1 (a : Int32) (h0 : 0 ≤ a.toInt) (h1 : a.toInt < 4096) : ((Int64.toInt32 (shlL (Int32.toInt64 a) 1)) &&& 63).toInt = ((a.toInt.toNat * 2 % 64 : Nat) : Int) := by
  have x1 := (own_i1 a h0 h1).2
  have c := c_l2i (shlL (Int32.toInt64 a) 1); have rc := rng32 (Int64.toInt32 (shlL (Int32.toInt64 a) 1))
  have k1 : ((Int64.toInt32 (shlL (Int32.toInt64 a) 1)) &&& 63).toInt = (Int64.toInt32 (shlL (Int32.toInt64 a) 1)).toInt % 64 := c_mask _ 63 6 (by decide) (by decide)
  omega
theorem own_sx2 (a : Int32) (h0 : 0 ≤ a.toInt) (h1 : a.toInt < 4096) : ((Int64.toInt32 (shlL (Int32.toInt64 a) 2)) &&& 63).toInt = ((a.toInt.toNat * 4 % 64 : Nat) : Int) := by
  have x1 := (own_i2 a h0 h1).2
  have c := c_l2i (shlL (Int32.toInt64 a) 2); have rc := rng32 (Int64.toInt32 (shlL (Int32.toInt64 a) 2))
  have k1 : ((Int64.toInt32 (shlL (Int32.toInt64 a) 2)) &&& 63).toInt = (Int64.toInt32 (shlL (Int32.toInt64 a) 2)).toInt % 64 := c_mask _ 63 6 (by decide) (by decide)
  omega
theorem own_sx3 (a : Int32) (h0 : 0 ≤ a.toInt) (h1 : a.toInt < 4096) : ((Int64.toInt32 (shlL (Int32.toInt64 a) 3)) &&& 63).toInt = ((a.toInt.toNat * 8 % 64 : Nat) : Int) := by
  have x1 := (own_i3 a h0 h1).2
  have c := c_l2i (shlL (Int32.toInt64 a) 3); have rc := rng32 (Int64.toInt32 (shlL (Int32.toInt64 a) 3))
  have k1 : ((Int64.toInt32 (shlL (Int32.toInt64 a) 3)) &&& 63).toInt = (Int64.toInt32 (shlL (Int32.toInt64 a) 3)).toInt % 64 := c_mask _ 63 6 (by decide) (by decide)
  omega
theorem own_sx4 (a : Int32) (h0 : 0 ≤ a.toInt) (h1 : a.toInt < 4096) : ((Int64.toInt32 (shlL (Int32.toInt64 a) 4)) &&& 63).toInt = ((a.toInt.toNat * 16 % 64 : Nat) : Int) := by
  have x1 := (own_i4 a h0 h1).2
  have c := c_l2i (shlL (Int32.toInt64 a) 4); have rc := rng32 (Int64.toInt32 (shlL (Int32.toInt64 a) 4))
  have k1 : ((Int64.toInt32 (shlL (Int32.toInt64 a) 4)) &&& 63).toInt = (Int64.toInt32 (shlL (Int32.toInt64 a) 4)).toInt % 64 := c_mask _ 63 6 (by decide) (by decide)
  omega
theorem own_sx5 (a : Int32) (h0 : 0 ≤ a.toInt) (h1 : a.toInt < 4096) : ((Int64.toInt32 (shlL (Int32.toInt64 a) 5)) &&& 63).toInt = ((a.toInt.toNat * 32 % 64 : Nat) : Int) := by
  have x1 := (own_i5 a h0 h1).2
  have c := c_l2i (shlL (Int32.toInt64 a) 5); have rc := rng32 (Int64.toInt32 (shlL (Int32.toInt64 a) 5))
  have k1 : ((Int64.toInt32 (shlL (Int32.toInt64 a) 5)) &&& 63).toInt = (Int64.toInt32 (shlL (Int32.toInt64 a) 5)).toInt % 64 := c_mask _ 63 6 (by decide) (by decide)
  omega
theorem own_sx6 (a : Int32) (h0 : 0 ≤ a.toInt) (h1 : a.toInt < 4096) : ((Int64.toInt32 (shlL (Int32.toInt64 a) 6)) &&& 63).toInt = ((a.toInt.toNat * 64 % 64 : Nat) : Int) := by
  have x1 := (own_i6 a h0 h1).2
  have c := c_l2i (shlL (Int32.toInt64 a) 6); have rc := rng32 (Int64.toInt32 (shlL (Int32.toInt64 a) 6))
  have k1 : ((Int64.toInt32 (shlL (Int32.toInt64 a) 6)) &&& 63).toInt = (Int64.toInt32 (shlL (Int32.toInt64 a) 6)).toInt % 64 := c_mask _ 63 6 (by decide) (by decide)
  omega
theorem own_sx {k l W : Int32} (h : own_T k l W) (a : Int32) (h0 : 0 ≤ a.toInt) (h1 : a.toInt < 4096) : ((Int64.toInt32 (shlL (Int32.toInt64 a) k)) &&& 63).toInt = ((a.toInt.toNat * l.toInt.toNat % 64 : Nat) : Int) := by
  rcases h with ⟨rfl, rfl, rfl⟩ | ⟨rfl, rfl, rfl⟩ | ⟨rfl, rfl, rfl⟩ | ⟨rfl, rfl, rfl⟩ | ⟨rfl, rfl, rfl⟩ | ⟨rfl, rfl, rfl⟩ | ⟨rfl, rfl, rfl⟩
  · exact own_sx0 a h0 h1
  · exact own_sx1 a h0 h1
  · exact own_sx2 a h0 h1
  · exact own_sx3 a h0 h1
  · exact own_sx4 a h0 h1
  · exact own_sx5 a h0 h1
  · exact own_sx6 a h0 h1
theorem own_sameN {k l W : Int32} (h : own_T k l W) (a c : Int32) (h0 : 0 ≤ a.toInt) (h1 : a.toInt < 4096) (h2 : 0 ≤ c.toInt) (h3 : c.toInt < 4096) (e : own_ix a k = own_ix c k) : c.toInt.toNat / W.toInt.toNat = a.toInt.toNat / W.toInt.toNat := by
  have i1 := own_i h a h0 h1
  have i2 := own_i h c h2 h3
  simp only [own_ix, Int32.toNatClampNeg, i1.1, i2.1] at e
  rcases h with ⟨rfl, rfl, rfl⟩ | ⟨rfl, rfl, rfl⟩ | ⟨rfl, rfl, rfl⟩ | ⟨rfl, rfl, rfl⟩ | ⟨rfl, rfl, rfl⟩ | ⟨rfl, rfl, rfl⟩ | ⟨rfl, rfl, rfl⟩
  · rw [show (64 : Int32).toInt = 64 from rfl] at *; rw [show ((64 : Int).toNat) = 64 from rfl]; omega
  · rw [show (32 : Int32).toInt = 32 from rfl] at *; rw [show ((32 : Int).toNat) = 32 from rfl]; omega
  · rw [show (16 : Int32).toInt = 16 from rfl] at *; rw [show ((16 : Int).toNat) = 16 from rfl]; omega
  · rw [show (8 : Int32).toInt = 8 from rfl] at *; rw [show ((8 : Int).toNat) = 8 from rfl]; omega
  · rw [show (4 : Int32).toInt = 4 from rfl] at *; rw [show ((4 : Int).toNat) = 4 from rfl]; omega
  · rw [show (2 : Int32).toInt = 2 from rfl] at *; rw [show ((2 : Int).toNat) = 2 from rfl]; omega
  · rw [show (1 : Int32).toInt = 1 from rfl] at *; rw [show ((1 : Int).toNat) = 1 from rfl]; omega
theorem own_piece {k l W : Int32} (h : own_T k l W) (m : Int64) (hm : ∀ i, l.toInt.toNat ≤ i → m.toBitVec.getLsbD i = false) (x q : Int32) (x0 : 0 ≤ x.toInt) (x1 : x.toInt < 4096) (q0 : 0 ≤ q.toInt) (q1 : q.toInt < 4096) (i : Nat) (hi : i < l.toInt.toNat) : (ushrL (if own_ix q k = own_ix x k then shlL m (Int64.toInt32 (shlL (Int32.toInt64 x) k)) else 0) (Int64.toInt32 (shlL (Int32.toInt64 q) k))).toBitVec.getLsbD i = (decide (q = x) && m.toBitVec.getLsbD i) := by
  have nq := own_sx h q q0 q1
  have nx := own_sx h x x0 x1
  have of := own_off h x.toInt.toNat q.toInt.toNat i hi
  have oq := (own_off h q.toInt.toNat x.toInt.toNat i hi).1
  rw [own_ush _ _ _ (Nat.mod_lt _ (by decide)) nq, BitVec.getLsbD_ushiftRight]
  by_cases c : own_ix q k = own_ix x k
  · rw [if_pos c, own_shl _ _ _ (Nat.mod_lt _ (by decide)) nx, BitVec.getLsbD_shiftLeft]
    have sw := own_sameN h q x q0 q1 x0 x1 c
    by_cases e : q = x
    · subst e
      generalize q.toInt.toNat * l.toInt.toNat % 64 = a at *
      rw [decide_eq_true oq, decide_eq_false (show ¬ a + i < a by omega), show a + i - a = i by omega]
      simp
    · rw [decide_eq_false e, Bool.false_and]
      have ne : ¬ x.toInt.toNat = q.toInt.toNat := fun z => e (Int32.toInt_inj.mp (by omega))
      have o2 := of.2 sw ne
      generalize q.toInt.toNat * l.toInt.toNat % 64 = a at *
      generalize x.toInt.toNat * l.toInt.toNat % 64 = b at *
      by_cases c2 : a + i < b
      · rw [decide_eq_true c2]; simp
      · rw [hm _ (o2 (by omega))]; simp
  · have e : ¬ q = x := fun z => c (by rw [z])
    rw [if_neg c, decide_eq_false e, Bool.false_and]
    show (0#64).getLsbD _ = _
    rw [BitVec.getLsbD_zero]
theorem own_lb {k l W : Int32} (h : own_T k l W) (i : Nat) (hi : l.toInt.toNat ≤ i) : (if l = 64 then (-1 : Int64) else shlL 1 l - 1).toBitVec.getLsbD i = false := by
  by_cases c : i < 64
  · rcases h with ⟨rfl, rfl, rfl⟩ | ⟨rfl, rfl, rfl⟩ | ⟨rfl, rfl, rfl⟩ | ⟨rfl, rfl, rfl⟩ | ⟨rfl, rfl, rfl⟩ | ⟨rfl, rfl, rfl⟩ | ⟨rfl, rfl, rfl⟩
    · exact (by decide +kernel : ∀ i : Fin 64, 1 ≤ i.1 → (if (1 : Int32) = 64 then (-1 : Int64) else shlL 1 1 - 1).toBitVec.getLsbD i.1 = false) ⟨i, c⟩ hi
    · exact (by decide +kernel : ∀ i : Fin 64, 2 ≤ i.1 → (if (2 : Int32) = 64 then (-1 : Int64) else shlL 1 2 - 1).toBitVec.getLsbD i.1 = false) ⟨i, c⟩ hi
    · exact (by decide +kernel : ∀ i : Fin 64, 4 ≤ i.1 → (if (4 : Int32) = 64 then (-1 : Int64) else shlL 1 4 - 1).toBitVec.getLsbD i.1 = false) ⟨i, c⟩ hi
    · exact (by decide +kernel : ∀ i : Fin 64, 8 ≤ i.1 → (if (8 : Int32) = 64 then (-1 : Int64) else shlL 1 8 - 1).toBitVec.getLsbD i.1 = false) ⟨i, c⟩ hi
    · exact (by decide +kernel : ∀ i : Fin 64, 16 ≤ i.1 → (if (16 : Int32) = 64 then (-1 : Int64) else shlL 1 16 - 1).toBitVec.getLsbD i.1 = false) ⟨i, c⟩ hi
    · exact (by decide +kernel : ∀ i : Fin 64, 32 ≤ i.1 → (if (32 : Int32) = 64 then (-1 : Int64) else shlL 1 32 - 1).toBitVec.getLsbD i.1 = false) ⟨i, c⟩ hi
    · exact (by decide +kernel : ∀ i : Fin 64, 64 ≤ i.1 → (if (64 : Int32) = 64 then (-1 : Int64) else shlL 1 64 - 1).toBitVec.getLsbD i.1 = false) ⟨i, c⟩ hi
  · exact BitVec.getLsbD_of_ge _ _ (by omega)
theorem own_mb {k l W : Int32} (h : own_T k l W) (m : Int64) (i : Nat) (hi : l.toInt.toNat ≤ i) : (m &&& (if l = 64 then (-1 : Int64) else shlL 1 l - 1)).toBitVec.getLsbD i = false := by
  rw [Int64.toBitVec_and, BitVec.getLsbD_and, own_lb h i hi, Bool.and_false]

theorem own_Tk (p : Int32) : own_T ((p &&& 2147483647) % 7) (shlI 1 ((p &&& 2147483647) % 7)) (shrI 64 ((p &&& 2147483647) % 7)) := by
  have a1 := own_m31 p
  have a2 := (c_irem (p &&& 2147483647) 7 7 rfl).1 a1
  exact own_e6 _ (by omega) (by omega)
theorem own_cap64 {k l W : Int32} (h : own_T k l W) : ¬ (Int64.toInt32 (F_bytes 64 l / 8)) < 0 ∧ (Int32.toNatClampNeg (Int64.toInt32 (F_bytes 64 l / 8))) ≤ 64 := by
  rcases h with ⟨rfl, rfl, rfl⟩ | ⟨rfl, rfl, rfl⟩ | ⟨rfl, rfl, rfl⟩ | ⟨rfl, rfl, rfl⟩ | ⟨rfl, rfl, rfl⟩ | ⟨rfl, rfl, rfl⟩ | ⟨rfl, rfl, rfl⟩ <;> decide +kernel
theorem own_T_ln {k l W : Int32} (h : own_T k l W) : own_ln l := by
  unfold own_ln
  rcases h with ⟨rfl, rfl, rfl⟩ | ⟨rfl, rfl, rfl⟩ | ⟨rfl, rfl, rfl⟩ | ⟨rfl, rfl, rfl⟩ | ⟨rfl, rfl, rfl⟩ | ⟨rfl, rfl, rfl⟩ | ⟨rfl, rfl, rfl⟩ <;> decide
theorem own_t1 {k l W : Int32} (h : own_T k l W) (e : Int32) : 0 ≤ (e &&& (l - 1)).toInt ∧ (e &&& (l - 1)).toInt < l.toInt := by
  rcases h with ⟨rfl, rfl, rfl⟩ | ⟨rfl, rfl, rfl⟩ | ⟨rfl, rfl, rfl⟩ | ⟨rfl, rfl, rfl⟩ | ⟨rfl, rfl, rfl⟩ | ⟨rfl, rfl, rfl⟩ | ⟨rfl, rfl, rfl⟩
  · have := c_and e (1 - 1) (by decide); have e1 : ((1 : Int32) - 1).toInt = 0 := by decide
    have e2 : (1 : Int32).toInt = 1 := rfl
    omega
  · have := c_and e (2 - 1) (by decide); have e1 : ((2 : Int32) - 1).toInt = 1 := by decide
    have e2 : (2 : Int32).toInt = 2 := rfl
    omega
  · have := c_and e (4 - 1) (by decide); have e1 : ((4 : Int32) - 1).toInt = 3 := by decide
    have e2 : (4 : Int32).toInt = 4 := rfl
    omega
  · have := c_and e (8 - 1) (by decide); have e1 : ((8 : Int32) - 1).toInt = 7 := by decide
    have e2 : (8 : Int32).toInt = 8 := rfl
    omega
  · have := c_and e (16 - 1) (by decide); have e1 : ((16 : Int32) - 1).toInt = 15 := by decide
    have e2 : (16 : Int32).toInt = 16 := rfl
    omega
  · have := c_and e (32 - 1) (by decide); have e1 : ((32 : Int32) - 1).toInt = 31 := by decide
    have e2 : (32 : Int32).toInt = 32 := rfl
    omega
  · have := c_and e (64 - 1) (by decide); have e1 : ((64 : Int32) - 1).toInt = 63 := by decide
    have e2 : (64 : Int32).toInt = 64 := rfl
    omega
theorem own_p (p : Int32) : 0 ≤ (p &&& 63).toInt ∧ (p &&& 63).toInt < 64 := by
  have := c_and p 63 (by decide); have e : (63 : Int32).toInt = 63 := rfl
  omega
def own_core (l a b o : Int32) : Bool :=
  decide ((shlL 1 a ||| shlL 1 b) &&& (shlL 1 a ^^^ -1) &&& ushrL (shlL (shlL 1 a ||| shlL 1 b) o) o = (if a = b then 0 else shlL 1 b)) && (decide ((shlL 1 a ||| shlL 1 b) &&& (shlL 1 a ^^^ -1) = 0) == decide (a = b)) && decide (shlL (shlL 1 a ||| shlL 1 b) o &&& (F_spread (shlL 1 a) l ^^^ -1) = shlL (if a = b then 0 else shlL 1 b) o) && decide ((shlL 1 a ||| shlL 1 b) &&& (shlL 1 a ^^^ -1) &&& shlL 1 a = 0) && !decide (shlL 1 a = 0)
set_option maxRecDepth 65536
theorem own_core0 : ∀ (a b : Fin 1) (o : Fin 64), own_core 1 (Int32.ofNat a.1) (Int32.ofNat b.1) (Int32.ofNat (o.1 * 1)) = true := by decide +kernel
theorem own_core1 : ∀ (a b : Fin 2) (o : Fin 32), own_core 2 (Int32.ofNat a.1) (Int32.ofNat b.1) (Int32.ofNat (o.1 * 2)) = true := by decide +kernel
theorem own_core2 : ∀ (a b : Fin 4) (o : Fin 16), own_core 4 (Int32.ofNat a.1) (Int32.ofNat b.1) (Int32.ofNat (o.1 * 4)) = true := by decide +kernel
theorem own_core3 : ∀ (a b : Fin 8) (o : Fin 8), own_core 8 (Int32.ofNat a.1) (Int32.ofNat b.1) (Int32.ofNat (o.1 * 8)) = true := by decide +kernel
theorem own_core4 : ∀ (a b : Fin 16) (o : Fin 4), own_core 16 (Int32.ofNat a.1) (Int32.ofNat b.1) (Int32.ofNat (o.1 * 16)) = true := by decide +kernel
theorem own_core5 : ∀ (a b : Fin 32) (o : Fin 2), own_core 32 (Int32.ofNat a.1) (Int32.ofNat b.1) (Int32.ofNat (o.1 * 32)) = true := by decide +kernel
theorem own_core6 : ∀ (a b : Fin 64) (o : Fin 1), own_core 64 (Int32.ofNat a.1) (Int32.ofNat b.1) (Int32.ofNat (o.1 * 64)) = true := by decide +kernel
theorem own_cr {k l W : Int32} (h : own_T k l W) (a b o : Int32) (a1 : 0 ≤ a.toInt ∧ a.toInt < l.toInt) (b1 : 0 ≤ b.toInt ∧ b.toInt < l.toInt) (j : Nat) (hj : j < W.toInt.toNat) (ho : o.toInt = ((j * l.toInt.toNat : Nat) : Int)) : own_core l a b o = true := by
  have ea : a = Int32.ofNat a.toInt.toNat := Int32.toInt_inj.mp (by have := rng32 a; rw [Int32.toInt_ofNat_of_lt (by omega)]; omega)
  have eb : b = Int32.ofNat b.toInt.toNat := Int32.toInt_inj.mp (by have := rng32 b; rw [Int32.toInt_ofNat_of_lt (by omega)]; omega)
  have eo : o = Int32.ofNat (j * l.toInt.toNat) := Int32.toInt_inj.mp (by have := rng32 o; rw [Int32.toInt_ofNat_of_lt (by omega), ho])
  have na : a.toInt.toNat < l.toInt.toNat := by omega
  have nb : b.toInt.toNat < l.toInt.toNat := by omega
  rw [ea, eb, eo]
  rcases h with ⟨rfl, rfl, rfl⟩ | ⟨rfl, rfl, rfl⟩ | ⟨rfl, rfl, rfl⟩ | ⟨rfl, rfl, rfl⟩ | ⟨rfl, rfl, rfl⟩ | ⟨rfl, rfl, rfl⟩ | ⟨rfl, rfl, rfl⟩
  · exact own_core0 ⟨_, na⟩ ⟨_, nb⟩ ⟨j, hj⟩
  · exact own_core1 ⟨_, na⟩ ⟨_, nb⟩ ⟨j, hj⟩
  · exact own_core2 ⟨_, na⟩ ⟨_, nb⟩ ⟨j, hj⟩
  · exact own_core3 ⟨_, na⟩ ⟨_, nb⟩ ⟨j, hj⟩
  · exact own_core4 ⟨_, na⟩ ⟨_, nb⟩ ⟨j, hj⟩
  · exact own_core5 ⟨_, na⟩ ⟨_, nb⟩ ⟨j, hj⟩
  · exact own_core6 ⟨_, na⟩ ⟨_, nb⟩ ⟨j, hj⟩
theorem own_63 (x : Int32) : (x &&& 63) &&& 63 = x &&& 63 := by rw [Int32.and_assoc]; rfl
theorem own_shl63 (m : Int64) (x : Int32) : shlL m x = shlL m (x &&& 63) := by
  show m <<< (x &&& 63).toInt64 = m <<< ((x &&& 63) &&& 63).toInt64
  rw [own_63]
theorem own_ush63 (m : Int64) (x : Int32) : ushrL m x = ushrL m (x &&& 63) := by
  show (m.toUInt64 >>> (x &&& 63).toInt64.toUInt64).toInt64 = (m.toUInt64 >>> ((x &&& 63) &&& 63).toInt64.toUInt64).toInt64
  rw [own_63]
theorem own_sy0 (a : Int32) (h0 : 0 ≤ a.toInt) (h1 : a.toInt < 4096) : (shlI a 0 &&& 63).toInt = ((a.toInt.toNat * 1 % 64 : Nat) : Int) := by
  have s : ((shlI a 0).toInt - a.toInt * 1) % 4294967296 = 0 := c_ishl a 0 0 (by decide)
  have k1 : ((shlI a 0) &&& 63).toInt = (shlI a 0).toInt % 64 := c_mask _ 63 6 (by decide) (by decide)
  omega
theorem own_sy1 (a : Int32) (h0 : 0 ≤ a.toInt) (h1 : a.toInt < 4096) : (shlI a 1 &&& 63).toInt = ((a.toInt.toNat * 2 % 64 : Nat) : Int) := by
  have s : ((shlI a 1).toInt - a.toInt * 2) % 4294967296 = 0 := c_ishl a 1 1 (by decide)
  have k1 : ((shlI a 1) &&& 63).toInt = (shlI a 1).toInt % 64 := c_mask _ 63 6 (by decide) (by decide)
  omega
theorem own_sy2 (a : Int32) (h0 : 0 ≤ a.toInt) (h1 : a.toInt < 4096) : (shlI a 2 &&& 63).toInt = ((a.toInt.toNat * 4 % 64 : Nat) : Int) := by
  have s : ((shlI a 2).toInt - a.toInt * 4) % 4294967296 = 0 := c_ishl a 2 2 (by decide)
  have k1 : ((shlI a 2) &&& 63).toInt = (shlI a 2).toInt % 64 := c_mask _ 63 6 (by decide) (by decide)
  omega
theorem own_sy3 (a : Int32) (h0 : 0 ≤ a.toInt) (h1 : a.toInt < 4096) : (shlI a 3 &&& 63).toInt = ((a.toInt.toNat * 8 % 64 : Nat) : Int) := by
  have s : ((shlI a 3).toInt - a.toInt * 8) % 4294967296 = 0 := c_ishl a 3 3 (by decide)
  have k1 : ((shlI a 3) &&& 63).toInt = (shlI a 3).toInt % 64 := c_mask _ 63 6 (by decide) (by decide)
  omega
theorem own_sy4 (a : Int32) (h0 : 0 ≤ a.toInt) (h1 : a.toInt < 4096) : (shlI a 4 &&& 63).toInt = ((a.toInt.toNat * 16 % 64 : Nat) : Int) := by
  have s : ((shlI a 4).toInt - a.toInt * 16) % 4294967296 = 0 := c_ishl a 4 4 (by decide)
  have k1 : ((shlI a 4) &&& 63).toInt = (shlI a 4).toInt % 64 := c_mask _ 63 6 (by decide) (by decide)
  omega
theorem own_sy5 (a : Int32) (h0 : 0 ≤ a.toInt) (h1 : a.toInt < 4096) : (shlI a 5 &&& 63).toInt = ((a.toInt.toNat * 32 % 64 : Nat) : Int) := by
  have s : ((shlI a 5).toInt - a.toInt * 32) % 4294967296 = 0 := c_ishl a 5 5 (by decide)
  have k1 : ((shlI a 5) &&& 63).toInt = (shlI a 5).toInt % 64 := c_mask _ 63 6 (by decide) (by decide)
  omega
theorem own_sy6 (a : Int32) (h0 : 0 ≤ a.toInt) (h1 : a.toInt < 4096) : (shlI a 6 &&& 63).toInt = ((a.toInt.toNat * 64 % 64 : Nat) : Int) := by
  have s : ((shlI a 6).toInt - a.toInt * 64) % 4294967296 = 0 := c_ishl a 6 6 (by decide)
  have k1 : ((shlI a 6) &&& 63).toInt = (shlI a 6).toInt % 64 := c_mask _ 63 6 (by decide) (by decide)
  omega
theorem own_sy {k l W : Int32} (h : own_T k l W) (a : Int32) (h0 : 0 ≤ a.toInt) (h1 : a.toInt < 4096) : (shlI a k &&& 63).toInt = ((a.toInt.toNat * l.toInt.toNat % 64 : Nat) : Int) := by
  rcases h with ⟨rfl, rfl, rfl⟩ | ⟨rfl, rfl, rfl⟩ | ⟨rfl, rfl, rfl⟩ | ⟨rfl, rfl, rfl⟩ | ⟨rfl, rfl, rfl⟩ | ⟨rfl, rfl, rfl⟩ | ⟨rfl, rfl, rfl⟩
  · exact own_sy0 a h0 h1
  · exact own_sy1 a h0 h1
  · exact own_sy2 a h0 h1
  · exact own_sy3 a h0 h1
  · exact own_sy4 a h0 h1
  · exact own_sy5 a h0 h1
  · exact own_sy6 a h0 h1
theorem own_so {k l W : Int32} (h : own_T k l W) (a : Int32) (h0 : 0 ≤ a.toInt) (h1 : a.toInt < 4096) : (Int64.toInt32 (shlL (Int32.toInt64 a) k)) &&& 63 = shlI a k &&& 63 := Int32.toInt_inj.mp ((own_sx h a h0 h1).trans (own_sy h a h0 h1).symm)
theorem own_oj {k l W : Int32} (h : own_T k l W) (x : Nat) : x % W.toInt.toNat < W.toInt.toNat ∧ x * l.toInt.toNat % 64 = x % W.toInt.toNat * l.toInt.toNat := by
  rcases h with ⟨rfl, rfl, rfl⟩ | ⟨rfl, rfl, rfl⟩ | ⟨rfl, rfl, rfl⟩ | ⟨rfl, rfl, rfl⟩ | ⟨rfl, rfl, rfl⟩ | ⟨rfl, rfl, rfl⟩ | ⟨rfl, rfl, rfl⟩
  · exact (show x % 64 < 64 ∧ x * 1 % 64 = x % 64 * 1 from by omega)
  · exact (show x % 32 < 32 ∧ x * 2 % 64 = x % 32 * 2 from by omega)
  · exact (show x % 16 < 16 ∧ x * 4 % 64 = x % 16 * 4 from by omega)
  · exact (show x % 8 < 8 ∧ x * 8 % 64 = x % 8 * 8 from by omega)
  · exact (show x % 4 < 4 ∧ x * 16 % 64 = x % 4 * 16 from by omega)
  · exact (show x % 2 < 2 ∧ x * 32 % 64 = x % 2 * 32 from by omega)
  · exact (show x % 1 < 1 ∧ x * 64 % 64 = x % 1 * 64 from by omega)
theorem own_all {k l W : Int32} (h : own_T k l W) (a b p : Int32) (a1 : 0 ≤ a.toInt ∧ a.toInt < l.toInt) (b1 : 0 ≤ b.toInt ∧ b.toInt < l.toInt) (h0 : 0 ≤ p.toInt) (h1 : p.toInt < 64) : own_core l a b (shlI p k &&& 63) = true :=
  own_cr h a b _ a1 b1 (p.toInt.toNat % W.toInt.toNat) (own_oj h _).1 (by rw [own_sy h p h0 (by omega), (own_oj h _).2])
theorem own_U (a b l k : Int32) : (if b = a then F_take_a0_inUse a 0 0 l k else F_take_a0_inUse b (F_take_a0_inUse a 0 0 l k) 0 l k) = shlL 1 a ||| shlL 1 b := by
  simp only [F_take_a0_inUse, own_0or]
  by_cases c : b = a
  · rw [if_pos c, c, Int64.or_self]
  · rw [if_neg c]
theorem own_U2 (a l k d : Int32) (U : Int64) : (if d = 0 then F_free_a0_inUse a U 0 l k else F_free_a0_inUse a (F_free_a0_inUse a U 0 l k) (F_free_a0_dirty a U 0 l k) l k) = U &&& (shlL 1 a ^^^ -1) := by
  simp only [F_free_a0_inUse]
  split
  · rfl
  · rw [Int64.and_assoc, Int64.and_self]
theorem own_D2 (a l k d : Int32) (U : Int64) : (if d = 0 then F_free_a0_dirty a U 0 l k else F_free_a0_dirty a (F_free_a0_inUse a U 0 l k) (F_free_a0_dirty a U 0 l k) l k) = shlL 1 a := by
  simp only [F_free_a0_dirty, own_0or]
  split
  · rfl
  · rw [Int64.or_self]
theorem own_cs {l a b o : Int32} (h : own_core l a b o = true) : ((shlL 1 a ||| shlL 1 b) &&& (shlL 1 a ^^^ -1) &&& ushrL (shlL (shlL 1 a ||| shlL 1 b) o) o = (if a = b then 0 else shlL 1 b)) ∧ ((shlL 1 a ||| shlL 1 b) &&& (shlL 1 a ^^^ -1) = 0 ↔ a = b) ∧ (shlL (shlL 1 a ||| shlL 1 b) o &&& (F_spread (shlL 1 a) l ^^^ -1) = shlL (if a = b then 0 else shlL 1 b) o) ∧ ((shlL 1 a ||| shlL 1 b) &&& (shlL 1 a ^^^ -1) &&& shlL 1 a = 0) ∧ ¬ shlL 1 a = 0 := by
  unfold own_core at h
  rw [Bool.and_eq_true, Bool.and_eq_true, Bool.and_eq_true, Bool.and_eq_true] at h
  obtain ⟨⟨⟨⟨c1, c2⟩, c3⟩, c4⟩, c5⟩ := h
  refine ⟨of_decide_eq_true c1, ?_, of_decide_eq_true c3, of_decide_eq_true c4, ?_⟩
  · have := eq_of_beq c2
    exact decide_eq_decide.mp this
  · intro z; rw [decide_eq_true z] at c5; cases c5
theorem own_L (p1 : Int32) (u d : Int64) (ln : Int32) (n : Nat) (g0 : Nat → Int64) (ls : Int32) (v keep : Int64) (k : Nat) : ∀ (x : Int32) (g : Nat → Int64), own_wl k x n → ∀ j : Nat, L6_572_1 k p1 u d ln n g0 ls v keep x g j = if x.toInt ≤ j ∧ j < n then g j &&& keep else g j := by
  induction k with
  | zero =>
    intro x g h j
    have := h.2.1
    rw [if_neg (by omega)]; rfl
  | succ k ih =>
    intro x g h j
    have s := c_iadd x 1; have r := rng32 (x + 1)
    have e1 : (1 : Int32).toInt = 1 := rfl
    have hw := (own_wln h).2.1
    have h2 := h.2.1; have h3 := h.1; have h4 := h.2.2
    show L6_572_1 k p1 u d ln n g0 ls v keep (x + 1) (upd g (Int32.toNatClampNeg x) (g (Int32.toNatClampNeg x) &&& keep)) j = _
    rw [ih _ _ hw]
    have ec : Int32.toNatClampNeg x = x.toInt.toNat := rfl
    simp only [upd, ec]
    obtain ⟨i, hi⟩ : ∃ i, x.toInt.toNat = i := ⟨_, rfl⟩
    rw [hi]
    by_cases c : j = i
    · rw [if_neg (by omega), if_pos c, if_pos (by omega), c]
    · rw [if_neg c]
      by_cases c2 : (x + 1).toInt ≤ j ∧ j < n
      · rw [if_pos c2, if_pos (by omega)]
      · rw [if_neg c2, if_neg (by omega)]

theorem pd_3 : parseMethodDescriptor "(II)V" = some ⟨[.int, .int], none⟩ := by decide +kernel
theorem pd_4 : parseMethodDescriptor "(I)V" = some ⟨[.int], none⟩ := by decide +kernel
theorem pd_5 : parseMethodDescriptor "([IJ)V" = some ⟨[(.array .int), .long], none⟩ := by decide +kernel
theorem pd_6 : parseMethodDescriptor "([I)J" = some ⟨[(.array .int)], some .long⟩ := by decide +kernel
theorem pd_7 : parseMethodDescriptor "()Z" = some ⟨[], some .boolean⟩ := by decide +kernel
theorem pd_8 : parseMethodDescriptor "(I)J" = some ⟨[.int], some .long⟩ := by decide +kernel
theorem ef_0 (p0 : Int32) (p1 : Int32) (p2 : Int32) (p3 : Int32) (p4 : Int32) : ∀ m : MethodId, entryFrame m #[(.int p0), (.int p1), (.int p2), (.int p3), (.int p4)] maxLocals = mkF m 0 #[.val (.int p0), .val (.int p1), .val (.int p2), .val (.int p3), .val (.int p4), .unset, .unset, .unset, .unset, .unset, .unset, .unset, .unset, .unset, .unset, .unset, .unset, .unset, .unset, .unset] [] := by intro m; first | (simp [entryFrame, mkF, argsToLocals, Value.category, maxLocals]; done) | rfl
theorem pn_2 : plainName "com/example/dayflower/dayflower/filter/FilterSlabFreePinLaw" = true := by first | (simp [plainName, overriddenIn]; done) | decide +kernel
def M0_1418 (v1177 : Int32) (v1250 : Int32) (v1174 : Int32) (v1175 : Int32) (d1360 : Int64) (d1359 : Int64) (v1182 : Int64) (v1183 : Int64) (d1379 : Int64) (v1181 : Int32) : Int32 :=
  (if (F_word v1177 v1250 (Int32.toNatClampNeg (Int64.toInt32 ((F_bytes (64 : Int32) v1174) / (8 : Int64)))) (F_take2_w_a0_words_g v1175 d1360 d1359 v1174 (Int32.toNatClampNeg (Int64.toInt32 ((F_bytes (64 : Int32) v1174) / (8 : Int64)))) (F_add1_w_a0_words_g (v1182 ||| v1183) v1177 v1250 (Int32.toNatClampNeg (Int64.toInt32 ((F_bytes (64 : Int32) v1174) / (8 : Int64)))) (fun _ => (0 : Int64))) v1250)) = (shlL d1379 v1181) then (1 : Int32) else (0 : Int32))
def F_law (p0 : Int32) (p1 : Int32) (p2 : Int32) (p3 : Int32) (p4 : Int32) : Int32 :=
  let v1173 : Int32 := ((p0 &&& (2147483647 : Int32)) % (7 : Int32))
  let v1174 : Int32 := (shlI (1 : Int32) v1173)
  let v1175 : Int32 := (p1 &&& (v1174 - (1 : Int32)))
  let v1176 : Int32 := (p2 &&& (v1174 - (1 : Int32)))
  let v1177 : Int32 := (p3 &&& (63 : Int32))
  let d1179 : Int32 := (if (p4 &&& (1 : Int32)) = (0 : Int32) then (0 : Int32) else (1 : Int32))
  let v1181 : Int32 := ((shlI v1177 v1173) &&& (63 : Int32))
  let v1182 : Int64 := (shlL (1 : Int64) v1175)
  let v1183 : Int64 := (shlL (1 : Int64) v1176)
  let v1250 : Int32 := (F_numberOfTrailingZeros v1174)
  let v1268 : Int64 := (F_take_a0_inUse v1175 (0 : Int64) (0 : Int64) v1174 v1250)
  let d1287 : Int64 := (if v1176 = v1175 then v1268 else (F_take_a0_inUse v1176 v1268 (0 : Int64) v1174 v1250))
  let v1339 : Int64 := (F_free_a0_dirty v1175 d1287 (0 : Int64) v1174 v1250)
  let v1340 : Int64 := (F_free_a0_inUse v1175 d1287 (0 : Int64) v1174 v1250)
  let d1359 : Int64 := (if d1179 = (0 : Int32) then v1339 else (F_free_a0_dirty v1175 v1340 v1339 v1174 v1250))
  let d1360 : Int64 := (if d1179 = (0 : Int32) then v1340 else (F_free_a0_inUse v1175 v1340 v1339 v1174 v1250))
  let d1379 : Int64 := (if v1175 = v1176 then (0 : Int64) else v1183)
  if (F_holding1 d1360 v1177 v1250 (Int32.toNatClampNeg (Int64.toInt32 ((F_bytes (64 : Int32) v1174) / (8 : Int64)))) (F_add1_w_a0_words_g (v1182 ||| v1183) v1177 v1250 (Int32.toNatClampNeg (Int64.toInt32 ((F_bytes (64 : Int32) v1174) / (8 : Int64)))) (fun _ => (0 : Int64)))) = d1379 then
    let d1389 : Int32 := (if v1175 = v1176 then (1 : Int32) else (0 : Int32))
    if (F_empty d1360) = d1389 then
      if (F_word v1177 v1250 (Int32.toNatClampNeg (Int64.toInt32 ((F_bytes (64 : Int32) v1174) / (8 : Int64)))) (F_add1_w_a0_words_g (v1182 ||| v1183) v1177 v1250 (Int32.toNatClampNeg (Int64.toInt32 ((F_bytes (64 : Int32) v1174) / (8 : Int64)))) (fun _ => (0 : Int64)))) = (shlL (v1182 ||| v1183) v1181) then
        let v1412 : Int64 := (F_take2_a0_dirty v1175 d1360 d1359 v1174 (Int32.toNatClampNeg (Int64.toInt32 ((F_bytes (64 : Int32) v1174) / (8 : Int64)))) (F_add1_w_a0_words_g (v1182 ||| v1183) v1177 v1250 (Int32.toNatClampNeg (Int64.toInt32 ((F_bytes (64 : Int32) v1174) / (8 : Int64)))) (fun _ => (0 : Int64))) v1250)
        let v1413 : Int64 := (F_take2_a0_inUse v1175 d1360 d1359 v1174 (Int32.toNatClampNeg (Int64.toInt32 ((F_bytes (64 : Int32) v1174) / (8 : Int64)))) (F_add1_w_a0_words_g (v1182 ||| v1183) v1177 v1250 (Int32.toNatClampNeg (Int64.toInt32 ((F_bytes (64 : Int32) v1174) / (8 : Int64)))) (fun _ => (0 : Int64))) v1250)
        let d1419 : Int32 := (M0_1418 v1177 v1250 v1174 v1175 d1360 d1359 v1182 v1183 d1379 v1181)
        (nar .boolean d1419)
      else
        (0 : Int32)
    else
      (0 : Int32)
  else
    (0 : Int32)
theorem own_ob_0 (p0 : Int32) (p1 : Int32) (p2 : Int32) (p3 : Int32) (p4 : Int32) : ∀ (v1173 : Int32) (v1174 : Int32), ((p0 &&& (2147483647 : Int32)) % (7 : Int32)) = v1173 → (shlI (1 : Int32) v1173) = v1174 → (¬ (v1174 < (1 : Int32))) := by
  have T := own_Tk p0
  have P := own_p p3
  have A := own_t1 T p1
  have B := own_t1 T p2
  have C := own_cs (own_all T _ _ _ A B P.1 P.2)
  intros; subst_vars
  exact own_T_lo T
theorem own_ob_1 (p0 : Int32) (p1 : Int32) (p2 : Int32) (p3 : Int32) (p4 : Int32) : ∀ (v1173 : Int32) (v1174 : Int32), ((p0 &&& (2147483647 : Int32)) % (7 : Int32)) = v1173 → (shlI (1 : Int32) v1173) = v1174 → (¬ ((64 : Int32) < v1174)) := by
  have T := own_Tk p0
  have P := own_p p3
  have A := own_t1 T p1
  have B := own_t1 T p2
  have C := own_cs (own_all T _ _ _ A B P.1 P.2)
  intros; subst_vars
  exact own_T_hi T
theorem own_ob_2 (p0 : Int32) (p1 : Int32) (p2 : Int32) (p3 : Int32) (p4 : Int32) : ∀ (v1173 : Int32) (v1174 : Int32), ((p0 &&& (2147483647 : Int32)) % (7 : Int32)) = v1173 → (shlI (1 : Int32) v1173) = v1174 → ((F_bitCount v1174) = (1 : Int32)) := by
  have T := own_Tk p0
  have P := own_p p3
  have A := own_t1 T p1
  have B := own_t1 T p2
  have C := own_cs (own_all T _ _ _ A B P.1 P.2)
  intros; subst_vars
  exact own_T_bc T
theorem own_ob_3 (p0 : Int32) (p1 : Int32) (p2 : Int32) (p3 : Int32) (p4 : Int32) : ∀ (v1173 : Int32) (v1174 : Int32), ((p0 &&& (2147483647 : Int32)) % (7 : Int32)) = v1173 → (shlI (1 : Int32) v1173) = v1174 → (¬ (Int64.toInt32 ((F_bytes (64 : Int32) v1174) / (8 : Int64))) < (0 : Int32) ∧ (Int32.toNatClampNeg (Int64.toInt32 ((F_bytes (64 : Int32) v1174) / (8 : Int64)))) ≤ 64) := by
  have T := own_Tk p0
  have P := own_p p3
  have A := own_t1 T p1
  have B := own_t1 T p2
  have C := own_cs (own_all T _ _ _ A B P.1 P.2)
  intros; subst_vars
  exact own_cap64 T
theorem own_ob_4 (p0 : Int32) (p1 : Int32) (p2 : Int32) (p3 : Int32) (p4 : Int32) : ∀ (v1173 : Int32) (v1174 : Int32) (v1175 : Int32), ((p0 &&& (2147483647 : Int32)) % (7 : Int32)) = v1173 → (shlI (1 : Int32) v1173) = v1174 → (p1 &&& (v1174 - (1 : Int32))) = v1175 → (∀ (v421 : Int64), (shlL (1 : Int64) v1175) = v421 → ((0 : Int64) &&& v421) = (0 : Int64)) := by
  have T := own_Tk p0
  have P := own_p p3
  have A := own_t1 T p1
  have B := own_t1 T p2
  have C := own_cs (own_all T _ _ _ A B P.1 P.2)
  intros; subst_vars
  exact Int64.zero_and
theorem own_ob_5 (p0 : Int32) (p1 : Int32) (p2 : Int32) (p3 : Int32) (p4 : Int32) : ∀ (v1173 : Int32) (v1174 : Int32) (v1175 : Int32) (v1176 : Int32) (v1250 : Int32) (v1268 : Int64), ((p0 &&& (2147483647 : Int32)) % (7 : Int32)) = v1173 → (shlI (1 : Int32) v1173) = v1174 → (p1 &&& (v1174 - (1 : Int32))) = v1175 → (p2 &&& (v1174 - (1 : Int32))) = v1176 → (F_numberOfTrailingZeros v1174) = v1250 → (F_take_a0_inUse v1175 (0 : Int64) (0 : Int64) v1174 v1250) = v1268 → ¬ (v1176 = v1175) → (∀ (v421 : Int64), (shlL (1 : Int64) v1176) = v421 → (v1268 &&& v421) = (0 : Int64)) := by
  have T := own_Tk p0
  have P := own_p p3
  have A := own_t1 T p1
  have B := own_t1 T p2
  have C := own_cs (own_all T _ _ _ A B P.1 P.2)
  have lh : (shlI 1 ((p0 &&& 2147483647) % 7)).toInt ≤ 64 := by have := own_T_hi T; rw [own_ltI] at this; have e4 : (64 : Int32).toInt = 64 := rfl; omega
  intro a1 a2 a3 a4 a5 a6 h1 h2 h3 h4 h5 h6 hc v hv
  subst_vars
  simp only [F_take_a0_inUse, own_0or]
  exact own_disj _ _ A.1 (by omega) B.1 (by omega) (fun z => hc z.symm)
theorem own_ob_6 (p0 : Int32) (p1 : Int32) (p2 : Int32) (p3 : Int32) (p4 : Int32) : ∀ (v1173 : Int32) (v1174 : Int32) (v1175 : Int32) (v1176 : Int32), ((p0 &&& (2147483647 : Int32)) % (7 : Int32)) = v1173 → (shlI (1 : Int32) v1173) = v1174 → (p1 &&& (v1174 - (1 : Int32))) = v1175 → (p2 &&& (v1174 - (1 : Int32))) = v1176 → ¬ (v1176 = v1175) → (∀ (v421 : Int64), (shlL (1 : Int64) v1176) = v421 → ((0 : Int64) &&& v421) = (0 : Int64)) := by
  have T := own_Tk p0
  have P := own_p p3
  have A := own_t1 T p1
  have B := own_t1 T p2
  have C := own_cs (own_all T _ _ _ A B P.1 P.2)
  intros; subst_vars
  exact Int64.zero_and
theorem own_ob_7 (p0 : Int32) (p1 : Int32) (p2 : Int32) (p3 : Int32) (p4 : Int32) : ∀ (v1173 : Int32) (v1174 : Int32) (v1177 : Int32) (v1250 : Int32), ((p0 &&& (2147483647 : Int32)) % (7 : Int32)) = v1173 → (shlI (1 : Int32) v1173) = v1174 → (p3 &&& (63 : Int32)) = v1177 → (F_numberOfTrailingZeros v1174) = v1250 → (∀ (v500 : Int64), (shlL (Int32.toInt64 v1177) v1250) = v500 → ¬ (Int64.toInt32 (ushrL v500 (6 : Int32))) < (0 : Int32) ∧ Int32.toNatClampNeg (Int64.toInt32 (ushrL v500 (6 : Int32))) < (Int32.toNatClampNeg (Int64.toInt32 ((F_bytes (64 : Int32) v1174) / (8 : Int64))))) := by
  have T := own_Tk p0
  have P := own_p p3
  have A := own_t1 T p1
  have B := own_t1 T p2
  have C := own_cs (own_all T _ _ _ A B P.1 P.2)
  intros; subst_vars
  rw [own_T_ntz T]
  exact own_in T 64 _ (by decide) (by decide) P.1 P.2
theorem own_ob_8 (p0 : Int32) (p1 : Int32) (p2 : Int32) (p3 : Int32) (p4 : Int32) : ∀ (v1173 : Int32) (v1174 : Int32) (v1177 : Int32) (v1250 : Int32), ((p0 &&& (2147483647 : Int32)) % (7 : Int32)) = v1173 → (shlI (1 : Int32) v1173) = v1174 → (p3 &&& (63 : Int32)) = v1177 → (F_numberOfTrailingZeros v1174) = v1250 → (∀ (v548 : Int64), (shlL (Int32.toInt64 v1177) v1250) = v548 → ¬ (Int64.toInt32 (ushrL v548 (6 : Int32))) < (0 : Int32) ∧ Int32.toNatClampNeg (Int64.toInt32 (ushrL v548 (6 : Int32))) < (Int32.toNatClampNeg (Int64.toInt32 ((F_bytes (64 : Int32) v1174) / (8 : Int64))))) := by
  have T := own_Tk p0
  have P := own_p p3
  have A := own_t1 T p1
  have B := own_t1 T p2
  have C := own_cs (own_all T _ _ _ A B P.1 P.2)
  intros; subst_vars
  rw [own_T_ntz T]
  exact own_in T 64 _ (by decide) (by decide) P.1 P.2
theorem own_ob_9 (p0 : Int32) (p1 : Int32) (p2 : Int32) (p3 : Int32) (p4 : Int32) : ∀ (v1173 : Int32) (v1174 : Int32) (v1175 : Int32) (v1176 : Int32) (v1177 : Int32) (d1179 : Int32) (v1182 : Int64) (v1183 : Int64) (v1250 : Int32) (v1268 : Int64) (d1287 : Int64) (v1339 : Int64) (v1340 : Int64) (d1360 : Int64) (d1379 : Int64) (d1389 : Int32), ((p0 &&& (2147483647 : Int32)) % (7 : Int32)) = v1173 → (shlI (1 : Int32) v1173) = v1174 → (p1 &&& (v1174 - (1 : Int32))) = v1175 → (p2 &&& (v1174 - (1 : Int32))) = v1176 → (p3 &&& (63 : Int32)) = v1177 → (if (p4 &&& (1 : Int32)) = (0 : Int32) then (0 : Int32) else (1 : Int32)) = d1179 → (shlL (1 : Int64) v1175) = v1182 → (shlL (1 : Int64) v1176) = v1183 → (F_numberOfTrailingZeros v1174) = v1250 → (F_take_a0_inUse v1175 (0 : Int64) (0 : Int64) v1174 v1250) = v1268 → (if v1176 = v1175 then v1268 else (F_take_a0_inUse v1176 v1268 (0 : Int64) v1174 v1250)) = d1287 → (F_free_a0_dirty v1175 d1287 (0 : Int64) v1174 v1250) = v1339 → (F_free_a0_inUse v1175 d1287 (0 : Int64) v1174 v1250) = v1340 → (if d1179 = (0 : Int32) then v1340 else (F_free_a0_inUse v1175 v1340 v1339 v1174 v1250)) = d1360 → (if v1175 = v1176 then (0 : Int64) else v1183) = d1379 → (if v1175 = v1176 then (1 : Int32) else (0 : Int32)) = d1389 → (F_holding1 d1360 v1177 v1250 (Int32.toNatClampNeg (Int64.toInt32 ((F_bytes (64 : Int32) v1174) / (8 : Int64)))) (F_add1_w_a0_words_g (v1182 ||| v1183) v1177 v1250 (Int32.toNatClampNeg (Int64.toInt32 ((F_bytes (64 : Int32) v1174) / (8 : Int64)))) (fun _ => (0 : Int64)))) = d1379 → (F_empty d1360) = d1389 → (¬ (Int64.toInt32 (ushrL (shlL (Int32.toInt64 v1177) v1250) (6 : Int32))) < (0 : Int32) ∧ Int32.toNatClampNeg (Int64.toInt32 (ushrL (shlL (Int32.toInt64 v1177) v1250) (6 : Int32))) < (Int32.toNatClampNeg (Int64.toInt32 ((F_bytes (64 : Int32) v1174) / (8 : Int64))))) := by
  have T := own_Tk p0
  have P := own_p p3
  have A := own_t1 T p1
  have B := own_t1 T p2
  have C := own_cs (own_all T _ _ _ A B P.1 P.2)
  intros; subst_vars
  rw [own_T_ntz T]
  exact own_in T 64 _ (by decide) (by decide) P.1 P.2
theorem own_ob_10 (p0 : Int32) (p1 : Int32) (p2 : Int32) (p3 : Int32) (p4 : Int32) : ∀ (v1173 : Int32) (v1174 : Int32) (v1175 : Int32) (v1176 : Int32) (v1177 : Int32) (d1179 : Int32) (v1181 : Int32) (v1182 : Int64) (v1183 : Int64) (v1250 : Int32) (v1268 : Int64) (d1287 : Int64) (v1339 : Int64) (v1340 : Int64) (d1360 : Int64) (d1379 : Int64) (d1389 : Int32), ((p0 &&& (2147483647 : Int32)) % (7 : Int32)) = v1173 → (shlI (1 : Int32) v1173) = v1174 → (p1 &&& (v1174 - (1 : Int32))) = v1175 → (p2 &&& (v1174 - (1 : Int32))) = v1176 → (p3 &&& (63 : Int32)) = v1177 → (if (p4 &&& (1 : Int32)) = (0 : Int32) then (0 : Int32) else (1 : Int32)) = d1179 → ((shlI v1177 v1173) &&& (63 : Int32)) = v1181 → (shlL (1 : Int64) v1175) = v1182 → (shlL (1 : Int64) v1176) = v1183 → (F_numberOfTrailingZeros v1174) = v1250 → (F_take_a0_inUse v1175 (0 : Int64) (0 : Int64) v1174 v1250) = v1268 → (if v1176 = v1175 then v1268 else (F_take_a0_inUse v1176 v1268 (0 : Int64) v1174 v1250)) = d1287 → (F_free_a0_dirty v1175 d1287 (0 : Int64) v1174 v1250) = v1339 → (F_free_a0_inUse v1175 d1287 (0 : Int64) v1174 v1250) = v1340 → (if d1179 = (0 : Int32) then v1340 else (F_free_a0_inUse v1175 v1340 v1339 v1174 v1250)) = d1360 → (if v1175 = v1176 then (0 : Int64) else v1183) = d1379 → (if v1175 = v1176 then (1 : Int32) else (0 : Int32)) = d1389 → (F_holding1 d1360 v1177 v1250 (Int32.toNatClampNeg (Int64.toInt32 ((F_bytes (64 : Int32) v1174) / (8 : Int64)))) (F_add1_w_a0_words_g (v1182 ||| v1183) v1177 v1250 (Int32.toNatClampNeg (Int64.toInt32 ((F_bytes (64 : Int32) v1174) / (8 : Int64)))) (fun _ => (0 : Int64)))) = d1379 → (F_empty d1360) = d1389 → (F_word v1177 v1250 (Int32.toNatClampNeg (Int64.toInt32 ((F_bytes (64 : Int32) v1174) / (8 : Int64)))) (F_add1_w_a0_words_g (v1182 ||| v1183) v1177 v1250 (Int32.toNatClampNeg (Int64.toInt32 ((F_bytes (64 : Int32) v1174) / (8 : Int64)))) (fun _ => (0 : Int64)))) = (shlL (v1182 ||| v1183) v1181) → (∀ (v1075 : Int64), (shlL (1 : Int64) v1175) = v1075 → (d1360 &&& v1075) = (0 : Int64)) := by
  have T := own_Tk p0
  have P := own_p p3
  have A := own_t1 T p1
  have B := own_t1 T p2
  have C := own_cs (own_all T _ _ _ A B P.1 P.2)
  intros; subst_vars
  rw [own_U, own_U2]
  exact C.2.2.2.1
theorem own_ob_11 (p0 : Int32) (p1 : Int32) (p2 : Int32) (p3 : Int32) (p4 : Int32) : ∀ (v1173 : Int32) (v1174 : Int32) (v1175 : Int32) (v1176 : Int32) (v1177 : Int32) (d1179 : Int32) (v1181 : Int32) (v1182 : Int64) (v1183 : Int64) (v1250 : Int32) (v1268 : Int64) (d1287 : Int64) (v1339 : Int64) (v1340 : Int64) (d1359 : Int64) (d1360 : Int64) (d1379 : Int64) (d1389 : Int32), ((p0 &&& (2147483647 : Int32)) % (7 : Int32)) = v1173 → (shlI (1 : Int32) v1173) = v1174 → (p1 &&& (v1174 - (1 : Int32))) = v1175 → (p2 &&& (v1174 - (1 : Int32))) = v1176 → (p3 &&& (63 : Int32)) = v1177 → (if (p4 &&& (1 : Int32)) = (0 : Int32) then (0 : Int32) else (1 : Int32)) = d1179 → ((shlI v1177 v1173) &&& (63 : Int32)) = v1181 → (shlL (1 : Int64) v1175) = v1182 → (shlL (1 : Int64) v1176) = v1183 → (F_numberOfTrailingZeros v1174) = v1250 → (F_take_a0_inUse v1175 (0 : Int64) (0 : Int64) v1174 v1250) = v1268 → (if v1176 = v1175 then v1268 else (F_take_a0_inUse v1176 v1268 (0 : Int64) v1174 v1250)) = d1287 → (F_free_a0_dirty v1175 d1287 (0 : Int64) v1174 v1250) = v1339 → (F_free_a0_inUse v1175 d1287 (0 : Int64) v1174 v1250) = v1340 → (if d1179 = (0 : Int32) then v1339 else (F_free_a0_dirty v1175 v1340 v1339 v1174 v1250)) = d1359 → (if d1179 = (0 : Int32) then v1340 else (F_free_a0_inUse v1175 v1340 v1339 v1174 v1250)) = d1360 → (if v1175 = v1176 then (0 : Int64) else v1183) = d1379 → (if v1175 = v1176 then (1 : Int32) else (0 : Int32)) = d1389 → (F_holding1 d1360 v1177 v1250 (Int32.toNatClampNeg (Int64.toInt32 ((F_bytes (64 : Int32) v1174) / (8 : Int64)))) (F_add1_w_a0_words_g (v1182 ||| v1183) v1177 v1250 (Int32.toNatClampNeg (Int64.toInt32 ((F_bytes (64 : Int32) v1174) / (8 : Int64)))) (fun _ => (0 : Int64)))) = d1379 → (F_empty d1360) = d1389 → (F_word v1177 v1250 (Int32.toNatClampNeg (Int64.toInt32 ((F_bytes (64 : Int32) v1174) / (8 : Int64)))) (F_add1_w_a0_words_g (v1182 ||| v1183) v1177 v1250 (Int32.toNatClampNeg (Int64.toInt32 ((F_bytes (64 : Int32) v1174) / (8 : Int64)))) (fun _ => (0 : Int64)))) = (shlL (v1182 ||| v1183) v1181) → (∀ (v1075 : Int64), (shlL (1 : Int64) v1175) = v1075 → ¬ ((d1359 &&& v1075) = (0 : Int64))) := by
  have T := own_Tk p0
  have P := own_p p3
  have A := own_t1 T p1
  have B := own_t1 T p2
  have C := own_cs (own_all T _ _ _ A B P.1 P.2)
  intros; subst_vars
  rw [own_D2, Int64.and_self]
  exact C.2.2.2.2
theorem own_ob_12 (p0 : Int32) (p1 : Int32) (p2 : Int32) (p3 : Int32) (p4 : Int32) : ∀ (v1173 : Int32) (v1174 : Int32) (v1175 : Int32) (v1176 : Int32) (v1177 : Int32) (d1179 : Int32) (v1181 : Int32) (v1182 : Int64) (v1183 : Int64) (v1250 : Int32) (v1268 : Int64) (d1287 : Int64) (v1339 : Int64) (v1340 : Int64) (d1360 : Int64) (d1379 : Int64) (d1389 : Int32), ((p0 &&& (2147483647 : Int32)) % (7 : Int32)) = v1173 → (shlI (1 : Int32) v1173) = v1174 → (p1 &&& (v1174 - (1 : Int32))) = v1175 → (p2 &&& (v1174 - (1 : Int32))) = v1176 → (p3 &&& (63 : Int32)) = v1177 → (if (p4 &&& (1 : Int32)) = (0 : Int32) then (0 : Int32) else (1 : Int32)) = d1179 → ((shlI v1177 v1173) &&& (63 : Int32)) = v1181 → (shlL (1 : Int64) v1175) = v1182 → (shlL (1 : Int64) v1176) = v1183 → (F_numberOfTrailingZeros v1174) = v1250 → (F_take_a0_inUse v1175 (0 : Int64) (0 : Int64) v1174 v1250) = v1268 → (if v1176 = v1175 then v1268 else (F_take_a0_inUse v1176 v1268 (0 : Int64) v1174 v1250)) = d1287 → (F_free_a0_dirty v1175 d1287 (0 : Int64) v1174 v1250) = v1339 → (F_free_a0_inUse v1175 d1287 (0 : Int64) v1174 v1250) = v1340 → (if d1179 = (0 : Int32) then v1340 else (F_free_a0_inUse v1175 v1340 v1339 v1174 v1250)) = d1360 → (if v1175 = v1176 then (0 : Int64) else v1183) = d1379 → (if v1175 = v1176 then (1 : Int32) else (0 : Int32)) = d1389 → (F_holding1 d1360 v1177 v1250 (Int32.toNatClampNeg (Int64.toInt32 ((F_bytes (64 : Int32) v1174) / (8 : Int64)))) (F_add1_w_a0_words_g (v1182 ||| v1183) v1177 v1250 (Int32.toNatClampNeg (Int64.toInt32 ((F_bytes (64 : Int32) v1174) / (8 : Int64)))) (fun _ => (0 : Int64)))) = d1379 → (F_empty d1360) = d1389 → (F_word v1177 v1250 (Int32.toNatClampNeg (Int64.toInt32 ((F_bytes (64 : Int32) v1174) / (8 : Int64)))) (F_add1_w_a0_words_g (v1182 ||| v1183) v1177 v1250 (Int32.toNatClampNeg (Int64.toInt32 ((F_bytes (64 : Int32) v1174) / (8 : Int64)))) (fun _ => (0 : Int64)))) = (shlL (v1182 ||| v1183) v1181) → ((own_ln v1174)) := by
  have T := own_Tk p0
  have P := own_p p3
  have A := own_t1 T p1
  have B := own_t1 T p2
  have C := own_cs (own_all T _ _ _ A B P.1 P.2)
  intros; subst_vars
  exact own_T_ln T
theorem own_ob_13 (p0 : Int32) (p1 : Int32) (p2 : Int32) (p3 : Int32) (p4 : Int32) : ∀ (v1173 : Int32) (v1174 : Int32) (v1175 : Int32) (v1176 : Int32) (v1177 : Int32) (d1179 : Int32) (v1181 : Int32) (v1182 : Int64) (v1183 : Int64) (v1250 : Int32) (v1268 : Int64) (d1287 : Int64) (v1339 : Int64) (v1340 : Int64) (d1360 : Int64) (d1379 : Int64) (d1389 : Int32), ((p0 &&& (2147483647 : Int32)) % (7 : Int32)) = v1173 → (shlI (1 : Int32) v1173) = v1174 → (p1 &&& (v1174 - (1 : Int32))) = v1175 → (p2 &&& (v1174 - (1 : Int32))) = v1176 → (p3 &&& (63 : Int32)) = v1177 → (if (p4 &&& (1 : Int32)) = (0 : Int32) then (0 : Int32) else (1 : Int32)) = d1179 → ((shlI v1177 v1173) &&& (63 : Int32)) = v1181 → (shlL (1 : Int64) v1175) = v1182 → (shlL (1 : Int64) v1176) = v1183 → (F_numberOfTrailingZeros v1174) = v1250 → (F_take_a0_inUse v1175 (0 : Int64) (0 : Int64) v1174 v1250) = v1268 → (if v1176 = v1175 then v1268 else (F_take_a0_inUse v1176 v1268 (0 : Int64) v1174 v1250)) = d1287 → (F_free_a0_dirty v1175 d1287 (0 : Int64) v1174 v1250) = v1339 → (F_free_a0_inUse v1175 d1287 (0 : Int64) v1174 v1250) = v1340 → (if d1179 = (0 : Int32) then v1340 else (F_free_a0_inUse v1175 v1340 v1339 v1174 v1250)) = d1360 → (if v1175 = v1176 then (0 : Int64) else v1183) = d1379 → (if v1175 = v1176 then (1 : Int32) else (0 : Int32)) = d1389 → (F_holding1 d1360 v1177 v1250 (Int32.toNatClampNeg (Int64.toInt32 ((F_bytes (64 : Int32) v1174) / (8 : Int64)))) (F_add1_w_a0_words_g (v1182 ||| v1183) v1177 v1250 (Int32.toNatClampNeg (Int64.toInt32 ((F_bytes (64 : Int32) v1174) / (8 : Int64)))) (fun _ => (0 : Int64)))) = d1379 → (F_empty d1360) = d1389 → (F_word v1177 v1250 (Int32.toNatClampNeg (Int64.toInt32 ((F_bytes (64 : Int32) v1174) / (8 : Int64)))) (F_add1_w_a0_words_g (v1182 ||| v1183) v1177 v1250 (Int32.toNatClampNeg (Int64.toInt32 ((F_bytes (64 : Int32) v1174) / (8 : Int64)))) (fun _ => (0 : Int64)))) = (shlL (v1182 ||| v1183) v1181) → ((Int32.toNatClampNeg (Int64.toInt32 ((F_bytes (64 : Int32) v1174) / (8 : Int64)))) ≤ 4096) := by
  have T := own_Tk p0
  have P := own_p p3
  have A := own_t1 T p1
  have B := own_t1 T p2
  have C := own_cs (own_all T _ _ _ A B P.1 P.2)
  intros; subst_vars
  have := (own_cap64 T).2
  omega
theorem own_ob_14 (p0 : Int32) (p1 : Int32) (p2 : Int32) (p3 : Int32) (p4 : Int32) : ∀ (v1173 : Int32) (v1174 : Int32) (v1175 : Int32) (v1176 : Int32) (v1177 : Int32) (d1179 : Int32) (v1181 : Int32) (v1182 : Int64) (v1183 : Int64) (v1250 : Int32) (v1268 : Int64) (d1287 : Int64) (v1339 : Int64) (v1340 : Int64) (d1360 : Int64) (d1379 : Int64) (d1389 : Int32), ((p0 &&& (2147483647 : Int32)) % (7 : Int32)) = v1173 → (shlI (1 : Int32) v1173) = v1174 → (p1 &&& (v1174 - (1 : Int32))) = v1175 → (p2 &&& (v1174 - (1 : Int32))) = v1176 → (p3 &&& (63 : Int32)) = v1177 → (if (p4 &&& (1 : Int32)) = (0 : Int32) then (0 : Int32) else (1 : Int32)) = d1179 → ((shlI v1177 v1173) &&& (63 : Int32)) = v1181 → (shlL (1 : Int64) v1175) = v1182 → (shlL (1 : Int64) v1176) = v1183 → (F_numberOfTrailingZeros v1174) = v1250 → (F_take_a0_inUse v1175 (0 : Int64) (0 : Int64) v1174 v1250) = v1268 → (if v1176 = v1175 then v1268 else (F_take_a0_inUse v1176 v1268 (0 : Int64) v1174 v1250)) = d1287 → (F_free_a0_dirty v1175 d1287 (0 : Int64) v1174 v1250) = v1339 → (F_free_a0_inUse v1175 d1287 (0 : Int64) v1174 v1250) = v1340 → (if d1179 = (0 : Int32) then v1340 else (F_free_a0_inUse v1175 v1340 v1339 v1174 v1250)) = d1360 → (if v1175 = v1176 then (0 : Int64) else v1183) = d1379 → (if v1175 = v1176 then (1 : Int32) else (0 : Int32)) = d1389 → (F_holding1 d1360 v1177 v1250 (Int32.toNatClampNeg (Int64.toInt32 ((F_bytes (64 : Int32) v1174) / (8 : Int64)))) (F_add1_w_a0_words_g (v1182 ||| v1183) v1177 v1250 (Int32.toNatClampNeg (Int64.toInt32 ((F_bytes (64 : Int32) v1174) / (8 : Int64)))) (fun _ => (0 : Int64)))) = d1379 → (F_empty d1360) = d1389 → (F_word v1177 v1250 (Int32.toNatClampNeg (Int64.toInt32 ((F_bytes (64 : Int32) v1174) / (8 : Int64)))) (F_add1_w_a0_words_g (v1182 ||| v1183) v1177 v1250 (Int32.toNatClampNeg (Int64.toInt32 ((F_bytes (64 : Int32) v1174) / (8 : Int64)))) (fun _ => (0 : Int64)))) = (shlL (v1182 ||| v1183) v1181) → (¬ (Int64.toInt32 (ushrL (shlL (Int32.toInt64 v1177) v1250) (6 : Int32))) < (0 : Int32) ∧ Int32.toNatClampNeg (Int64.toInt32 (ushrL (shlL (Int32.toInt64 v1177) v1250) (6 : Int32))) < (Int32.toNatClampNeg (Int64.toInt32 ((F_bytes (64 : Int32) v1174) / (8 : Int64))))) := by
  have T := own_Tk p0
  have P := own_p p3
  have A := own_t1 T p1
  have B := own_t1 T p2
  have C := own_cs (own_all T _ _ _ A B P.1 P.2)
  intros; subst_vars
  rw [own_T_ntz T]
  exact own_in T 64 _ (by decide) (by decide) P.1 P.2
set_option maxRecDepth 65536 in
set_option maxHeartbeats 40000000 in
theorem rm0 (l : Launch) (Z : State) (az : Array Value) (hw : ∀ d ∈ tables_1, d.before az Z = true) (ws : List Jvm.Cond) (p0 : Int32) (p1 : Int32) (p2 : Int32) (p3 : Int32) (p4 : Int32) (h0 : Heap) (n0 : Nat) (Z0 : n0 ≤ h0.size) :
    Met l x code maxLocals ret ws room_1 Z #[(.int p0), (.int p1), (.int p2), (.int p3), (.int p4)] h0 (fun v h' L => v = some (Value.int (F_law p0 p1 p2 p3 p4)) ∧ Fr n0 L) := by
  refine enter (plainFor_of_name pn_2) (ef_0 p0 p1 p2 p3 p4) ?_
  intro p e s m below meth c T0 kc kn Q hkc hkn hQ K' X0 e0
  have K : Fx p s m meth c code 20 "com/example/dayflower/dayflower/filter/FilterSlabFreePinLaw" "law" (some .boolean) Z := K'
  have N0 := Fr.nil n0
  have K0 : Keep h0 h0 [] := Keep.refl _ _
  refine k_iloadN K X0 at_0 rfl (q := 1) rfl ?_
  refine k_ldc K X0 at_1 (wd hw 0 rfl) (q := 3) rfl ?_
  refine k_iand K X0 at_3 (q := 4) rfl ?_
  refine k_bipush K X0 at_4 (v := (7 : Int32)) rfl (q := 6) rfl ?_
  refine k_irem K X0 at_6 (by decide) (q := 7) rfl ?_
  obtain ⟨v1173, hv_v1173⟩ : ∃ z : Int32, ((p0 &&& (2147483647 : Int32)) % (7 : Int32)) = z := ⟨_, rfl⟩
  refine k_istore K X0 at_7 hv_v1173 (Ls' := #[.val (.int p0), .val (.int p1), .val (.int p2), .val (.int p3), .val (.int p4), .val (.int v1173), .unset, .unset, .unset, .unset, .unset, .unset, .unset, .unset, .unset, .unset, .unset, .unset, .unset, .unset]) rfl (q := 9) rfl ?_
  refine k_iconst K X0 at_9 (v := (1 : Int32)) rfl (q := 10) rfl ?_
  refine k_iload K X0 at_10 rfl (q := 12) rfl ?_
  refine k_ishl K X0 at_12 (q := 13) rfl ?_
  obtain ⟨v1174, hv_v1174⟩ : ∃ z : Int32, (shlI (1 : Int32) v1173) = z := ⟨_, rfl⟩
  refine k_istore K X0 at_13 hv_v1174 (Ls' := #[.val (.int p0), .val (.int p1), .val (.int p2), .val (.int p3), .val (.int p4), .val (.int v1173), .val (.int v1174), .unset, .unset, .unset, .unset, .unset, .unset, .unset, .unset, .unset, .unset, .unset, .unset, .unset]) rfl (q := 15) rfl ?_
  refine k_iloadN K X0 at_15 rfl (q := 16) rfl ?_
  refine k_iload K X0 at_16 rfl (q := 18) rfl ?_
  refine k_iconst K X0 at_18 (v := (1 : Int32)) rfl (q := 19) rfl ?_
  refine k_isub K X0 at_19 (q := 20) rfl ?_
  refine k_iand K X0 at_20 (q := 21) rfl ?_
  obtain ⟨v1175, hv_v1175⟩ : ∃ z : Int32, (p1 &&& (v1174 - (1 : Int32))) = z := ⟨_, rfl⟩
  refine k_istore K X0 at_21 hv_v1175 (Ls' := #[.val (.int p0), .val (.int p1), .val (.int p2), .val (.int p3), .val (.int p4), .val (.int v1173), .val (.int v1174), .val (.int v1175), .unset, .unset, .unset, .unset, .unset, .unset, .unset, .unset, .unset, .unset, .unset, .unset]) rfl (q := 23) rfl ?_
  refine k_iloadN K X0 at_23 rfl (q := 24) rfl ?_
  refine k_iload K X0 at_24 rfl (q := 26) rfl ?_
  refine k_iconst K X0 at_26 (v := (1 : Int32)) rfl (q := 27) rfl ?_
  refine k_isub K X0 at_27 (q := 28) rfl ?_
  refine k_iand K X0 at_28 (q := 29) rfl ?_
  obtain ⟨v1176, hv_v1176⟩ : ∃ z : Int32, (p2 &&& (v1174 - (1 : Int32))) = z := ⟨_, rfl⟩
  refine k_istore K X0 at_29 hv_v1176 (Ls' := #[.val (.int p0), .val (.int p1), .val (.int p2), .val (.int p3), .val (.int p4), .val (.int v1173), .val (.int v1174), .val (.int v1175), .val (.int v1176), .unset, .unset, .unset, .unset, .unset, .unset, .unset, .unset, .unset, .unset, .unset]) rfl (q := 31) rfl ?_
  refine k_iloadN K X0 at_31 rfl (q := 32) rfl ?_
  refine k_bipush K X0 at_32 (v := (63 : Int32)) rfl (q := 34) rfl ?_
  refine k_iand K X0 at_34 (q := 35) rfl ?_
  obtain ⟨v1177, hv_v1177⟩ : ∃ z : Int32, (p3 &&& (63 : Int32)) = z := ⟨_, rfl⟩
  refine k_istore K X0 at_35 hv_v1177 (Ls' := #[.val (.int p0), .val (.int p1), .val (.int p2), .val (.int p3), .val (.int p4), .val (.int v1173), .val (.int v1174), .val (.int v1175), .val (.int v1176), .val (.int v1177), .unset, .unset, .unset, .unset, .unset, .unset, .unset, .unset, .unset, .unset]) rfl (q := 37) rfl ?_
  refine k_iload K X0 at_37 rfl (q := 39) rfl ?_
  refine k_iconst K X0 at_39 (v := (1 : Int32)) rfl (q := 40) rfl ?_
  refine k_iand K X0 at_40 (q := 41) rfl ?_
  have J1180 : ∀ (d1179 : Int32), (if (p4 &&& (1 : Int32)) = (0 : Int32) then (0 : Int32) else (1 : Int32)) = d1179 → Run p e below s kc kn Q T0 (mkF m 49 #[.val (.int p0), .val (.int p1), .val (.int p2), .val (.int p3), .val (.int p4), .val (.int v1173), .val (.int v1174), .val (.int v1175), .val (.int v1176), .val (.int v1177), .unset, .unset, .unset, .unset, .unset, .unset, .unset, .unset, .unset, .unset] [(.int d1179)]) := by
    intro d1179 hv_d1179
    refine k_istore K X0 at_49 rfl (Ls' := #[.val (.int p0), .val (.int p1), .val (.int p2), .val (.int p3), .val (.int p4), .val (.int v1173), .val (.int v1174), .val (.int v1175), .val (.int v1176), .val (.int v1177), .val (.int d1179), .unset, .unset, .unset, .unset, .unset, .unset, .unset, .unset, .unset]) rfl (q := 51) rfl ?_
    refine k_iload K X0 at_51 rfl (q := 53) rfl ?_
    refine k_iload K X0 at_53 rfl (q := 55) rfl ?_
    refine k_ishl K X0 at_55 (q := 56) rfl ?_
    refine k_bipush K X0 at_56 (v := (63 : Int32)) rfl (q := 58) rfl ?_
    refine k_iand K X0 at_58 (q := 59) rfl ?_
    obtain ⟨v1181, hv_v1181⟩ : ∃ z : Int32, ((shlI v1177 v1173) &&& (63 : Int32)) = z := ⟨_, rfl⟩
    refine k_istore K X0 at_59 hv_v1181 (Ls' := #[.val (.int p0), .val (.int p1), .val (.int p2), .val (.int p3), .val (.int p4), .val (.int v1173), .val (.int v1174), .val (.int v1175), .val (.int v1176), .val (.int v1177), .val (.int d1179), .val (.int v1181), .unset, .unset, .unset, .unset, .unset, .unset, .unset, .unset]) rfl (q := 61) rfl ?_
    refine k_lconst1 K X0 at_61 (q := 62) rfl ?_
    refine k_iload K X0 at_62 rfl (q := 64) rfl ?_
    refine k_lshl K X0 at_64 (q := 65) rfl ?_
    obtain ⟨v1182, hv_v1182⟩ : ∃ z : Int64, (shlL (1 : Int64) v1175) = z := ⟨_, rfl⟩
    refine k_lstore K X0 at_65 hv_v1182 (Ls' := #[.val (.int p0), .val (.int p1), .val (.int p2), .val (.int p3), .val (.int p4), .val (.int v1173), .val (.int v1174), .val (.int v1175), .val (.int v1176), .val (.int v1177), .val (.int d1179), .val (.int v1181), .val (.long v1182), .second, .unset, .unset, .unset, .unset, .unset, .unset]) rfl (q := 67) rfl ?_
    refine k_lconst1 K X0 at_67 (q := 68) rfl ?_
    refine k_iload K X0 at_68 rfl (q := 70) rfl ?_
    refine k_lshl K X0 at_70 (q := 71) rfl ?_
    obtain ⟨v1183, hv_v1183⟩ : ∃ z : Int64, (shlL (1 : Int64) v1176) = z := ⟨_, rfl⟩
    refine k_lstore K X0 at_71 hv_v1183 (Ls' := #[.val (.int p0), .val (.int p1), .val (.int p2), .val (.int p3), .val (.int p4), .val (.int v1173), .val (.int v1174), .val (.int v1175), .val (.int v1176), .val (.int v1177), .val (.int d1179), .val (.int v1181), .val (.long v1182), .second, .val (.long v1183), .second, .unset, .unset, .unset, .unset]) rfl (q := 73) rfl ?_
    refine k_iconst K X0 at_73 (v := (1 : Int32)) rfl (q := 74) rfl ?_
    refine k_newarray K X0 e0 at_74 (ty := .int) rfl (wd hw 1 rfl) (n := 1) (cap := 1) (by decide) (by decide) (by decide) (by decide) (by decide) (q := 76) rfl ?_
    intro T1184 h1185 b1186 X1187 e1188 g1189 E1190 A1191 
    have ge1192 : n0 ≤ b1186 := Nat.le_trans Z0 (Nat.le_of_eq g1189.symm)
    have bn1193 : h0.size ≤ b1186 := Nat.le_trans K0.1 (Nat.le_of_eq g1189.symm)
    have K1194 := Keep.ext K0 E1190
    have Z1195 := Nat.le_trans Z0 E1190.1
    have f1196 : Ary Z h1185 b1186 .int 1 (fun i => Value.int (List.getD [(0 : Int32)] i 0)) := Ary.eqv A1191 (by intro i hi; match i, hi with | 0, _ => rfl | (k + 1), hi => exact absurd hi (by omega))
    refine k_dup K X1187 at_76 rfl (q := 77) rfl ?_
    refine k_iconst K X1187 at_77 (v := (0 : Int32)) rfl (q := 78) rfl ?_
    refine k_iload K X1187 at_78 rfl (q := 80) rfl ?_
    refine k_iastore K X1187 e1188 at_80 f1196 (i := 0) (by decide) (by decide) (q := 81) rfl ?_
    intro T1197 h1198 X1199 e1200 W1201 A1202
    have f1203 : Ary Z h1198 b1186 .int 1 (fun i => Value.int (List.getD [v1177] i 0)) := Ary.eqv A1202 (fun i _ => setD Value.int [(0 : Int32)] 0 v1177 0 (Nat.le_of_ble_eq_true rfl) i)
    have N1204 := Fr.snoc X1199 N0 ge1192
    have K1205 := Keep.wr K1194 W1201 (Or.inr bn1193)
    have Z1206 := Nat.le_trans Z1195 (Nat.le_of_eq (Wr.size W1201).symm)
    refine k_astore K X1199 at_81 rfl (Ls' := #[.val (.int p0), .val (.int p1), .val (.int p2), .val (.int p3), .val (.int p4), .val (.int v1173), .val (.int v1174), .val (.int v1175), .val (.int v1176), .val (.int v1177), .val (.int d1179), .val (.int v1181), .val (.long v1182), .second, .val (.long v1183), .second, .val (.ref b1186), .unset, .unset, .unset]) rfl (q := 83) rfl ?_
    refine k_new K X1199 e1200 at_83 (wd hw 2 rfl) (wd hw 3 rfl) (wd hw 4 rfl) (by decide) (by decide) (q := 86) rfl ?_
    intro T1207 h1208 b1209 X1210 e1211 g1212 E1213 A1214 D1215
    have ne1216 : b1186 ≠ b1209 := Nat.ne_of_lt (Nat.lt_of_lt_of_eq (f1203).lt g1212.symm)
    have ge1217 : n0 ≤ b1209 := Nat.le_trans Z1206 (Nat.le_of_eq g1212.symm)
    have bn1218 : h0.size ≤ b1209 := Nat.le_trans K1205.1 (Nat.le_of_eq g1212.symm)
    have f1219 := Ary.ext f1203 E1213
    have K1220 := Keep.ext K1205 E1213
    have Z1221 := Nat.le_trans Z1206 E1213.1
    have f1222 : Fld Z h1208 b1209 "com/example/dayflower/dayflower/filter/FilterSlab" "lanes" "I" (.int (0 : Int32)) := D1215 (Or.inr (wd hw 19 rfl)) (ty := .int) (by decide)
    have f1223 : Fld Z h1208 b1209 "com/example/dayflower/dayflower/filter/FilterSlab" "laneShift" "I" (.int (0 : Int32)) := D1215 (Or.inr (wd hw 24 rfl)) (ty := .int) (by decide)
    have f1224 : Fld Z h1208 b1209 "com/example/dayflower/dayflower/filter/FilterSlab" "words" "[J" .null := D1215 (Or.inr (wd hw 32 rfl)) (ty := (.array .long)) (by decide)
    have f1225 : Fld Z h1208 b1209 "com/example/dayflower/dayflower/filter/FilterSlab" "inUse" "J" (.long (0 : Int64)) := D1215 (Or.inl (wd hw 39 rfl)) (ty := .long) (by decide)
    have f1226 : Fld Z h1208 b1209 "com/example/dayflower/dayflower/filter/FilterSlab" "dirty" "J" (.long (0 : Int64)) := D1215 (Or.inl (wd hw 41 rfl)) (ty := .long) (by decide)
    refine k_dup K X1210 at_86 rfl (q := 87) rfl ?_
    refine k_bipush K X1210 at_87 (v := (64 : Int32)) rfl (q := 89) rfl ?_
    refine k_iload K X1210 at_89 rfl (q := 91) rfl ?_
    refine k_special K X1210 e1211 at_91 rfl (wd hw 5 rfl) (wd hw 6 rfl) (wd hw 4 rfl) (wd hw 7 rfl) (by decide) (rm1 l Z az hw [] b1209 (64 : Int32) v1174 (0 : Int32) (0 : Int32) .null (0 : Int64) (0 : Int64) h1208 n0 Z1221 A1214 f1222 ge1217 f1223 f1224 f1225 f1226 (own_ob_0 p0 p1 p2 p3 p4 v1173 v1174 hv_v1173 hv_v1174) (own_ob_1 p0 p1 p2 p3 p4 v1173 v1174 hv_v1173 hv_v1174) (own_ob_2 p0 p1 p2 p3 p4 v1173 v1174 hv_v1173 hv_v1174) (own_ob_3 p0 p1 p2 p3 p4 v1173 v1174 hv_v1173 hv_v1174)) (W := 1) (by decide) (by decide) (by decide) (by decide) rfl pd_3 (argsL := [(.int (64 : Int32)), (.int v1174)]) (rest := [(.ref b1209)]) rfl rfl rfl (Nat.le_of_eq rfl) (q := 94) rfl ?_
    rintro _ T1227 L1228 X1229 ⟨b1238, ge1239, bn1240, rfl, N1230, K1231, f1233, f1234, f1235, f1236, f1237, f1241⟩
    have ne1242 : b1186 ≠ b1238 := Nat.ne_of_lt (Nat.lt_of_lt_of_le (f1219).lt bn1240)
    have ne1243 : b1209 ≠ b1238 := Nat.ne_of_lt (Nat.lt_of_lt_of_le (A1214).lt bn1240)
    have bn1244 : h0.size ≤ b1238 := Nat.le_trans K1220.1 bn1240
    have f1245 := Ary.keep f1219 K1231 (ninS ne1216 nin0)
    have f1246 := Exa.keep A1214 K1231
    have N1247 := Fr.app N1204 N1230
    have K1248 := Keep.trans K1220 K1231 (allS (Or.inr bn1218) all0)
    have Z1249 := Nat.le_trans Z1221 K1231.1
    obtain ⟨v1250, hv_v1250⟩ : ∃ z : Int32, (F_numberOfTrailingZeros v1174) = z := ⟨_, rfl⟩
    rw [hv_v1250] at f1235
    refine k_astore K X1229 at_94 rfl (Ls' := #[.val (.int p0), .val (.int p1), .val (.int p2), .val (.int p3), .val (.int p4), .val (.int v1173), .val (.int v1174), .val (.int v1175), .val (.int v1176), .val (.int v1177), .val (.int d1179), .val (.int v1181), .val (.long v1182), .second, .val (.long v1183), .second, .val (.ref b1186), .val (.ref b1209), .unset, .unset]) rfl (q := 96) rfl ?_
    refine k_aload K X1229 at_96 rfl rfl (q := 98) rfl ?_
    refine k_iload K X1229 at_98 rfl (q := 100) rfl ?_
    refine k_virtual K X1229 rfl at_100 (wd hw 33 rfl) (wd hw 34 rfl) (wd hw 36 rfl) (wd hw 35 rfl) (wd hw 4 rfl) (wd hw 37 rfl) (by decide) f1246 (rm6 l Z az hw [] b1209 v1175 (0 : Int64) (0 : Int64) v1174 v1250 (.ref b1238) T1227.heap n0 Z1249 f1234 f1233 f1246 ge1217 f1236 f1235 f1237 (own_ob_4 p0 p1 p2 p3 p4 v1173 v1174 v1175 hv_v1173 hv_v1174 hv_v1175) (own_ob_4 p0 p1 p2 p3 p4 v1173 v1174 v1175 hv_v1173 hv_v1174 hv_v1175)) (W := 0) (by decide) (by decide) (by decide) (by decide) rfl pd_4 (argsL := [(.int v1175)]) (rest := []) rfl rfl rfl (Nat.le_of_eq rfl) (q := 103) rfl ?_
    rintro _ T1251 L1252 X1253 ⟨rfl, N1254, K1255, f1257, f1258, f1259, f1260, f1261⟩
    have f1262 := Ary.keep f1245 K1255 (ninS ne1216 nin0)
    have f1263 := Exa.keep f1246 K1255
    have f1264 := Ary.keep f1241 K1255 (ninS (Ne.symm ne1243) nin0)
    have N1265 := Fr.app N1247 N1254
    have K1266 := Keep.trans K1248 K1255 (allS (Or.inr bn1218) all0)
    have Z1267 := Nat.le_trans Z1249 K1255.1
    obtain ⟨v1268, hv_v1268⟩ : ∃ z : Int64, (F_take_a0_inUse v1175 (0 : Int64) (0 : Int64) v1174 v1250) = z := ⟨_, rfl⟩
    rw [hv_v1268] at f1258
    refine k_iload K X1253 at_103 rfl (q := 105) rfl ?_
    refine k_iload K X1253 at_105 rfl (q := 107) rfl ?_
    have J1296 : ∀ (T1297 : State) (h1300 : Heap) (Lc1304 : List Loc) (d1287 : Int64), Stand p l e room_1 s m #[(.int p0), (.int p1), (.int p2), (.int p3), (.int p4)] below meth c T1297 Lc1304 3 70 → Fr n0 Lc1304 → T1297.heap = h1300 → Keep h0 h1300 [] → n0 ≤ h1300.size → Ary Z h1300 b1186 .int 1 (fun i => Value.int (List.getD [v1177] i 0)) → Exa Z h1300 b1209 "com/example/dayflower/dayflower/filter/FilterSlab" → Ary Z h1300 b1238 .long (Int32.toNatClampNeg (Int64.toInt32 ((F_bytes (64 : Int32) v1174) / (8 : Int64)))) (fun i => Value.long ((fun _ => (0 : Int64)) i)) → Fld Z h1300 b1209 "com/example/dayflower/dayflower/filter/FilterSlab" "dirty" "J" (.long (0 : Int64)) → Fld Z h1300 b1209 "com/example/dayflower/dayflower/filter/FilterSlab" "inUse" "J" (.long d1287) → Fld Z h1300 b1209 "com/example/dayflower/dayflower/filter/FilterSlab" "laneShift" "I" (.int v1250) → Fld Z h1300 b1209 "com/example/dayflower/dayflower/filter/FilterSlab" "lanes" "I" (.int v1174) → Fld Z h1300 b1209 "com/example/dayflower/dayflower/filter/FilterSlab" "words" "[J" (.ref b1238) → (if v1176 = v1175 then v1268 else (F_take_a0_inUse v1176 v1268 (0 : Int64) v1174 v1250)) = d1287 → Run p e below s kc kn Q T1297 (mkF m 117 #[.val (.int p0), .val (.int p1), .val (.int p2), .val (.int p3), .val (.int p4), .val (.int v1173), .val (.int v1174), .val (.int v1175), .val (.int v1176), .val (.int v1177), .val (.int d1179), .val (.int v1181), .val (.long v1182), .second, .val (.long v1183), .second, .val (.ref b1186), .val (.ref b1209), .unset, .unset] []) := by
      intro T1297 h1300 Lc1304 d1287 X1298 N1301 e1299 K1302 Z1303 f1288 f1289 f1290 f1291 f1292 f1293 f1294 f1295 hv_d1287
      refine k_aload K X1298 at_117 rfl rfl (q := 119) rfl ?_
      refine k_aload K X1298 at_119 rfl rfl (q := 121) rfl ?_
      refine k_lload K X1298 at_121 rfl (q := 123) rfl ?_
      refine k_lload K X1298 at_123 rfl (q := 125) rfl ?_
      refine k_lor K X1298 at_125 (q := 126) rfl ?_
      refine k_virtual K X1298 e1299 at_126 (wd hw 42 rfl) (wd hw 43 rfl) (wd hw 45 rfl) (wd hw 44 rfl) (wd hw 4 rfl) (wd hw 46 rfl) (by decide) f1289 (rm71 l Z az hw [] b1209 b1186 (v1182 ||| v1183) v1177 v1250 b1238 (Int32.toNatClampNeg (Int64.toInt32 ((F_bytes (64 : Int32) v1174) / (8 : Int64)))) (fun _ => (0 : Int64)) h1300 n0 Z1303 f1288 f1293 f1295 f1290 ge1239 ne1242 ne1243 (own_ob_7 p0 p1 p2 p3 p4 v1173 v1174 v1177 v1250 hv_v1173 hv_v1174 hv_v1177 hv_v1250)) (W := 0) (by decide) (by decide) (by decide) (by decide) rfl pd_5 (argsL := [(.ref b1186), (.long (v1182 ||| v1183))]) (rest := []) rfl rfl rfl (Nat.le_of_eq rfl) (q := 129) rfl ?_
      rintro _ T1305 L1306 X1307 ⟨rfl, N1308, K1309, f1311⟩
      have f1312 := Ary.keep f1288 K1309 (ninS ne1242 nin0)
      have f1313 := Exa.keep f1289 K1309
      have f1314 := Fld.keep f1291 K1309 (ninS ne1243 nin0)
      have f1315 := Fld.keep f1292 K1309 (ninS ne1243 nin0)
      have f1316 := Fld.keep f1293 K1309 (ninS ne1243 nin0)
      have f1317 := Fld.keep f1294 K1309 (ninS ne1243 nin0)
      have f1318 := Fld.keep f1295 K1309 (ninS ne1243 nin0)
      have N1319 := Fr.app N1301 N1308
      have K1320 := Keep.trans K1302 K1309 (allS (Or.inr bn1244) all0)
      have Z1321 := Nat.le_trans Z1303 K1309.1
      refine k_aload K X1307 at_129 rfl rfl (q := 131) rfl ?_
      refine k_iload K X1307 at_131 rfl (q := 133) rfl ?_
      refine k_virtual K X1307 rfl at_133 (wd hw 47 rfl) (wd hw 48 rfl) (wd hw 50 rfl) (wd hw 49 rfl) (wd hw 4 rfl) (wd hw 51 rfl) (by decide) f1313 (rm8 l Z az hw [] b1209 v1175 d1287 (0 : Int64) v1174 v1250 (.ref b1238) T1305.heap n0 Z1321 f1315 f1313 ge1217 f1314 f1317 f1316 f1318) (W := 0) (by decide) (by decide) (by decide) (by decide) rfl pd_4 (argsL := [(.int v1175)]) (rest := []) rfl rfl rfl (Nat.le_of_eq rfl) (q := 136) rfl ?_
      rintro _ T1322 L1323 X1324 ⟨rfl, N1325, K1326, f1328, f1329, f1330, f1331, f1332⟩
      have f1333 := Ary.keep f1312 K1326 (ninS ne1216 nin0)
      have f1334 := Exa.keep f1313 K1326
      have f1335 := Ary.keep f1311 K1326 (ninS (Ne.symm ne1243) nin0)
      have N1336 := Fr.app N1319 N1325
      have K1337 := Keep.trans K1320 K1326 (allS (Or.inr bn1218) all0)
      have Z1338 := Nat.le_trans Z1321 K1326.1
      obtain ⟨v1339, hv_v1339⟩ : ∃ z : Int64, (F_free_a0_dirty v1175 d1287 (0 : Int64) v1174 v1250) = z := ⟨_, rfl⟩
      rw [hv_v1339] at f1328
      obtain ⟨v1340, hv_v1340⟩ : ∃ z : Int64, (F_free_a0_inUse v1175 d1287 (0 : Int64) v1174 v1250) = z := ⟨_, rfl⟩
      rw [hv_v1340] at f1329
      refine k_iload K X1324 at_136 rfl (q := 138) rfl ?_
      have J1369 : ∀ (T1370 : State) (h1373 : Heap) (Lc1377 : List Loc) (d1359 : Int64) (d1360 : Int64), Stand p l e room_1 s m #[(.int p0), (.int p1), (.int p2), (.int p3), (.int p4)] below meth c T1370 Lc1377 3 70 → Fr n0 Lc1377 → T1370.heap = h1373 → Keep h0 h1373 [] → n0 ≤ h1373.size → Ary Z h1373 b1186 .int 1 (fun i => Value.int (List.getD [v1177] i 0)) → Exa Z h1373 b1209 "com/example/dayflower/dayflower/filter/FilterSlab" → Ary Z h1373 b1238 .long (Int32.toNatClampNeg (Int64.toInt32 ((F_bytes (64 : Int32) v1174) / (8 : Int64)))) (fun i => Value.long ((F_add1_w_a0_words_g (v1182 ||| v1183) v1177 v1250 (Int32.toNatClampNeg (Int64.toInt32 ((F_bytes (64 : Int32) v1174) / (8 : Int64)))) (fun _ => (0 : Int64))) i)) → Fld Z h1373 b1209 "com/example/dayflower/dayflower/filter/FilterSlab" "dirty" "J" (.long d1359) → Fld Z h1373 b1209 "com/example/dayflower/dayflower/filter/FilterSlab" "inUse" "J" (.long d1360) → Fld Z h1373 b1209 "com/example/dayflower/dayflower/filter/FilterSlab" "laneShift" "I" (.int v1250) → Fld Z h1373 b1209 "com/example/dayflower/dayflower/filter/FilterSlab" "lanes" "I" (.int v1174) → Fld Z h1373 b1209 "com/example/dayflower/dayflower/filter/FilterSlab" "words" "[J" (.ref b1238) → (if d1179 = (0 : Int32) then v1339 else (F_free_a0_dirty v1175 v1340 v1339 v1174 v1250)) = d1359 → (if d1179 = (0 : Int32) then v1340 else (F_free_a0_inUse v1175 v1340 v1339 v1174 v1250)) = d1360 → Run p e below s kc kn Q T1370 (mkF m 148 #[.val (.int p0), .val (.int p1), .val (.int p2), .val (.int p3), .val (.int p4), .val (.int v1173), .val (.int v1174), .val (.int v1175), .val (.int v1176), .val (.int v1177), .val (.int d1179), .val (.int v1181), .val (.long v1182), .second, .val (.long v1183), .second, .val (.ref b1186), .val (.ref b1209), .unset, .unset] []) := by
        intro T1370 h1373 Lc1377 d1359 d1360 X1371 N1374 e1372 K1375 Z1376 f1361 f1362 f1363 f1364 f1365 f1366 f1367 f1368 hv_d1359 hv_d1360
        refine k_iload K X1371 at_148 rfl (q := 150) rfl ?_
        refine k_iload K X1371 at_150 rfl (q := 152) rfl ?_
        have J1380 : ∀ (d1379 : Int64), (if v1175 = v1176 then (0 : Int64) else v1183) = d1379 → Run p e below s kc kn Q T1370 (mkF m 161 #[.val (.int p0), .val (.int p1), .val (.int p2), .val (.int p3), .val (.int p4), .val (.int v1173), .val (.int v1174), .val (.int v1175), .val (.int v1176), .val (.int v1177), .val (.int d1179), .val (.int v1181), .val (.long v1182), .second, .val (.long v1183), .second, .val (.ref b1186), .val (.ref b1209), .unset, .unset] [(.long d1379)]) := by
          intro d1379 hv_d1379
          refine k_lstore K X1371 at_161 rfl (Ls' := #[.val (.int p0), .val (.int p1), .val (.int p2), .val (.int p3), .val (.int p4), .val (.int v1173), .val (.int v1174), .val (.int v1175), .val (.int v1176), .val (.int v1177), .val (.int d1179), .val (.int v1181), .val (.long v1182), .second, .val (.long v1183), .second, .val (.ref b1186), .val (.ref b1209), .val (.long d1379), .second]) rfl (q := 163) rfl ?_
          refine k_aload K X1371 at_163 rfl rfl (q := 165) rfl ?_
          refine k_aload K X1371 at_165 rfl rfl (q := 167) rfl ?_
          refine k_virtualP K X1371 e1372 at_167 (wd hw 53 rfl) (wd hw 54 rfl) (wd hw 56 rfl) (wd hw 55 rfl) (wd hw 4 rfl) (wd hw 57 rfl) (by decide) f1362 (rm91 l Z az hw [] b1209 b1186 d1360 v1177 v1250 b1238 (Int32.toNatClampNeg (Int64.toInt32 ((F_bytes (64 : Int32) v1174) / (8 : Int64)))) (F_add1_w_a0_words_g (v1182 ||| v1183) v1177 v1250 (Int32.toNatClampNeg (Int64.toInt32 ((F_bytes (64 : Int32) v1174) / (8 : Int64)))) (fun _ => (0 : Int64))) h1373 f1365 f1361 f1366 f1368 f1363 (own_ob_8 p0 p1 p2 p3 p4 v1173 v1174 v1177 v1250 hv_v1173 hv_v1174 hv_v1177 hv_v1250)) (W := 0) (by decide) (by decide) (by decide) (by decide) rfl pd_6 (argsL := [(.ref b1186)]) (rest := []) rfl rfl rfl (Nat.le_of_eq rfl) (q := 170) rfl ?_
          intro T1381 X1382 e1383
          refine k_lload K X1382 at_170 rfl (q := 172) rfl ?_
          refine k_lcmp K X1382 at_172 (q := 173) rfl ?_
          refine k_lcmp_eq K X1382 at_173 (by decide) (q := 178) rfl (q' := 176) rfl ?_ ?_
          · intro hc1384
            refine k_aload K X1382 at_178 rfl rfl (q := 180) rfl ?_
            refine k_virtualP K X1382 e1383 at_180 (wd hw 58 rfl) (wd hw 59 rfl) (wd hw 61 rfl) (wd hw 60 rfl) (wd hw 4 rfl) (wd hw 62 rfl) (by decide) f1362 (rm10 l Z az hw [] b1209 d1360 h1373 f1365) (W := 0) (by decide) (by decide) (by decide) (by decide) rfl pd_7 (argsL := []) (rest := []) rfl rfl rfl (Nat.le_of_eq rfl) (q := 183) rfl ?_
            intro T1385 X1386 e1387
            refine k_iload K X1386 at_183 rfl (q := 185) rfl ?_
            refine k_iload K X1386 at_185 rfl (q := 187) rfl ?_
            have J1390 : ∀ (d1389 : Int32), (if v1175 = v1176 then (1 : Int32) else (0 : Int32)) = d1389 → Run p e below s kc kn Q T1385 (mkF m 195 #[.val (.int p0), .val (.int p1), .val (.int p2), .val (.int p3), .val (.int p4), .val (.int v1173), .val (.int v1174), .val (.int v1175), .val (.int v1176), .val (.int v1177), .val (.int d1179), .val (.int v1181), .val (.long v1182), .second, .val (.long v1183), .second, .val (.ref b1186), .val (.ref b1209), .val (.long d1379), .second] [(.int d1389), (.int (F_empty d1360))]) := by
              intro d1389 hv_d1389
              refine k_icmp_eq K X1386 at_195 (by decide) (q := 200) rfl (q' := 198) rfl ?_ ?_
              · intro hc1391
                refine k_aload K X1386 at_200 rfl rfl (q := 202) rfl ?_
                refine k_iload K X1386 at_202 rfl (q := 204) rfl ?_
                refine k_virtualP K X1386 e1387 at_204 (wd hw 63 rfl) (wd hw 64 rfl) (wd hw 66 rfl) (wd hw 65 rfl) (wd hw 4 rfl) (wd hw 67 rfl) (by decide) f1362 (rm11 l Z az hw [] b1209 v1177 b1238 v1250 (Int32.toNatClampNeg (Int64.toInt32 ((F_bytes (64 : Int32) v1174) / (8 : Int64)))) (F_add1_w_a0_words_g (v1182 ||| v1183) v1177 v1250 (Int32.toNatClampNeg (Int64.toInt32 ((F_bytes (64 : Int32) v1174) / (8 : Int64)))) (fun _ => (0 : Int64))) h1373 f1368 f1366 f1363 (own_ob_9 p0 p1 p2 p3 p4 v1173 v1174 v1175 v1176 v1177 d1179 v1182 v1183 v1250 v1268 d1287 v1339 v1340 d1360 d1379 d1389 hv_v1173 hv_v1174 hv_v1175 hv_v1176 hv_v1177 hv_d1179 hv_v1182 hv_v1183 hv_v1250 hv_v1268 hv_d1287 hv_v1339 hv_v1340 hv_d1360 hv_d1379 hv_d1389 hc1384 hc1391)) (W := 0) (by decide) (by decide) (by decide) (by decide) rfl pd_8 (argsL := [(.int v1177)]) (rest := []) rfl rfl rfl (Nat.le_of_eq rfl) (q := 207) rfl ?_
                intro T1392 X1393 e1394
                refine k_lload K X1393 at_207 rfl (q := 209) rfl ?_
                refine k_lload K X1393 at_209 rfl (q := 211) rfl ?_
                refine k_lor K X1393 at_211 (q := 212) rfl ?_
                refine k_iload K X1393 at_212 rfl (q := 214) rfl ?_
                refine k_lshl K X1393 at_214 (q := 215) rfl ?_
                refine k_lcmp K X1393 at_215 (q := 216) rfl ?_
                refine k_lcmp_eq K X1393 at_216 (by decide) (q := 221) rfl (q' := 219) rfl ?_ ?_
                · intro hc1395
                  refine k_aload K X1393 at_221 rfl rfl (q := 223) rfl ?_
                  refine k_iload K X1393 at_223 rfl (q := 225) rfl ?_
                  refine k_virtual K X1393 e1394 at_225 (wd hw 33 rfl) (wd hw 34 rfl) (wd hw 36 rfl) (wd hw 35 rfl) (wd hw 4 rfl) (wd hw 37 rfl) (by decide) f1362 (rm62 l Z az hw [] b1209 v1175 d1360 d1359 v1174 b1238 (Int32.toNatClampNeg (Int64.toInt32 ((F_bytes (64 : Int32) v1174) / (8 : Int64)))) (F_add1_w_a0_words_g (v1182 ||| v1183) v1177 v1250 (Int32.toNatClampNeg (Int64.toInt32 ((F_bytes (64 : Int32) v1174) / (8 : Int64)))) (fun _ => (0 : Int64))) v1250 h1373 n0 Z1376 f1365 f1364 f1367 f1362 f1368 f1363 ge1217 (Ne.symm ne1243) ge1239 f1366 (own_ob_10 p0 p1 p2 p3 p4 v1173 v1174 v1175 v1176 v1177 d1179 v1181 v1182 v1183 v1250 v1268 d1287 v1339 v1340 d1360 d1379 d1389 hv_v1173 hv_v1174 hv_v1175 hv_v1176 hv_v1177 hv_d1179 hv_v1181 hv_v1182 hv_v1183 hv_v1250 hv_v1268 hv_d1287 hv_v1339 hv_v1340 hv_d1360 hv_d1379 hv_d1389 hc1384 hc1391 hc1395) (own_ob_11 p0 p1 p2 p3 p4 v1173 v1174 v1175 v1176 v1177 d1179 v1181 v1182 v1183 v1250 v1268 d1287 v1339 v1340 d1359 d1360 d1379 d1389 hv_v1173 hv_v1174 hv_v1175 hv_v1176 hv_v1177 hv_d1179 hv_v1181 hv_v1182 hv_v1183 hv_v1250 hv_v1268 hv_d1287 hv_v1339 hv_v1340 hv_d1359 hv_d1360 hv_d1379 hv_d1389 hc1384 hc1391 hc1395) (own_ob_12 p0 p1 p2 p3 p4 v1173 v1174 v1175 v1176 v1177 d1179 v1181 v1182 v1183 v1250 v1268 d1287 v1339 v1340 d1360 d1379 d1389 hv_v1173 hv_v1174 hv_v1175 hv_v1176 hv_v1177 hv_d1179 hv_v1181 hv_v1182 hv_v1183 hv_v1250 hv_v1268 hv_d1287 hv_v1339 hv_v1340 hv_d1360 hv_d1379 hv_d1389 hc1384 hc1391 hc1395) (own_ob_13 p0 p1 p2 p3 p4 v1173 v1174 v1175 v1176 v1177 d1179 v1181 v1182 v1183 v1250 v1268 d1287 v1339 v1340 d1360 d1379 d1389 hv_v1173 hv_v1174 hv_v1175 hv_v1176 hv_v1177 hv_d1179 hv_v1181 hv_v1182 hv_v1183 hv_v1250 hv_v1268 hv_d1287 hv_v1339 hv_v1340 hv_d1360 hv_d1379 hv_d1389 hc1384 hc1391 hc1395)) (W := 0) (by decide) (by decide) (by decide) (by decide) rfl pd_4 (argsL := [(.int v1175)]) (rest := []) rfl rfl rfl (Nat.le_of_eq rfl) (q := 228) rfl ?_
                  rintro _ T1396 L1397 X1398 ⟨rfl, N1399, K1400, f1402, f1403, f1404, f1405, f1406, f1407⟩
                  have f1408 := Exa.keep f1362 K1400
                  have N1409 := Fr.app N1374 N1399
                  have K1410 := Keep.trans K1375 K1400 (allS (Or.inr bn1218) (allS (Or.inr bn1244) all0))
                  have Z1411 := Nat.le_trans Z1376 K1400.1
                  obtain ⟨v1412, hv_v1412⟩ : ∃ z : Int64, (F_take2_a0_dirty v1175 d1360 d1359 v1174 (Int32.toNatClampNeg (Int64.toInt32 ((F_bytes (64 : Int32) v1174) / (8 : Int64)))) (F_add1_w_a0_words_g (v1182 ||| v1183) v1177 v1250 (Int32.toNatClampNeg (Int64.toInt32 ((F_bytes (64 : Int32) v1174) / (8 : Int64)))) (fun _ => (0 : Int64))) v1250) = z := ⟨_, rfl⟩
                  rw [hv_v1412] at f1402
                  obtain ⟨v1413, hv_v1413⟩ : ∃ z : Int64, (F_take2_a0_inUse v1175 d1360 d1359 v1174 (Int32.toNatClampNeg (Int64.toInt32 ((F_bytes (64 : Int32) v1174) / (8 : Int64)))) (F_add1_w_a0_words_g (v1182 ||| v1183) v1177 v1250 (Int32.toNatClampNeg (Int64.toInt32 ((F_bytes (64 : Int32) v1174) / (8 : Int64)))) (fun _ => (0 : Int64))) v1250) = z := ⟨_, rfl⟩
                  rw [hv_v1413] at f1403
                  refine k_aload K X1398 at_228 rfl rfl (q := 230) rfl ?_
                  refine k_iload K X1398 at_230 rfl (q := 232) rfl ?_
                  refine k_virtualP K X1398 rfl at_232 (wd hw 63 rfl) (wd hw 64 rfl) (wd hw 66 rfl) (wd hw 65 rfl) (wd hw 4 rfl) (wd hw 67 rfl) (by decide) f1408 (rm11 l Z az hw [] b1209 v1177 b1238 v1250 (Int32.toNatClampNeg (Int64.toInt32 ((F_bytes (64 : Int32) v1174) / (8 : Int64)))) (F_take2_w_a0_words_g v1175 d1360 d1359 v1174 (Int32.toNatClampNeg (Int64.toInt32 ((F_bytes (64 : Int32) v1174) / (8 : Int64)))) (F_add1_w_a0_words_g (v1182 ||| v1183) v1177 v1250 (Int32.toNatClampNeg (Int64.toInt32 ((F_bytes (64 : Int32) v1174) / (8 : Int64)))) (fun _ => (0 : Int64))) v1250) T1396.heap f1406 f1404 f1407 (own_ob_14 p0 p1 p2 p3 p4 v1173 v1174 v1175 v1176 v1177 d1179 v1181 v1182 v1183 v1250 v1268 d1287 v1339 v1340 d1360 d1379 d1389 hv_v1173 hv_v1174 hv_v1175 hv_v1176 hv_v1177 hv_d1179 hv_v1181 hv_v1182 hv_v1183 hv_v1250 hv_v1268 hv_d1287 hv_v1339 hv_v1340 hv_d1360 hv_d1379 hv_d1389 hc1384 hc1391 hc1395)) (W := 0) (by decide) (by decide) (by decide) (by decide) rfl pd_8 (argsL := [(.int v1177)]) (rest := []) rfl rfl rfl (Nat.le_of_eq rfl) (q := 235) rfl ?_
                  intro T1414 X1415 e1416
                  refine k_lload K X1415 at_235 rfl (q := 237) rfl ?_
                  refine k_iload K X1415 at_237 rfl (q := 239) rfl ?_
                  refine k_lshl K X1415 at_239 (q := 240) rfl ?_
                  refine k_lcmp K X1415 at_240 (q := 241) rfl ?_
                  have J1420 : ∀ (d1419 : Int32), (M0_1418 v1177 v1250 v1174 v1175 d1360 d1359 v1182 v1183 d1379 v1181) = d1419 → Run p e below s kc kn Q T1414 (mkF m 249 #[.val (.int p0), .val (.int p1), .val (.int p2), .val (.int p3), .val (.int p4), .val (.int v1173), .val (.int v1174), .val (.int v1175), .val (.int v1176), .val (.int v1177), .val (.int d1179), .val (.int v1181), .val (.long v1182), .second, .val (.long v1183), .second, .val (.ref b1186), .val (.ref b1209), .val (.long d1379), .second] [(.int d1419)]) := by
                    intro d1419 hv_d1419
                    exact k_retz K X1415 e1416 at_249 (Nat.le_trans (by decide) hkc) (Nat.le_trans (by decide) hkn) (hQ _ _ _ ⟨(by show some (Value.int (nar .boolean d1419)) = some (Value.int (F_law p0 p1 p2 p3 p4)); first | (simp only [F_law, hv_v1173, hv_v1174, hv_v1175, hv_v1176, hv_v1177, hv_d1179, hv_v1181, hv_v1182, hv_v1183, hv_v1250, hv_v1268, hv_d1287, hv_v1339, hv_v1340, hv_d1359, hv_d1360, hv_d1379, hv_d1389, hv_v1412, hv_v1413, hv_d1419, if_pos hc1384, if_pos hc1391, if_pos hc1395]; done) | (subst hv_v1173; subst hv_v1174; subst hv_v1175; subst hv_v1176; subst hv_v1177; subst hv_d1179; subst hv_v1181; subst hv_v1182; subst hv_v1183; subst hv_v1250; subst hv_v1268; subst hv_d1287; subst hv_v1339; subst hv_v1340; subst hv_d1359; subst hv_d1360; subst hv_d1379; subst hv_d1389; subst hv_v1412; subst hv_v1413; subst hv_d1419; simp only [F_law, if_pos hc1384, if_pos hc1391, if_pos hc1395])), N1409⟩)
                  refine k_lcmp_ne K X1415 at_241 (by decide) (q := 248) rfl (q' := 244) rfl ?_ ?_
                  · intro hc1421
                    refine k_iconst K X1415 at_248 (v := (0 : Int32)) rfl (q := 249) rfl ?_
                    exact J1420 _ (by first | (simp only [M0_1418, if_neg hc1421]; done) | rfl)
                  · intro hc1421
                    refine k_iconst K X1415 at_244 (v := (1 : Int32)) rfl (q := 245) rfl ?_
                    refine k_goto K X1415 at_245 (by decide) (q := 249) rfl ?_
                    exact J1420 _ (by first | (simp only [M0_1418, if_pos hc1421]; done) | rfl)
                · intro hc1395
                  refine k_iconst K X1393 at_219 (v := (0 : Int32)) rfl (q := 220) rfl ?_
                  exact k_retz K X1393 e1394 at_220 (Nat.le_trans (by decide) hkc) (Nat.le_trans (by decide) hkn) (hQ _ _ _ ⟨(by show some (Value.int (0 : Int32)) = some (Value.int (F_law p0 p1 p2 p3 p4)); first | (simp only [F_law, hv_v1173, hv_v1174, hv_v1175, hv_v1176, hv_v1177, hv_d1179, hv_v1181, hv_v1182, hv_v1183, hv_v1250, hv_v1268, hv_d1287, hv_v1339, hv_v1340, hv_d1359, hv_d1360, hv_d1379, hv_d1389, if_pos hc1384, if_pos hc1391, if_neg hc1395]; done) | (subst hv_v1173; subst hv_v1174; subst hv_v1175; subst hv_v1176; subst hv_v1177; subst hv_d1179; subst hv_v1181; subst hv_v1182; subst hv_v1183; subst hv_v1250; subst hv_v1268; subst hv_d1287; subst hv_v1339; subst hv_v1340; subst hv_d1359; subst hv_d1360; subst hv_d1379; subst hv_d1389; simp only [F_law, if_pos hc1384, if_pos hc1391, if_neg hc1395])), N1374⟩)
              · intro hc1391
                refine k_iconst K X1386 at_198 (v := (0 : Int32)) rfl (q := 199) rfl ?_
                exact k_retz K X1386 e1387 at_199 (Nat.le_trans (by decide) hkc) (Nat.le_trans (by decide) hkn) (hQ _ _ _ ⟨(by show some (Value.int (0 : Int32)) = some (Value.int (F_law p0 p1 p2 p3 p4)); first | (simp only [F_law, hv_v1173, hv_v1174, hv_v1175, hv_v1176, hv_v1177, hv_d1179, hv_v1181, hv_v1182, hv_v1183, hv_v1250, hv_v1268, hv_d1287, hv_v1339, hv_v1340, hv_d1359, hv_d1360, hv_d1379, hv_d1389, if_pos hc1384, if_neg hc1391]; done) | (subst hv_v1173; subst hv_v1174; subst hv_v1175; subst hv_v1176; subst hv_v1177; subst hv_d1179; subst hv_v1181; subst hv_v1182; subst hv_v1183; subst hv_v1250; subst hv_v1268; subst hv_d1287; subst hv_v1339; subst hv_v1340; subst hv_d1359; subst hv_d1360; subst hv_d1379; subst hv_d1389; simp only [F_law, if_pos hc1384, if_neg hc1391])), N1374⟩)
            refine k_icmp_ne K X1386 at_187 (by decide) (q := 194) rfl (q' := 190) rfl ?_ ?_
            · intro hc1422
              refine k_iconst K X1386 at_194 (v := (0 : Int32)) rfl (q := 195) rfl ?_
              exact J1390 _ (by first | (simp only [M0_1418, if_neg hc1422]; done) | rfl)
            · intro hc1422
              refine k_iconst K X1386 at_190 (v := (1 : Int32)) rfl (q := 191) rfl ?_
              refine k_goto K X1386 at_191 (by decide) (q := 195) rfl ?_
              exact J1390 _ (by first | (simp only [M0_1418, if_pos hc1422]; done) | rfl)
          · intro hc1384
            refine k_iconst K X1382 at_176 (v := (0 : Int32)) rfl (q := 177) rfl ?_
            exact k_retz K X1382 e1383 at_177 (Nat.le_trans (by decide) hkc) (Nat.le_trans (by decide) hkn) (hQ _ _ _ ⟨(by show some (Value.int (0 : Int32)) = some (Value.int (F_law p0 p1 p2 p3 p4)); first | (simp only [F_law, hv_v1173, hv_v1174, hv_v1175, hv_v1176, hv_v1177, hv_d1179, hv_v1181, hv_v1182, hv_v1183, hv_v1250, hv_v1268, hv_d1287, hv_v1339, hv_v1340, hv_d1359, hv_d1360, hv_d1379, if_neg hc1384]; done) | (subst hv_v1173; subst hv_v1174; subst hv_v1175; subst hv_v1176; subst hv_v1177; subst hv_d1179; subst hv_v1181; subst hv_v1182; subst hv_v1183; subst hv_v1250; subst hv_v1268; subst hv_d1287; subst hv_v1339; subst hv_v1340; subst hv_d1359; subst hv_d1360; subst hv_d1379; simp only [F_law, if_neg hc1384])), N1374⟩)
        refine k_icmp_ne K X1371 at_152 (by decide) (q := 159) rfl (q' := 155) rfl ?_ ?_
        · intro hc1423
          refine k_lload K X1371 at_159 rfl (q := 161) rfl ?_
          exact J1380 _ (by first | (simp only [M0_1418, if_neg hc1423]; done) | rfl)
        · intro hc1423
          refine k_lconst0 K X1371 at_155 (q := 156) rfl ?_
          refine k_goto K X1371 at_156 (by decide) (q := 161) rfl ?_
          exact J1380 _ (by first | (simp only [M0_1418, if_pos hc1423]; done) | rfl)
      refine k_if_eq K X1324 at_138 (by decide) (q := 148) rfl (q' := 141) rfl ?_ ?_
      · intro hc1424
        exact J1369 T1322 _ _ _ _ X1324 N1336 rfl K1337 Z1338 f1333 f1334 f1335 f1328 f1329 f1330 f1331 f1332 (by first | (simp only [M0_1418, if_pos hc1424]; done) | rfl) (by first | (simp only [M0_1418, if_pos hc1424]; done) | rfl)
      · intro hc1424
        refine k_aload K X1324 at_141 rfl rfl (q := 143) rfl ?_
        refine k_iload K X1324 at_143 rfl (q := 145) rfl ?_
        refine k_virtual K X1324 rfl at_145 (wd hw 47 rfl) (wd hw 48 rfl) (wd hw 50 rfl) (wd hw 49 rfl) (wd hw 4 rfl) (wd hw 51 rfl) (by decide) f1334 (rm8 l Z az hw [] b1209 v1175 v1340 v1339 v1174 v1250 (.ref b1238) T1322.heap n0 Z1338 f1329 f1334 ge1217 f1328 f1331 f1330 f1332) (W := 0) (by decide) (by decide) (by decide) (by decide) rfl pd_4 (argsL := [(.int v1175)]) (rest := []) rfl rfl rfl (Nat.le_of_eq rfl) (q := 148) rfl ?_
        rintro _ T1425 L1426 X1427 ⟨rfl, N1428, K1429, f1431, f1432, f1433, f1434, f1435⟩
        have f1436 := Ary.keep f1333 K1429 (ninS ne1216 nin0)
        have f1437 := Exa.keep f1334 K1429
        have f1438 := Ary.keep f1335 K1429 (ninS (Ne.symm ne1243) nin0)
        have N1439 := Fr.app N1336 N1428
        have K1440 := Keep.trans K1337 K1429 (allS (Or.inr bn1218) all0)
        have Z1441 := Nat.le_trans Z1338 K1429.1
        exact J1369 T1425 _ _ _ _ X1427 N1439 rfl K1440 Z1441 f1436 f1437 f1438 f1431 f1432 f1433 f1434 f1435 (by first | (simp only [M0_1418, if_neg hc1424]; done) | rfl) (by first | (simp only [M0_1418, if_neg hc1424]; done) | rfl)
    refine k_icmp_eq K X1253 at_107 (by decide) (q := 117) rfl (q' := 110) rfl ?_ ?_
    · intro hc1442
      exact J1296 T1251 _ _ _ X1253 N1265 rfl K1266 Z1267 f1262 f1263 f1264 f1257 f1258 f1259 f1260 f1261 (by first | (simp only [M0_1418, if_pos hc1442]; done) | rfl)
    · intro hc1442
      refine k_aload K X1253 at_110 rfl rfl (q := 112) rfl ?_
      refine k_iload K X1253 at_112 rfl (q := 114) rfl ?_
      refine k_virtual K X1253 rfl at_114 (wd hw 33 rfl) (wd hw 34 rfl) (wd hw 36 rfl) (wd hw 35 rfl) (wd hw 4 rfl) (wd hw 37 rfl) (by decide) f1263 (rm6 l Z az hw [] b1209 v1176 v1268 (0 : Int64) v1174 v1250 (.ref b1238) T1251.heap n0 Z1267 f1258 f1257 f1263 ge1217 f1260 f1259 f1261 (own_ob_5 p0 p1 p2 p3 p4 v1173 v1174 v1175 v1176 v1250 v1268 hv_v1173 hv_v1174 hv_v1175 hv_v1176 hv_v1250 hv_v1268 hc1442) (own_ob_6 p0 p1 p2 p3 p4 v1173 v1174 v1175 v1176 hv_v1173 hv_v1174 hv_v1175 hv_v1176 hc1442)) (W := 0) (by decide) (by decide) (by decide) (by decide) rfl pd_4 (argsL := [(.int v1176)]) (rest := []) rfl rfl rfl (Nat.le_of_eq rfl) (q := 117) rfl ?_
      rintro _ T1443 L1444 X1445 ⟨rfl, N1446, K1447, f1449, f1450, f1451, f1452, f1453⟩
      have f1454 := Ary.keep f1262 K1447 (ninS ne1216 nin0)
      have f1455 := Exa.keep f1263 K1447
      have f1456 := Ary.keep f1264 K1447 (ninS (Ne.symm ne1243) nin0)
      have N1457 := Fr.app N1265 N1446
      have K1458 := Keep.trans K1266 K1447 (allS (Or.inr bn1218) all0)
      have Z1459 := Nat.le_trans Z1267 K1447.1
      exact J1296 T1443 _ _ _ X1445 N1457 rfl K1458 Z1459 f1454 f1455 f1456 f1449 f1450 f1451 f1452 f1453 (by first | (simp only [M0_1418, if_neg hc1442]; done) | rfl)
  refine k_if_eq K X0 at_41 (by decide) (q := 48) rfl (q' := 44) rfl ?_ ?_
  · intro hc1460
    refine k_iconst K X0 at_48 (v := (0 : Int32)) rfl (q := 49) rfl ?_
    exact J1180 _ (by first | (simp only [M0_1418, if_pos hc1460]; done) | rfl)
  · intro hc1460
    refine k_iconst K X0 at_44 (v := (1 : Int32)) rfl (q := 45) rfl ?_
    refine k_goto K X0 at_45 (by decide) (q := 49) rfl ?_
    exact J1180 _ (by first | (simp only [M0_1418, if_neg hc1460]; done) | rfl)
theorem law_eq (p0 p1 p2 p3 p4 : Int32) : F_law p0 p1 p2 p3 p4 = 1 := by
  have T := own_Tk p0
  have P := own_p p3
  have A := own_t1 T p1
  have B := own_t1 T p2
  have C := own_cs (own_all T _ _ _ A B P.1 P.2)
  have I := own_in T 64 _ (by decide) (by decide) P.1 P.2
  have cp := (own_cap64 T).2
  have so := own_so T _ P.1 (by omega)
  simp only [F_law, M0_1418, own_T_ntz T, own_U, own_U2, own_D2]
  generalize Int32.toNatClampNeg (Int64.toInt32 (F_bytes 64 (shlI 1 ((p0 &&& 2147483647) % 7)) / 8)) = n at *
  generalize (p0 &&& 2147483647) % 7 = k at *
  generalize shlI 1 k = l at *
  generalize p1 &&& l - 1 = a at *
  generalize p2 &&& l - 1 = b at *
  generalize p3 &&& 63 = p at *
  have w0 : F_word p k n (F_add1_w_a0_words_g (shlL 1 a ||| shlL 1 b) p k n (fun _ => 0)) = shlL (shlL 1 a ||| shlL 1 b) (shlI p k &&& 63) := by
    show (if own_ix p k = own_ix p k then (0 : Int64) ||| shlL (shlL 1 a ||| shlL 1 b) (Int64.toInt32 (shlL (Int32.toInt64 p) k)) else 0) = _
    rw [if_pos rfl, own_0or, own_shl63 _ (Int64.toInt32 _), so]
  have h0 : F_holding1 ((shlL 1 a ||| shlL 1 b) &&& (shlL 1 a ^^^ -1)) p k n (F_add1_w_a0_words_g (shlL 1 a ||| shlL 1 b) p k n (fun _ => 0)) = (if a = b then 0 else shlL 1 b) := by
    show (shlL 1 a ||| shlL 1 b) &&& (shlL 1 a ^^^ -1) &&& ushrL (F_word p k n (F_add1_w_a0_words_g (shlL 1 a ||| shlL 1 b) p k n (fun _ => 0))) (Int64.toInt32 (shlL (Int32.toInt64 p) k)) = _
    rw [w0, own_ush63 _ (Int64.toInt32 _), so]; exact C.1
  have e0 : F_empty ((shlL 1 a ||| shlL 1 b) &&& (shlL 1 a ^^^ -1)) = (if a = b then 1 else 0) := by
    simp only [F_empty]
    by_cases c : a = b
    · rw [if_pos (C.2.1.mpr c), if_pos c]; rfl
    · rw [if_neg (fun z => c (C.2.1.mp z)), if_neg c]; rfl
  have t0 : F_word p k n (F_take2_w_a0_words_g a ((shlL 1 a ||| shlL 1 b) &&& (shlL 1 a ^^^ -1)) (shlL 1 a) l n (F_add1_w_a0_words_g (shlL 1 a ||| shlL 1 b) p k n (fun _ => 0)) k) = shlL (if a = b then 0 else shlL 1 b) (shlI p k &&& 63) := by
    show L6_572_1 n a _ _ l n _ k _ (F_spread (shlL 1 a) l ^^^ -1) 0 (F_add1_w_a0_words_g (shlL 1 a ||| shlL 1 b) p k n (fun _ => 0)) (own_ix p k) = _
    rw [own_L _ _ _ _ _ _ _ _ _ n 0 _ (own_wl0 (by omega)), if_pos ⟨by show (0 : Int) ≤ _; omega, I.2⟩]
    show F_word p k n (F_add1_w_a0_words_g (shlL 1 a ||| shlL 1 b) p k n (fun _ => 0)) &&& _ = _
    rw [w0]; exact C.2.2.1
  rw [if_pos h0, if_pos e0, if_pos w0, if_pos t0]
  rfl
set_option maxRecDepth 65536 in
set_option maxHeartbeats 40000000 in
theorem comes_1 {Post : Tables → Env → Array Value → State → Outcome → State → Prop} (hpost : ∀ tb e args s v u, (limb_1_1.after args s (.returned v) u = true ∧ limb_1_2.after args s (.returned v) u = true ∧ True) → FrameEnd s (.returned v) u (Jvm.fieldLocs frame_1_writes args s ++ Jvm.arrayLocs frame_1_arrays args s ++ Jvm.staticLocs frame_1_statics s) 16 256 → Post tb e args s (.returned v) u) :
    ArmFor flags0 classFile x code maxLocals ret World_1 tables_1 room_1 Calls_1 rest_1 Pre_1 Post := by
  intro l hfl _ _ p e ha hc hk s m args below hf hA hF happ hP
  obtain ⟨hcalls, hrest, hpre⟩ := hP
  obtain ⟨-, -, -, hnamed, -, -, -, hat⟩ := (Spec.applies_iff hf).mp happ
  obtain ⟨hg, hn⟩ := and_e (Cond.before_iff.mp (show (Jvm.Cond.and given_1 narrow_1).before args s = true from hpre))
  obtain ⟨gc, g0⟩ := and_e hg
  obtain ⟨ga0, g1⟩ := and_e g0
  obtain ⟨ga1, g2⟩ := and_e g1
  obtain ⟨ga2, g3⟩ := and_e g2
  obtain ⟨ga3, g4⟩ := and_e g3
  obtain ⟨w0, w1, w2, w3, w4, rfl⟩ : ∃ w0 w1 w2 w3 w4 : Value, args = #[w0, w1, w2, w3, w4] := by
    have hs : args.size = 5 := by simpa [Cond.value, given_1] using gc
    obtain ⟨L⟩ := args
    match L, hs with
    | [w0, w1, w2, w3, w4], _ => exact ⟨w0, w1, w2, w3, w4, rfl⟩
  have hw := fun d (hd : d ∈ tables_1) => atoms_spec (ws := Jvm.Cond.code x code maxLocals ret :: tables_1) hat d (List.mem_cons_of_mem _ hd)
  obtain ⟨i0, ei0⟩ := is_v ga0
  obtain rfl : w0 = (.int i0) := Option.some.inj ei0
  obtain ⟨i1, ei1⟩ := is_v ga1
  obtain rfl : w1 = (.int i1) := Option.some.inj ei1
  obtain ⟨i2, ei2⟩ := is_v ga2
  obtain rfl : w2 = (.int i2) := Option.some.inj ei2
  obtain ⟨i3, ei3⟩ := is_v ga3
  obtain rfl : w3 = (.int i3) := Option.some.inj ei3
  obtain ⟨i4, ei4⟩ := is_v g4
  obtain rfl : w4 = (.int i4) := Option.some.inj ei4
  obtain ⟨n, o, h1, h2, h3, _, L, rfl, ⟨rfl, N⟩, hq⟩ := rm0 l s _ hw tables_1 i0 i1 i2 i3 i4 s.heap s.heap.size (Nat.le_refl _) p e ha hc hk s m _ below hf ((Spec.applies_iff_loose hf).mp happ).1 ⟨rfl, State.Warmed39.refl s, rfl⟩ trivial
  rw [law_eq] at *
  refine ⟨n, _, h1, h2, h3, hpost _ _ _ _ _ _ ⟨Cond.after_iff.mpr rfl, Cond.after_iff.mpr (eq_i res_at (Term.int_eval (1)) rfl), trivial⟩ ⟨hq.1, hq.2.1, (hq.2.2.sift fun y hy => Or.inr (N y hy)).mono (by decide) (by decide)⟩⟩
theorem main_1_1 : Claimed_1_1 := comes_1 fun _ _ _ _ _ _ h hF => ⟨h.1, hF⟩
theorem main_1_2 : Claimed_1_2 := comes_1 fun _ _ _ _ _ _ h hF => ⟨h.2.1, hF⟩
end Jvm.Pilot.@@N@@
namespace Jvm.Pilot.@@N@@
open Jvm Jvm.ClassFile Sem Op Lib Jvm.Free Jvm.Stand Jvm.Pilot.@@N@@.Jvm.D
/-! MADE BY PROGRAM (witnessworld.py) out of the Statement's table words and the real class files: 16 classes; the members and pool entries that the words name. The judged class is class 1, her method 1. -/
namespace start1
open Jvm.ClassFile
def u (s : String) : CpInfo := .utf8 (stringToUtf16 s)
/-- a pool by its gaps: so many unusable entries, then the entry; so many at the end -/
def gap : Nat → List CpInfo → List CpInfo
  | 0, r => r
  | n + 1, r => .unusable :: gap n r
def poolList (es : List (Nat × CpInfo)) (last : Nat) : List CpInfo := es.foldr (fun e r => gap e.1 (e.2 :: r)) (gap last [])
def pool (es : List (Nat × CpInfo)) (last : Nat) : Array CpInfo := ⟨poolList es last⟩
def fileOf (pool : Array CpInfo) (this : Nat) (attrs : Array Attribute := #[]) (ms : Array MethodInfo := #[]) (fl : Nat := 33) (sup : Nat := 0) (ifs : Array Nat := #[]) (fds : Array FieldInfo := #[]) : ClassFile where
  minorVersion := 0
  majorVersion := 65
  constantPool := pool
  accessFlags := fl
  thisClass := this
  superClass := sup
  interfaces := ifs
  fields := fds
  methods := ms
  attributes := attrs
def plain (name : String) (sup : Option ClassId) : Class where
  name := name
  kind := .ordinary
  loader := none
  accessFlags := 33
  super := sup
  interfaces := #[]
  cf := none
  fields := #[]
  methods := #[]
  instanceTypes := #[]
  staticTypes := #[]
  resolved := #[]
  callSites := []
  init := .initialized
  statics := none
  mirror := none

def pool0 : Array CpInfo := pool [(5, u "<init>"), (0, u "()V"), (1, .class_ 10), (1, u "java/lang/Object")] 113

def k0c0 : Code := { maxStack := 0, maxLocals := 1, code := object_method_1_code, exceptionTable := #[], attributes := #[] }
def k0m0 : Method := { name := "<init>", desc := "()V", sig := { parameters := [], returnType := none }, accessFlags := 1, code := some k0c0 }
/-- java/lang/Object -/
def k0 : Class := { plain "java/lang/Object" none with
  accessFlags := 33
  interfaces := #[]
  cf := some (fileOf pool0 8 #[] #[{ accessFlags := 1, nameIndex := 5, descriptorIndex := 6, attributes := #[] }] 33 0 #[] #[])
  fields := #[]
  methods := #[k0m0]
  instanceTypes := #[]
  staticTypes := #[]
  resolved := Array.replicate 124 none
  statics := none }

def pool1 : Array CpInfo := pool [(2, .class_ 4), (1, u "java/lang/Object"), (0, u "<init>"), (0, u "()V"), (0, .integer 2147483647), (0, .class_ 9), (0, u "com/example/dayflower/dayflower/filter/FilterSlab"), (0, .methodref 8 11), (0, .nameAndType 5 12), (0, u "(II)V"), (0, .methodref 8 14), (0, .nameAndType 15 16), (0, u "take"), (0, u "(I)V"), (0, .methodref 8 18), (0, .nameAndType 19 20), (0, u "add"), (0, u "([IJ)V"), (0, .methodref 8 22), (0, .nameAndType 23 16), (0, u "free"), (0, .methodref 8 25), (0, .nameAndType 26 27), (0, u "holding"), (0, u "([I)J"), (0, .methodref 8 29), (0, .nameAndType 30 31), (0, u "empty"), (0, u "()Z"), (0, .methodref 8 33), (0, .nameAndType 34 35), (0, u "word"), (0, u "(I)J"), (0, .class_ 37), (0, u "com/example/dayflower/dayflower/filter/FilterSlabFreePinLaw"), (2, u "law"), (0, u "(IIIII)Z")] 5

def k1m0 : Method := { name := "<init>", desc := "()V", sig := { parameters := [], returnType := none }, accessFlags := 1, code := none }
def k1c1 : Code := { maxStack := 6, maxLocals := 20, code := code, exceptionTable := #[], attributes := #[] }
def k1m1 : Method := { name := "law", desc := "(IIIII)Z", sig := { parameters := [.int, .int, .int, .int, .int], returnType := some .boolean }, accessFlags := 9, code := some k1c1 }
/-- com/example/dayflower/dayflower/filter/FilterSlabFreePinLaw -/
def k1 : Class := { plain "com/example/dayflower/dayflower/filter/FilterSlabFreePinLaw" (some 0) with
  accessFlags := 49
  interfaces := #[]
  cf := some (fileOf pool1 36 #[] #[{ accessFlags := 1, nameIndex := 5, descriptorIndex := 6, attributes := #[] }, { accessFlags := 9, nameIndex := 40, descriptorIndex := 41, attributes := #[] }] 49 2 #[] #[])
  fields := #[]
  methods := #[k1m0, k1m1]
  instanceTypes := #[]
  staticTypes := #[]
  resolved := Array.replicate 47 none
  statics := none }

def pool2 : Array CpInfo := pool [(3, .methodref 4 5), (0, .class_ 6), (0, .nameAndType 7 8), (0, u "java/lang/Object"), (0, u "<init>"), (0, u "()V"), (0, .class_ 10), (0, u "com/example/dayflower/dayflower/filter/FilterSlab"), (0, .methodref 12 13), (0, .class_ 14), (0, .nameAndType 15 16), (0, u "java/lang/Integer"), (0, u "bitCount"), (0, u "(I)I"), (9, .fieldref 9 27), (0, .nameAndType 28 29), (0, u "lanes"), (0, u "I"), (0, .methodref 12 31), (0, .nameAndType 32 16), (0, u "numberOfTrailingZeros"), (0, .fieldref 9 34), (0, .nameAndType 35 29), (0, u "laneShift"), (0, .methodref 9 37), (0, .nameAndType 38 39), (0, u "bytes"), (0, u "(II)J"), (0, .long 8), (1, .fieldref 9 43), (0, .nameAndType 44 45), (0, u "words"), (0, u "[J"), (0, .long 64), (1, .fieldref 9 49), (0, .nameAndType 50 51), (0, u "inUse"), (0, u "J"), (4, .fieldref 9 57), (0, .nameAndType 58 51), (0, u "dirty"), (0, .methodref 9 60), (0, .nameAndType 61 62), (0, u "spread"), (0, u "(J)J"), (0, .long 18446744073709551615), (11, u "MAX_LANES"), (2, u "(II)V"), (3, u "holding"), (0, u "([I)J"), (2, u "add"), (0, u "([IJ)V"), (0, u "word"), (0, u "(I)J"), (0, u "take"), (0, u "(I)V"), (0, u "free"), (0, u "empty"), (0, u "()Z")] 21

def k2c0 : Code := { maxStack := 5, maxLocals := 3, code := prog_14_method_1_code, exceptionTable := #[], attributes := #[] }
def k2m0 : Method := { name := "<init>", desc := "(II)V", sig := { parameters := [.int, .int], returnType := none }, accessFlags := 0, code := some k2c0 }
def k2c1 : Code := { maxStack := 4, maxLocals := 4, code := prog_14_method_2_code, exceptionTable := #[], attributes := #[] }
def k2m1 : Method := { name := "bytes", desc := "(II)J", sig := { parameters := [.int, .int], returnType := some .long }, accessFlags := 8, code := some k2c1 }
def k2c2 : Code := { maxStack := 6, maxLocals := 10, code := prog_14_method_3_code, exceptionTable := #[], attributes := #[] }
def k2m2 : Method := { name := "holding", desc := "([I)J", sig := { parameters := [(.array .int)], returnType := some .long }, accessFlags := 0, code := some k2c2 }
def k2c3 : Code := { maxStack := 8, maxLocals := 10, code := prog_14_method_4_code, exceptionTable := #[], attributes := #[] }
def k2m3 : Method := { name := "add", desc := "([IJ)V", sig := { parameters := [(.array .int), .long], returnType := none }, accessFlags := 0, code := some k2c3 }
def k2c4 : Code := { maxStack := 4, maxLocals := 2, code := prog_14_method_5_code, exceptionTable := #[], attributes := #[] }
def k2m4 : Method := { name := "word", desc := "(I)J", sig := { parameters := [.int], returnType := some .long }, accessFlags := 0, code := some k2c4 }
def k2c5 : Code := { maxStack := 6, maxLocals := 7, code := prog_14_method_6_code, exceptionTable := #[], attributes := #[] }
def k2m5 : Method := { name := "take", desc := "(I)V", sig := { parameters := [.int], returnType := none }, accessFlags := 0, code := some k2c5 }
def k2c6 : Code := { maxStack := 7, maxLocals := 4, code := prog_14_method_7_code, exceptionTable := #[], attributes := #[] }
def k2m6 : Method := { name := "free", desc := "(I)V", sig := { parameters := [.int], returnType := none }, accessFlags := 0, code := some k2c6 }
def k2c7 : Code := { maxStack := 4, maxLocals := 1, code := prog_14_method_8_code, exceptionTable := #[], attributes := #[] }
def k2m7 : Method := { name := "empty", desc := "()Z", sig := { parameters := [], returnType := some .boolean }, accessFlags := 0, code := some k2c7 }
def k2c8 : Code := { maxStack := 5, maxLocals := 6, code := prog_14_method_10_code, exceptionTable := #[], attributes := #[] }
def k2m8 : Method := { name := "spread", desc := "(J)J", sig := { parameters := [.long], returnType := some .long }, accessFlags := 2, code := some k2c8 }
/-- com/example/dayflower/dayflower/filter/FilterSlab -/
def k2 : Class := { plain "com/example/dayflower/dayflower/filter/FilterSlab" (some 0) with
  accessFlags := 48
  interfaces := #[]
  cf := some (fileOf pool2 9 #[] #[{ accessFlags := 0, nameIndex := 7, descriptorIndex := 78, attributes := #[] }, { accessFlags := 8, nameIndex := 38, descriptorIndex := 39, attributes := #[] }, { accessFlags := 0, nameIndex := 82, descriptorIndex := 83, attributes := #[] }, { accessFlags := 0, nameIndex := 86, descriptorIndex := 87, attributes := #[] }, { accessFlags := 0, nameIndex := 88, descriptorIndex := 89, attributes := #[] }, { accessFlags := 0, nameIndex := 90, descriptorIndex := 91, attributes := #[] }, { accessFlags := 0, nameIndex := 92, descriptorIndex := 91, attributes := #[] }, { accessFlags := 0, nameIndex := 93, descriptorIndex := 94, attributes := #[] }, { accessFlags := 2, nameIndex := 61, descriptorIndex := 62, attributes := #[] }] 48 4 #[] #[{ accessFlags := 24, nameIndex := 75, descriptorIndex := 29, attributes := #[] }, { accessFlags := 18, nameIndex := 28, descriptorIndex := 29, attributes := #[] }, { accessFlags := 18, nameIndex := 35, descriptorIndex := 29, attributes := #[] }, { accessFlags := 18, nameIndex := 44, descriptorIndex := 45, attributes := #[] }, { accessFlags := 2, nameIndex := 50, descriptorIndex := 51, attributes := #[] }, { accessFlags := 2, nameIndex := 58, descriptorIndex := 51, attributes := #[] }])
  fields := #[{ name := "MAX_LANES", type := .int, accessFlags := 24, slot := 0, constantValue := 0 }, { name := "lanes", type := .int, accessFlags := 18, slot := 0, constantValue := 0 }, { name := "laneShift", type := .int, accessFlags := 18, slot := 1, constantValue := 0 }, { name := "words", type := (.array .long), accessFlags := 18, slot := 2, constantValue := 0 }, { name := "inUse", type := .long, accessFlags := 2, slot := 3, constantValue := 0 }, { name := "dirty", type := .long, accessFlags := 2, slot := 4, constantValue := 0 }]
  methods := #[k2m0, k2m1, k2m2, k2m3, k2m4, k2m5, k2m6, k2m7, k2m8]
  instanceTypes := #[.int, .int, (.array .long), .long, .long]
  staticTypes := #[.int]
  resolved := Array.replicate 116 none
  statics := none }

def pool3 : Array CpInfo := pool [(1, .class_ 2), (0, u "java/io/Serializable"), (0, .class_ 4), (0, u "java/lang/Object")] 2

/-- java/io/Serializable -/
def k3 : Class := { plain "java/io/Serializable" (some 0) with
  accessFlags := 1537
  interfaces := #[]
  cf := some (fileOf pool3 1 #[] #[] 1537 3 #[] #[])
  fields := #[]
  methods := #[]
  instanceTypes := #[]
  staticTypes := #[]
  resolved := Array.replicate 7 none
  statics := none }

def pool4 : Array CpInfo := pool [(2, .class_ 4), (1, u "java/lang/Object"), (0, u "<init>"), (0, u "()V"), (1, .class_ 10), (1, u "java/lang/Number"), (2, .class_ 14), (0, u "java/io/Serializable"), (0, u "serialVersionUID"), (0, u "J")] 20

def k4m0 : Method := { name := "<init>", desc := "()V", sig := { parameters := [], returnType := none }, accessFlags := 1, code := none }
/-- java/lang/Number -/
def k4 : Class := { plain "java/lang/Number" (some 0) with
  accessFlags := 1057
  interfaces := #[3]
  cf := some (fileOf pool4 8 #[] #[{ accessFlags := 1, nameIndex := 5, descriptorIndex := 6, attributes := #[] }] 1057 2 #[13] #[{ accessFlags := 26, nameIndex := 15, descriptorIndex := 16, attributes := #[] }])
  fields := #[{ name := "serialVersionUID", type := .long, accessFlags := 26, slot := 0, constantValue := 0 }]
  methods := #[k4m0]
  instanceTypes := #[]
  staticTypes := #[.long]
  resolved := Array.replicate 37 none
  statics := none }

def pool5 : Array CpInfo := pool [(1, .class_ 2), (0, u "java/lang/Comparable"), (0, .class_ 4), (0, u "java/lang/Object")] 7

/-- java/lang/Comparable -/
def k5 : Class := { plain "java/lang/Comparable" (some 0) with
  accessFlags := 1537
  interfaces := #[]
  cf := some (fileOf pool5 1 #[] #[] 1537 3 #[] #[])
  fields := #[]
  methods := #[]
  instanceTypes := #[]
  staticTypes := #[]
  resolved := Array.replicate 12 none
  statics := none }

def pool6 : Array CpInfo := pool [(1, .class_ 2), (0, u "java/lang/constant/Constable"), (0, .class_ 4), (0, u "java/lang/Object")] 6

/-- java/lang/constant/Constable -/
def k6 : Class := { plain "java/lang/constant/Constable" (some 0) with
  accessFlags := 1537
  interfaces := #[]
  cf := some (fileOf pool6 1 #[] #[] 1537 3 #[] #[])
  fields := #[]
  methods := #[]
  instanceTypes := #[]
  staticTypes := #[]
  resolved := Array.replicate 11 none
  statics := none }

def pool7 : Array CpInfo := pool [(1, .class_ 2), (0, u "java/lang/constant/ConstantDesc"), (0, .class_ 4), (0, u "java/lang/Object")] 32

/-- java/lang/constant/ConstantDesc -/
def k7 : Class := { plain "java/lang/constant/ConstantDesc" (some 0) with
  accessFlags := 1537
  interfaces := #[]
  cf := some (fileOf pool7 1 #[] #[] 1537 3 #[] #[])
  fields := #[]
  methods := #[]
  instanceTypes := #[]
  staticTypes := #[]
  resolved := Array.replicate 37 none
  statics := none }

def pool8 : Array CpInfo := pool [(1, .class_ 2), (0, u "java/lang/Integer"), (16, u "digits"), (0, u "[C"), (33, u "(I)I"), (30, u "DigitOnes"), (0, u "[B"), (2, u "DigitTens"), (99, .class_ 190), (0, u "java/lang/Integer$IntegerCache"), (3, u "I"), (8, .class_ 204), (0, u "java/lang/Number"), (2, u "value"), (56, .integer 65536), (0, .integer 1431655765), (0, .integer 858993459), (0, .integer 252645135), (34, u "TYPE"), (0, u "Ljava/lang/Class;"), (0, .class_ 305), (0, u "java/lang/Comparable"), (0, .class_ 307), (0, u "java/lang/constant/Constable"), (0, .class_ 309), (0, u "java/lang/constant/ConstantDesc"), (0, u "MIN_VALUE"), (1, u "MAX_VALUE"), (3, u "SIZE"), (1, u "BYTES"), (1, u "serialVersionUID"), (0, u "J"), (84, u "numberOfTrailingZeros"), (0, u "bitCount")] 45

def k8c0 : Code := { maxStack := 3, maxLocals := 2, code := jdk_33_method_48_code, exceptionTable := #[], attributes := #[] }
def k8m0 : Method := { name := "numberOfTrailingZeros", desc := "(I)I", sig := { parameters := [.int], returnType := some .int }, accessFlags := 9, code := some k8c0 }
def k8c1 : Code := { maxStack := 3, maxLocals := 1, code := jdk_33_method_49_code, exceptionTable := #[], attributes := #[] }
def k8m1 : Method := { name := "bitCount", desc := "(I)I", sig := { parameters := [.int], returnType := some .int }, accessFlags := 9, code := some k8c1 }
/-- java/lang/Integer -/
def k8 : Class := { plain "java/lang/Integer" (some 4) with
  accessFlags := 49
  interfaces := #[5, 6, 7]
  cf := some (fileOf pool8 1 #[.nestMembers #[189]] #[{ accessFlags := 9, nameIndex := 406, descriptorIndex := 54, attributes := #[] }, { accessFlags := 9, nameIndex := 407, descriptorIndex := 54, attributes := #[] }] 49 203 #[304, 306, 308] #[{ accessFlags := 25, nameIndex := 310, descriptorIndex := 194, attributes := #[] }, { accessFlags := 25, nameIndex := 312, descriptorIndex := 194, attributes := #[] }, { accessFlags := 25, nameIndex := 302, descriptorIndex := 303, attributes := #[] }, { accessFlags := 24, nameIndex := 19, descriptorIndex := 20, attributes := #[] }, { accessFlags := 24, nameIndex := 89, descriptorIndex := 86, attributes := #[] }, { accessFlags := 24, nameIndex := 85, descriptorIndex := 86, attributes := #[] }, { accessFlags := 18, nameIndex := 207, descriptorIndex := 194, attributes := #[] }, { accessFlags := 25, nameIndex := 316, descriptorIndex := 194, attributes := #[] }, { accessFlags := 25, nameIndex := 318, descriptorIndex := 194, attributes := #[] }, { accessFlags := 26, nameIndex := 320, descriptorIndex := 321, attributes := #[] }])
  fields := #[{ name := "MIN_VALUE", type := .int, accessFlags := 25, slot := 0, constantValue := 0 }, { name := "MAX_VALUE", type := .int, accessFlags := 25, slot := 1, constantValue := 0 }, { name := "TYPE", type := (.object "java/lang/Class"), accessFlags := 25, slot := 2, constantValue := 0 }, { name := "digits", type := (.array .char), accessFlags := 24, slot := 3, constantValue := 0 }, { name := "DigitTens", type := (.array .byte), accessFlags := 24, slot := 4, constantValue := 0 }, { name := "DigitOnes", type := (.array .byte), accessFlags := 24, slot := 5, constantValue := 0 }, { name := "value", type := .int, accessFlags := 18, slot := 0, constantValue := 0 }, { name := "SIZE", type := .int, accessFlags := 25, slot := 6, constantValue := 0 }, { name := "BYTES", type := .int, accessFlags := 25, slot := 7, constantValue := 0 }, { name := "serialVersionUID", type := .long, accessFlags := 26, slot := 8, constantValue := 0 }]
  methods := #[k8m0, k8m1]
  instanceTypes := #[.int]
  staticTypes := #[.int, .int, (.object "java/lang/Class"), (.array .char), (.array .byte), (.array .byte), .int, .int, .long]
  resolved := Array.replicate 453 none
  statics := none }

def pool9 : Array CpInfo := pool [(1, u "java/lang/Cloneable"), (0, .class_ 1), (0, u "java/lang/Object"), (0, .class_ 3)] 3

/-- java/lang/Cloneable -/
def k9 : Class := { plain "java/lang/Cloneable" (some 0) with
  accessFlags := 1537
  interfaces := #[]
  cf := some (fileOf pool9 2 #[] #[] 1537 4 #[] #[])
  fields := #[]
  methods := #[]
  instanceTypes := #[]
  staticTypes := #[]
  resolved := Array.replicate 8 none
  statics := none }

/-- the primitive byte -/
def k10 : Class := { plain "byte" none with kind := .primitive 'B', accessFlags := 0x411 }
/-- [B -/
def k11 : Class := { plain "[B" (some 0) with kind := .array 10 .byte, interfaces := #[9, 3], accessFlags := 1041 }

/-- the primitive int -/
def k12 : Class := { plain "int" none with kind := .primitive 'I', accessFlags := 0x411 }
/-- [I -/
def k13 : Class := { plain "[I" (some 0) with kind := .array 12 .int, interfaces := #[9, 3], accessFlags := 1041 }

/-- the primitive long -/
def k14 : Class := { plain "long" none with kind := .primitive 'J', accessFlags := 0x411 }
/-- [J -/
def k15 : Class := { plain "[J" (some 0) with kind := .array 14 .long, interfaces := #[9, 3], accessFlags := 1041 }

def heap : Heap := #[]
def classes : Array Class := #[k0, k1, k2, k3, k4, k5, k6, k7, k8, k9, k10, k11, k12, k13, k14, k15]
def interned : List (Array UInt16 × Addr) := []
def slotsUsed : Nat := 0
def theMethod : MethodId := ⟨1, 1⟩
def args0 : Array Value := #[.int 5, .int 7, .int 9, .int 11, .int 4]
def aboutOver (below : List Frame) : State where
  vm := { classes := classes, interned := interned.toArray }
  heap := heap
  slotsUsed := slotsUsed
  threads := #[{ frames := .invoking theMethod args0 :: below }]
def below0 : List Frame := [.native { method := ⟨0, 0⟩, args := #[] }]
def about1 : State := aboutOver below0
def p0 : Program := .bare "" "" ""
def e0 : Env := launch0.env 0 0 0
theorem w_frames : about1.frames = Frame.invoking theMethod args0 :: below0 := rfl
set_option maxRecDepth 65536 in
theorem w_args : argsFit about1.vm theMethod args0 = true := by decide +kernel
set_option maxRecDepth 65536 in
theorem w_heap : heapFits about1 = true := by decide +kernel
set_option maxRecDepth 65536 in
theorem w_runnable : about1.curStatus? = some .runnable := by decide +kernel
set_option maxRecDepth 65536 in
theorem w_alone : about1.alone = true := by decide +kernel
set_option maxRecDepth 65536 in
theorem w_named : about1.methodNamed? x = some theMethod := by decide +kernel
set_option maxRecDepth 65536 in
theorem w_hears : about1.hears theMethod below0 = true := by decide +kernel
set_option maxRecDepth 65536 in
theorem w_ripe : about1.ripe theMethod args0 below0 = true := by decide +kernel
theorem w_running : about1.status = .running := rfl
set_option maxRecDepth 65536 in
theorem w_room : about1.hasRoom e0.platform room_1 = true :=
  launch0.hasRoom_least _ room_1 (by decide +kernel) (by decide +kernel) (by decide +kernel) (by decide +kernel) (by decide +kernel) (by decide +kernel)
theorem allAtoms_all (ts : List Jvm.Cond) (a : Array Jvm.Value) (st : Jvm.State) : (allAtoms ts).before a st = ts.all (fun c => c.before a st) := by
  induction ts with
  | nil => rfl
  | cons c t ih =>
    show (Jvm.Cond.and c (allAtoms t)).before a st = _
    rw [Jvm.Cond.before_and, ih, List.all_cons]
def words1 : List Jvm.Cond := Jvm.Cond.code x code maxLocals ret :: tables_1
/-- a 'code' word, met by the world's own term for the bytes: nothing is compared byte by byte -/
theorem code_word {y : MethodName} {bytes : ByteArray} {mx : Nat} {rt : Option FieldType} {a : Array Value} {s : State} {m : MethodId} {meth : Method} {c : Code} (h1 : s.methodNamed? y = some m) (h2 : s.vm.method? m = some meth) (h3 : meth.code = some c) (h4 : c.code = bytes)
    (h5 : (c.maxLocals == mx && c.exceptionTable.isEmpty && decide (c.maxStack ≤ mostOperands) && decide (meth.sig.returnType = rt) && !meth.locks && decide (parseMethodDescriptor y.desc = some meth.sig)) = true) : (Jvm.Cond.code y bytes mx rt).before a s = true := by
  simp only [Bool.and_eq_true, beq_iff_eq, Bool.not_eq_true', decide_eq_true_eq] at h5
  obtain ⟨⟨⟨⟨⟨g1, g2⟩, g3⟩, g4⟩, g5⟩, g6⟩ := h5
  simp [Cond.before, Cond.holds, Cond.value, h1, h2, h3, h4, g1, g2, g3, g4, g5, g6]
def isCode : Jvm.Cond → Bool
  | .code _ _ _ _ => true
  | _ => false
theorem all_split {L : List Jvm.Cond} {P : Jvm.Cond → Bool} (h1 : L.all (fun c => isCode c || P c) = true) (h2 : ∀ c ∈ L.filter isCode, P c = true) : L.all P = true := by
  refine List.all_eq_true.mpr fun c hc => ?_
  have h := List.all_eq_true.mp h1 c hc
  rcases Bool.eq_false_or_eq_true (isCode c) with hi | hi
  · exact h2 c (List.mem_filter.mpr ⟨hc, hi⟩)
  · simpa [hi] using h
set_option maxRecDepth 65536 in
theorem w_c0 : (Jvm.Cond.code x code maxLocals ret).before args0 about1 = true := code_word (m := ⟨1, 1⟩) (meth := k1m1) (c := k1c1) (by decide +kernel) rfl rfl rfl (by decide +kernel)
set_option maxRecDepth 65536 in
theorem w_c1 : (Jvm.Cond.code ({ cls := "com/example/dayflower/dayflower/filter/FilterSlab", name := "<init>", desc := "(II)V" } : Jvm.MethodName) prog_14_method_1_code (3 : Nat) (Option.none : Option Jvm.ClassFile.FieldType)).before args0 about1 = true := code_word (m := ⟨2, 0⟩) (meth := k2m0) (c := k2c0) (by decide +kernel) rfl rfl rfl (by decide +kernel)
set_option maxRecDepth 65536 in
theorem w_c2 : (Jvm.Cond.code ({ cls := "java/lang/Object", name := "<init>", desc := "()V" } : Jvm.MethodName) object_method_1_code (1 : Nat) (Option.none : Option Jvm.ClassFile.FieldType)).before args0 about1 = true := code_word (m := ⟨0, 0⟩) (meth := k0m0) (c := k0c0) (by decide +kernel) rfl rfl rfl (by decide +kernel)
set_option maxRecDepth 65536 in
theorem w_c3 : (Jvm.Cond.code ({ cls := "java/lang/Integer", name := "bitCount", desc := "(I)I" } : Jvm.MethodName) jdk_33_method_49_code (1 : Nat) (Option.some Jvm.ClassFile.FieldType.int)).before args0 about1 = true := code_word (m := ⟨8, 1⟩) (meth := k8m1) (c := k8c1) (by decide +kernel) rfl rfl rfl (by decide +kernel)
set_option maxRecDepth 65536 in
theorem w_c4 : (Jvm.Cond.code ({ cls := "java/lang/Integer", name := "numberOfTrailingZeros", desc := "(I)I" } : Jvm.MethodName) jdk_33_method_48_code (2 : Nat) (Option.some Jvm.ClassFile.FieldType.int)).before args0 about1 = true := code_word (m := ⟨8, 0⟩) (meth := k8m0) (c := k8c0) (by decide +kernel) rfl rfl rfl (by decide +kernel)
set_option maxRecDepth 65536 in
theorem w_c5 : (Jvm.Cond.code ({ cls := "com/example/dayflower/dayflower/filter/FilterSlab", name := "bytes", desc := "(II)J" } : Jvm.MethodName) prog_14_method_2_code (4 : Nat) (Option.some Jvm.ClassFile.FieldType.long)).before args0 about1 = true := code_word (m := ⟨2, 1⟩) (meth := k2m1) (c := k2c1) (by decide +kernel) rfl rfl rfl (by decide +kernel)
set_option maxRecDepth 65536 in
theorem w_c6 : (Jvm.Cond.code ({ cls := "com/example/dayflower/dayflower/filter/FilterSlab", name := "take", desc := "(I)V" } : Jvm.MethodName) prog_14_method_6_code (7 : Nat) (Option.none : Option Jvm.ClassFile.FieldType)).before args0 about1 = true := code_word (m := ⟨2, 5⟩) (meth := k2m5) (c := k2c5) (by decide +kernel) rfl rfl rfl (by decide +kernel)
set_option maxRecDepth 65536 in
theorem w_c7 : (Jvm.Cond.code ({ cls := "com/example/dayflower/dayflower/filter/FilterSlab", name := "add", desc := "([IJ)V" } : Jvm.MethodName) prog_14_method_4_code (10 : Nat) (Option.none : Option Jvm.ClassFile.FieldType)).before args0 about1 = true := code_word (m := ⟨2, 3⟩) (meth := k2m3) (c := k2c3) (by decide +kernel) rfl rfl rfl (by decide +kernel)
set_option maxRecDepth 65536 in
theorem w_c8 : (Jvm.Cond.code ({ cls := "com/example/dayflower/dayflower/filter/FilterSlab", name := "free", desc := "(I)V" } : Jvm.MethodName) prog_14_method_7_code (4 : Nat) (Option.none : Option Jvm.ClassFile.FieldType)).before args0 about1 = true := code_word (m := ⟨2, 6⟩) (meth := k2m6) (c := k2c6) (by decide +kernel) rfl rfl rfl (by decide +kernel)
set_option maxRecDepth 65536 in
theorem w_c9 : (Jvm.Cond.code ({ cls := "com/example/dayflower/dayflower/filter/FilterSlab", name := "holding", desc := "([I)J" } : Jvm.MethodName) prog_14_method_3_code (10 : Nat) (Option.some Jvm.ClassFile.FieldType.long)).before args0 about1 = true := code_word (m := ⟨2, 2⟩) (meth := k2m2) (c := k2c2) (by decide +kernel) rfl rfl rfl (by decide +kernel)
set_option maxRecDepth 65536 in
theorem w_c10 : (Jvm.Cond.code ({ cls := "com/example/dayflower/dayflower/filter/FilterSlab", name := "empty", desc := "()Z" } : Jvm.MethodName) prog_14_method_8_code (1 : Nat) (Option.some Jvm.ClassFile.FieldType.boolean)).before args0 about1 = true := code_word (m := ⟨2, 7⟩) (meth := k2m7) (c := k2c7) (by decide +kernel) rfl rfl rfl (by decide +kernel)
set_option maxRecDepth 65536 in
theorem w_c11 : (Jvm.Cond.code ({ cls := "com/example/dayflower/dayflower/filter/FilterSlab", name := "word", desc := "(I)J" } : Jvm.MethodName) prog_14_method_5_code (2 : Nat) (Option.some Jvm.ClassFile.FieldType.long)).before args0 about1 = true := code_word (m := ⟨2, 4⟩) (meth := k2m4) (c := k2c4) (by decide +kernel) rfl rfl rfl (by decide +kernel)
set_option maxRecDepth 65536 in
theorem w_c12 : (Jvm.Cond.code ({ cls := "com/example/dayflower/dayflower/filter/FilterSlab", name := "spread", desc := "(J)J" } : Jvm.MethodName) prog_14_method_10_code (6 : Nat) (Option.some Jvm.ClassFile.FieldType.long)).before args0 about1 = true := code_word (m := ⟨2, 8⟩) (meth := k2m8) (c := k2c8) (by decide +kernel) rfl rfl rfl (by decide +kernel)
def codes1 : List Jvm.Cond := [Jvm.Cond.code x code maxLocals ret, Jvm.Cond.code ({ cls := "com/example/dayflower/dayflower/filter/FilterSlab", name := "<init>", desc := "(II)V" } : Jvm.MethodName) prog_14_method_1_code (3 : Nat) (Option.none : Option Jvm.ClassFile.FieldType), Jvm.Cond.code ({ cls := "java/lang/Object", name := "<init>", desc := "()V" } : Jvm.MethodName) object_method_1_code (1 : Nat) (Option.none : Option Jvm.ClassFile.FieldType), Jvm.Cond.code ({ cls := "java/lang/Integer", name := "bitCount", desc := "(I)I" } : Jvm.MethodName) jdk_33_method_49_code (1 : Nat) (Option.some Jvm.ClassFile.FieldType.int), Jvm.Cond.code ({ cls := "java/lang/Integer", name := "numberOfTrailingZeros", desc := "(I)I" } : Jvm.MethodName) jdk_33_method_48_code (2 : Nat) (Option.some Jvm.ClassFile.FieldType.int), Jvm.Cond.code ({ cls := "com/example/dayflower/dayflower/filter/FilterSlab", name := "bytes", desc := "(II)J" } : Jvm.MethodName) prog_14_method_2_code (4 : Nat) (Option.some Jvm.ClassFile.FieldType.long), Jvm.Cond.code ({ cls := "com/example/dayflower/dayflower/filter/FilterSlab", name := "take", desc := "(I)V" } : Jvm.MethodName) prog_14_method_6_code (7 : Nat) (Option.none : Option Jvm.ClassFile.FieldType), Jvm.Cond.code ({ cls := "com/example/dayflower/dayflower/filter/FilterSlab", name := "add", desc := "([IJ)V" } : Jvm.MethodName) prog_14_method_4_code (10 : Nat) (Option.none : Option Jvm.ClassFile.FieldType), Jvm.Cond.code ({ cls := "com/example/dayflower/dayflower/filter/FilterSlab", name := "free", desc := "(I)V" } : Jvm.MethodName) prog_14_method_7_code (4 : Nat) (Option.none : Option Jvm.ClassFile.FieldType), Jvm.Cond.code ({ cls := "com/example/dayflower/dayflower/filter/FilterSlab", name := "holding", desc := "([I)J" } : Jvm.MethodName) prog_14_method_3_code (10 : Nat) (Option.some Jvm.ClassFile.FieldType.long), Jvm.Cond.code ({ cls := "com/example/dayflower/dayflower/filter/FilterSlab", name := "empty", desc := "()Z" } : Jvm.MethodName) prog_14_method_8_code (1 : Nat) (Option.some Jvm.ClassFile.FieldType.boolean), Jvm.Cond.code ({ cls := "com/example/dayflower/dayflower/filter/FilterSlab", name := "word", desc := "(I)J" } : Jvm.MethodName) prog_14_method_5_code (2 : Nat) (Option.some Jvm.ClassFile.FieldType.long), Jvm.Cond.code ({ cls := "com/example/dayflower/dayflower/filter/FilterSlab", name := "spread", desc := "(J)J" } : Jvm.MethodName) prog_14_method_10_code (6 : Nat) (Option.some Jvm.ClassFile.FieldType.long)]
set_option maxRecDepth 65536 in
theorem codes_eq : words1.filter isCode = codes1 := rfl
theorem w_codes : ∀ c ∈ words1.filter isCode, c.before args0 about1 = true := by
  rw [codes_eq]
  intro c hc
  simp only [codes1, List.mem_cons, List.not_mem_nil, or_false] at hc
  rcases hc with rfl | rfl | rfl | rfl | rfl | rfl | rfl | rfl | rfl | rfl | rfl | rfl | rfl
  · exact w_c0
  · exact w_c1
  · exact w_c2
  · exact w_c3
  · exact w_c4
  · exact w_c5
  · exact w_c6
  · exact w_c7
  · exact w_c8
  · exact w_c9
  · exact w_c10
  · exact w_c11
  · exact w_c12
set_option maxRecDepth 65536 in
theorem w_t1 : (words1.take 24).all (fun c => isCode c || c.before args0 about1) = true := by decide +kernel
set_option maxRecDepth 65536 in
theorem w_t2 : ((words1.drop 24).take 24).all (fun c => isCode c || c.before args0 about1) = true := by decide +kernel
set_option maxRecDepth 65536 in
theorem w_t3 : (((words1.drop 24).drop 24).take 24).all (fun c => isCode c || c.before args0 about1) = true := by decide +kernel
set_option maxRecDepth 65536 in
theorem w_t4 : (((words1.drop 24).drop 24).drop 24).all (fun c => isCode c || c.before args0 about1) = true := by decide +kernel
theorem w_tables : (allAtoms (Jvm.Cond.code x code maxLocals ret :: tables_1)).before args0 about1 = true := by
  rw [allAtoms_all]
  show words1.all (fun c => c.before args0 about1) = true
  refine all_split ?_ w_codes
  rw [← List.take_append_drop 24 words1, List.all_append, w_t1, ← List.take_append_drop 24 (words1.drop 24), List.all_append, w_t2, ← List.take_append_drop 24 ((words1.drop 24).drop 24), List.all_append, w_t3, w_t4]
  rfl
set_option maxRecDepth 65536 in
theorem w_case : (Jvm.Cond.and given_1 narrow_1).before args0 about1 = true := by decide +kernel
theorem w_applies : (headSpec (Jvm.Cond.code x code maxLocals ret :: tables_1) room_1).applies x e0.platform about1 = true :=
  (Spec.applies_iff w_frames).mpr ⟨w_running, w_runnable, w_alone, w_named, w_hears, w_ripe, w_room, w_tables⟩
theorem atStart : AtStart classFile x code maxLocals ret World_1 tables_1 room_1 Calls_1 rest_1 Pre_1 launch0 p0 e0 about1 theMethod args0 below0 :=
  ⟨lists_1, trivial, launch0.admits_env _ _ _, launch0.least_env, fairChoices_fair.cas, fairChoices_fair.clock, w_frames, w_args, w_heap, w_applies, trivial, trivial, w_case⟩
end start1
theorem witness_1 : WitnessClaimed_1 := ⟨start1.p0, start1.e0, start1.about1, start1.theMethod, start1.args0, start1.below0, start1.atStart⟩
end Jvm.Pilot.@@N@@
