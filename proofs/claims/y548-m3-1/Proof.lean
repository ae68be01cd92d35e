import JvmDerived
import JvmDerived.Pilot.@@N@@Statement
import JvmDerived.Pilot.@@N@@Code
set_option linter.unusedVariables false
set_option linter.unusedSimpArgs false
namespace Jvm.Pilot.@@N@@
open Jvm Jvm.ClassFile Sem Op Lib Jvm.Free Jvm.Stand Jvm.LawKit Jvm.RoadKit Bundle Jvm.Pilot.@@N@@.Jvm.D
section OwnKit
variable {p : Program} {l : Launch} {e : Env} {R : Room} {s : State} {m : MethodId} {args : Array Value} {below : List Frame} {meth : Method} {c : Code} {T T' : State} {locs : List Loc} {cells slots kc kn : Nat} {Q : Option Value → Heap → List Loc → Prop} {f f' : JFrame} {pc q q' : Nat} {Ls Ls' : Array Slot} {st : List Value} {Z : State} {a0 : Array Value} {h : Heap} {by' : ByteArray} {ml : Nat} {own nm : String} {ret : Option FieldType}
/-- from this state, with this frame on top, the body returns as Q says -/
def Run (p : Program) (e : Env) (below : List Frame) (s : State) (kc kn : Nat) (Q : Option Value → Heap → List Loc → Prop) (T : State) (f : JFrame) : Prop :=
  ∃ t o, Steps p.tables e below (T.setTop f) t ∧ t.status = .running ∧ Ended t below o ∧ ∃ v L, o = .returned v ∧ Q v t.heap L ∧ FrameEnd s o t L kc kn
theorem Run.by (st : ∀ t, Steps p.tables e below (T'.setTop f') t → Steps p.tables e below (T.setTop f) t) (k : Run p e below s kc kn Q T' f') : Run p e below s kc kn Q T f := by
  obtain ⟨t, o, h1, r⟩ := k
  exact ⟨t, o, st t h1, r⟩
theorem Run.on (k : Run p e below s kc kn Q T' f') (st : Steps p.tables e below (T.setTop f) (T'.setTop f')) : Run p e below s kc kn Q T f := k.by fun _ h1 => st.trans h1
/-- what a walk knows of its method throughout -/
def Fx (p : Program) (s : State) (m : MethodId) (meth : Method) (c : Code) (by' : ByteArray) (ml : Nat) (own nm : String) (ret : Option FieldType) (Z : State) : Prop :=
  p.tables.exec = Jvm.exec ∧ c.code = by' ∧ c.maxLocals = ml ∧ s.vm.findClass own = some m.cls ∧ Z.Warmed39 s.vm ∧ meth.sig.returnType = ret ∧ meth.locks = false ∧ meth.name = nm
def i2b (x : Int32) : Int32 := x.toInt8.toInt32
theorem k_iloadN (K : Fx p s m meth c by' ml own nm ret Z) (X : Stand p l e R s m args below meth c T locs cells slots) {k' : Fin 4} {v : Int32} (hd : decode by' pc = .ok (.iload_n k', 1)) (hl : Ls[k'.val]? = some (.val (.int v))) (hq : pc + 1 = q) (k : Run p e below s kc kn Q T (mkF m q Ls (.int v :: st))) : Run p e below s kc kn Q T (mkF m pc Ls st) := by
  subst hq; exact k.by fun t => XS.iloadN X.here K.1 rfl (hb K.2.1 hd) hl
theorem k_iload (K : Fx p s m meth c by' ml own nm ret Z) (X : Stand p l e R s m args below meth c T locs cells slots) {k' : Nat} {v : Int32} (hd : decode by' pc = .ok (.iload k', 2)) (hl : Ls[k']? = some (.val (.int v))) (hq : pc + 2 = q) (k : Run p e below s kc kn Q T (mkF m q Ls (.int v :: st))) : Run p e below s kc kn Q T (mkF m pc Ls st) := by
  subst hq; exact k.by fun t => XS.iload X.here K.1 rfl (hb K.2.1 hd) hl
theorem k_lloadN (K : Fx p s m meth c by' ml own nm ret Z) (X : Stand p l e R s m args below meth c T locs cells slots) {k' : Fin 4} {v : Int64} (hd : decode by' pc = .ok (.lload_n k', 1)) (hl : Ls[k'.val]? = some (.val (.long v))) (hq : pc + 1 = q) (k : Run p e below s kc kn Q T (mkF m q Ls (.long v :: st))) : Run p e below s kc kn Q T (mkF m pc Ls st) := by
  subst hq; exact k.by fun t => XS.lloadN X.here K.1 rfl (hb K.2.1 hd) hl
theorem k_aloadN (K : Fx p s m meth c by' ml own nm ret Z) (X : Stand p l e R s m args below meth c T locs cells slots) {k' : Fin 4} {v : Value} (hd : decode by' pc = .ok (.aload_n k', 1)) (hl : Ls[k'.val]? = some (.val v)) (hv : v.isRef = true) (hq : pc + 1 = q) (k : Run p e below s kc kn Q T (mkF m q Ls (v :: st))) : Run p e below s kc kn Q T (mkF m pc Ls st) := by
  subst hq; exact k.by fun t => XS.aloadN X.here K.1 rfl (hb K.2.1 hd) hl hv
theorem k_aload (K : Fx p s m meth c by' ml own nm ret Z) (X : Stand p l e R s m args below meth c T locs cells slots) {k' : Nat} {v : Value} (hd : decode by' pc = .ok (.aload k', 2)) (hl : Ls[k']? = some (.val v)) (hv : v.isRef = true) (hq : pc + 2 = q) (k : Run p e below s kc kn Q T (mkF m q Ls (v :: st))) : Run p e below s kc kn Q T (mkF m pc Ls st) := by
  subst hq; exact k.by fun t => XS.aload X.here K.1 rfl (hb K.2.1 hd) hl hv
theorem k_istore (K : Fx p s m meth c by' ml own nm ret Z) (X : Stand p l e R s m args below meth c T locs cells slots) {k' : Nat} {v x : Int32} (hd : decode by' pc = .ok (.istore k', 2)) (hv : x = v) (hl : storeLocals Ls k' (.int v) = some Ls') (hq : pc + 2 = q) (k : Run p e below s kc kn Q T (mkF m q Ls' st)) : Run p e below s kc kn Q T (mkF m pc Ls (.int x :: st)) := by
  subst hq hv; exact k.by fun t => XS.istore X.here K.1 rfl (hb K.2.1 hd) rfl hl
theorem k_astore (K : Fx p s m meth c by' ml own nm ret Z) (X : Stand p l e R s m args below meth c T locs cells slots) {k' : Nat} {v : Value} (hd : decode by' pc = .ok (.astore k', 2)) (hv : v.isRef = true) (hl : storeLocals Ls k' v = some Ls') (hq : pc + 2 = q) (k : Run p e below s kc kn Q T (mkF m q Ls' st)) : Run p e below s kc kn Q T (mkF m pc Ls (v :: st)) := by
  subst hq; exact k.by fun t => XS.astore X.here K.1 rfl (hb K.2.1 hd) rfl hv hl
theorem k_iconst (K : Fx p s m meth c by' ml own nm ret Z) (X : Stand p l e R s m args below meth c T locs cells slots) {i : Int} {v : Int32} (hd : decode by' pc = .ok (.iconst i, 1)) (hv : Int32.ofInt i = v) (hq : pc + 1 = q) (k : Run p e below s kc kn Q T (mkF m q Ls (.int v :: st))) : Run p e below s kc kn Q T (mkF m pc Ls st) := by
  subst hq hv; exact k.by fun t => XS.iconst X.here K.1 rfl (hb K.2.1 hd)
theorem k_bipush (K : Fx p s m meth c by' ml own nm ret Z) (X : Stand p l e R s m args below meth c T locs cells slots) {i : Int} {v : Int32} (hd : decode by' pc = .ok (.bipush i, 2)) (hv : (Int8.ofInt i).toInt32 = v) (hq : pc + 2 = q) (k : Run p e below s kc kn Q T (mkF m q Ls (.int v :: st))) : Run p e below s kc kn Q T (mkF m pc Ls st) := by
  subst hq hv; exact k.by fun t => XS.bipush X.here K.1 rfl (hb K.2.1 hd)
theorem k_aconst_null (K : Fx p s m meth c by' ml own nm ret Z) (X : Stand p l e R s m args below meth c T locs cells slots)  (hd : decode by' pc = .ok (.aconst_null, 1)) (hq : pc + 1 = q) (k : Run p e below s kc kn Q T (mkF m q Ls (.null :: st))) : Run p e below s kc kn Q T (mkF m pc Ls st) := by
  subst hq; exact k.by fun t => XS.aconstNull X.here K.1 rfl (hb K.2.1 hd)
theorem k_iand (K : Fx p s m meth c by' ml own nm ret Z) (X : Stand p l e R s m args below meth c T locs cells slots) {x y : Int32} (hd : decode by' pc = .ok (.iand, 1)) (hq : pc + 1 = q) (k : Run p e below s kc kn Q T (mkF m q Ls (.int (x &&& y) :: st))) : Run p e below s kc kn Q T (mkF m pc Ls (.int y :: .int x :: st)) := by
  subst hq; exact k.by fun t => XS.iand X.here K.1 rfl (hb K.2.1 hd) rfl
theorem k_ixor (K : Fx p s m meth c by' ml own nm ret Z) (X : Stand p l e R s m args below meth c T locs cells slots) {x y : Int32} (hd : decode by' pc = .ok (.ixor, 1)) (hq : pc + 1 = q) (k : Run p e below s kc kn Q T (mkF m q Ls (.int (x ^^^ y) :: st))) : Run p e below s kc kn Q T (mkF m pc Ls (.int y :: .int x :: st)) := by
  subst hq; exact k.by fun t => XS.ixor X.here K.1 rfl (hb K.2.1 hd) rfl
theorem k_i2b (K : Fx p s m meth c by' ml own nm ret Z) (X : Stand p l e R s m args below meth c T locs cells slots) {x : Int32} (hd : decode by' pc = .ok (.i2b, 1)) (hq : pc + 1 = q) (k : Run p e below s kc kn Q T (mkF m q Ls (.int (i2b x) :: st))) : Run p e below s kc kn Q T (mkF m pc Ls (.int x :: st)) := by
  subst hq; exact k.by fun t => XS.i2b X.here K.1 rfl (hb K.2.1 hd) rfl
theorem k_irem (K : Fx p s m meth c by' ml own nm ret Z) (X : Stand p l e R s m args below meth c T locs cells slots) {x y : Int32} (hd : decode by' pc = .ok (.irem, 1)) (hy : y ≠ 0) (hq : pc + 1 = q) (k : Run p e below s kc kn Q T (mkF m q Ls (.int (x % y) :: st))) : Run p e below s kc kn Q T (mkF m pc Ls (.int y :: .int x :: st)) := by
  subst hq; exact k.by fun t => iremM X K.1 rfl (hb K.2.1 hd) rfl hy
theorem k_dup (K : Fx p s m meth c by' ml own nm ret Z) (X : Stand p l e R s m args below meth c T locs cells slots) {v : Value} (hd : decode by' pc = .ok (.dup, 1)) (hc : v.category = 1) (hq : pc + 1 = q) (k : Run p e below s kc kn Q T (mkF m q Ls (v :: v :: st))) : Run p e below s kc kn Q T (mkF m pc Ls (v :: st)) := by
  subst hq; exact k.by fun t => XS.dup X.here K.1 rfl (hb K.2.1 hd) rfl hc
theorem k_goto (K : Fx p s m meth c by' ml own nm ret Z) (X : Stand p l e R s m args below meth c T locs cells slots) {o : Int} (hd : decode by' pc = .ok (.goto o, 3)) (ho : 0 ≤ (pc : Int) + o) (hq : ((pc : Int) + o).toNat = q) (k : Run p e below s kc kn Q T (mkF m q Ls st)) : Run p e below s kc kn Q T (mkF m pc Ls st) := k.by fun t => XS.goto X.here K.1 rfl rfl (hb K.2.1 hd) ho hq
theorem k_if_eq_n (K : Fx p s m meth c by' ml own nm ret Z) (X : Stand p l e R s m args below meth c T locs cells slots) {x : Int32} {o : Int} (hd : decode by' pc = .ok (.ifCond .eq o, 3)) (hc : ¬ x = 0) (hq : pc + 3 = q) (k : Run p e below s kc kn Q T (mkF m q Ls st)) : Run p e below s kc kn Q T (mkF m pc Ls (.int x :: st)) := by
  subst hq; exact k.by fun t => XS.ifNo X.here K.1 rfl (hb K.2.1 hd) rfl ((if0 _ _).trans (feq hc).1)
theorem k_icmp_eq_y (K : Fx p s m meth c by' ml own nm ret Z) (X : Stand p l e R s m args below meth c T locs cells slots) {x y : Int32} {o : Int} (hd : decode by' pc = .ok (.if_icmp .eq o, 3)) (hc : x = y) (ho : 0 ≤ (pc : Int) + o) (hq : ((pc : Int) + o).toNat = q) (k : Run p e below s kc kn Q T (mkF m q Ls st)) : Run p e below s kc kn Q T (mkF m pc Ls (.int y :: .int x :: st)) := k.by fun t => XS.icmpYes X.here K.1 rfl rfl (hb K.2.1 hd) rfl (teq hc).1 ho hq
theorem k_if_ne_y (K : Fx p s m meth c by' ml own nm ret Z) (X : Stand p l e R s m args below meth c T locs cells slots) {x : Int32} {o : Int} (hd : decode by' pc = .ok (.ifCond .ne o, 3)) (hc : ¬ x = 0) (ho : 0 ≤ (pc : Int) + o) (hq : ((pc : Int) + o).toNat = q) (k : Run p e below s kc kn Q T (mkF m q Ls st)) : Run p e below s kc kn Q T (mkF m pc Ls (.int x :: st)) := k.by fun t => XS.ifYes X.here K.1 rfl rfl (hb K.2.1 hd) rfl ((if0 _ _).trans (feq hc).2) ho hq
theorem k_if_ne_n (K : Fx p s m meth c by' ml own nm ret Z) (X : Stand p l e R s m args below meth c T locs cells slots) {x : Int32} {o : Int} (hd : decode by' pc = .ok (.ifCond .ne o, 3)) (hc : x = 0) (hq : pc + 3 = q) (k : Run p e below s kc kn Q T (mkF m q Ls st)) : Run p e below s kc kn Q T (mkF m pc Ls (.int x :: st)) := by
  subst hq; exact k.by fun t => XS.ifNo X.here K.1 rfl (hb K.2.1 hd) rfl ((if0 _ _).trans (teq hc).2)
theorem k_if_ne (K : Fx p s m meth c by' ml own nm ret Z) (X : Stand p l e R s m args below meth c T locs cells slots) {x : Int32} {o : Int} (hd : decode by' pc = .ok (.ifCond .ne o, 3)) (ho : 0 ≤ (pc : Int) + o) (hq : ((pc : Int) + o).toNat = q) (hq' : pc + 3 = q') (ky : ¬ x = 0 → Run p e below s kc kn Q T (mkF m q Ls st)) (kno : x = 0 → Run p e below s kc kn Q T (mkF m q' Ls st)) : Run p e below s kc kn Q T (mkF m pc Ls (.int x :: st)) := by
  by_cases hc : x = 0
  · exact k_if_ne_n K X hd hc hq' (kno hc)
  · exact k_if_ne_y K X hd hc ho hq (ky hc)
theorem k_icmp_ne_y (K : Fx p s m meth c by' ml own nm ret Z) (X : Stand p l e R s m args below meth c T locs cells slots) {x y : Int32} {o : Int} (hd : decode by' pc = .ok (.if_icmp .ne o, 3)) (hc : ¬ x = y) (ho : 0 ≤ (pc : Int) + o) (hq : ((pc : Int) + o).toNat = q) (k : Run p e below s kc kn Q T (mkF m q Ls st)) : Run p e below s kc kn Q T (mkF m pc Ls (.int y :: .int x :: st)) := k.by fun t => XS.icmpYes X.here K.1 rfl rfl (hb K.2.1 hd) rfl (feq hc).2 ho hq
theorem k_icmp_ne_n (K : Fx p s m meth c by' ml own nm ret Z) (X : Stand p l e R s m args below meth c T locs cells slots) {x y : Int32} {o : Int} (hd : decode by' pc = .ok (.if_icmp .ne o, 3)) (hc : x = y) (hq : pc + 3 = q) (k : Run p e below s kc kn Q T (mkF m q Ls st)) : Run p e below s kc kn Q T (mkF m pc Ls (.int y :: .int x :: st)) := by
  subst hq; exact k.by fun t => XS.icmpNo X.here K.1 rfl (hb K.2.1 hd) rfl (teq hc).2
theorem k_icmp_ne (K : Fx p s m meth c by' ml own nm ret Z) (X : Stand p l e R s m args below meth c T locs cells slots) {x y : Int32} {o : Int} (hd : decode by' pc = .ok (.if_icmp .ne o, 3)) (ho : 0 ≤ (pc : Int) + o) (hq : ((pc : Int) + o).toNat = q) (hq' : pc + 3 = q') (ky : ¬ x = y → Run p e below s kc kn Q T (mkF m q Ls st)) (kno : x = y → Run p e below s kc kn Q T (mkF m q' Ls st)) : Run p e below s kc kn Q T (mkF m pc Ls (.int y :: .int x :: st)) := by
  by_cases hc : x = y
  · exact k_icmp_ne_n K X hd hc hq' (kno hc)
  · exact k_icmp_ne_y K X hd hc ho hq (ky hc)
theorem k_icmp_lt_y (K : Fx p s m meth c by' ml own nm ret Z) (X : Stand p l e R s m args below meth c T locs cells slots) {x y : Int32} {o : Int} (hd : decode by' pc = .ok (.if_icmp .lt o, 3)) (hc : x < y) (ho : 0 ≤ (pc : Int) + o) (hq : ((pc : Int) + o).toNat = q) (k : Run p e below s kc kn Q T (mkF m q Ls st)) : Run p e below s kc kn Q T (mkF m pc Ls (.int y :: .int x :: st)) := k.by fun t => XS.icmpYes X.here K.1 rfl rfl (hb K.2.1 hd) rfl (tlt hc).1 ho hq
theorem k_icmp_lt_n (K : Fx p s m meth c by' ml own nm ret Z) (X : Stand p l e R s m args below meth c T locs cells slots) {x y : Int32} {o : Int} (hd : decode by' pc = .ok (.if_icmp .lt o, 3)) (hc : ¬ x < y) (hq : pc + 3 = q) (k : Run p e below s kc kn Q T (mkF m q Ls st)) : Run p e below s kc kn Q T (mkF m pc Ls (.int y :: .int x :: st)) := by
  subst hq; exact k.by fun t => XS.icmpNo X.here K.1 rfl (hb K.2.1 hd) rfl (flt hc).1
theorem k_if_le_y (K : Fx p s m meth c by' ml own nm ret Z) (X : Stand p l e R s m args below meth c T locs cells slots) {x : Int32} {o : Int} (hd : decode by' pc = .ok (.ifCond .le o, 3)) (hc : ¬ 0 < x) (ho : 0 ≤ (pc : Int) + o) (hq : ((pc : Int) + o).toNat = q) (k : Run p e below s kc kn Q T (mkF m q Ls st)) : Run p e below s kc kn Q T (mkF m pc Ls (.int x :: st)) := k.by fun t => XS.ifYes X.here K.1 rfl rfl (hb K.2.1 hd) rfl ((if0 _ _).trans (flt hc).2.2.2) ho hq
theorem k_if_le_n (K : Fx p s m meth c by' ml own nm ret Z) (X : Stand p l e R s m args below meth c T locs cells slots) {x : Int32} {o : Int} (hd : decode by' pc = .ok (.ifCond .le o, 3)) (hc : 0 < x) (hq : pc + 3 = q) (k : Run p e below s kc kn Q T (mkF m q Ls st)) : Run p e below s kc kn Q T (mkF m pc Ls (.int x :: st)) := by
  subst hq; exact k.by fun t => XS.ifNo X.here K.1 rfl (hb K.2.1 hd) rfl ((if0 _ _).trans (tlt hc).2.2.2)
theorem k_ifnull_n (K : Fx p s m meth c by' ml own nm ret Z) (X : Stand p l e R s m args below meth c T locs cells slots) {a : Addr} {o : Int} (hd : decode by' pc = .ok (.ifnull o, 3)) (hq : pc + 3 = q) (k : Run p e below s kc kn Q T (mkF m q Ls st)) : Run p e below s kc kn Q T (mkF m pc Ls (.ref a :: st)) := by
  subst hq; exact k.by fun t => XS.ifnullNo X.here K.1 rfl (hb K.2.1 hd) rfl
theorem k_ifnonnull_y (K : Fx p s m meth c by' ml own nm ret Z) (X : Stand p l e R s m args below meth c T locs cells slots) {a : Addr} {o : Int} (hd : decode by' pc = .ok (.ifnonnull o, 3)) (ho : 0 ≤ (pc : Int) + o) (hq : ((pc : Int) + o).toNat = q) (k : Run p e below s kc kn Q T (mkF m q Ls st)) : Run p e below s kc kn Q T (mkF m pc Ls (.ref a :: st)) := k.by fun t => XS.ifnonnullYes X.here K.1 rfl rfl (hb K.2.1 hd) rfl ho hq
theorem k_ifnonnull_n (K : Fx p s m meth c by' ml own nm ret Z) (X : Stand p l e R s m args below meth c T locs cells slots) {o : Int} (hd : decode by' pc = .ok (.ifnonnull o, 3)) (hq : pc + 3 = q) (k : Run p e below s kc kn Q T (mkF m q Ls st)) : Run p e below s kc kn Q T (mkF m pc Ls (.null :: st)) := by
  subst hq; exact k.by fun t => XS.ifnonnullNo X.here K.1 rfl (hb K.2.1 hd) rfl
theorem k_acmp (K : Fx p s m meth c by' ml own nm ret Z) (X : Stand p l e R s m args below meth c T locs cells slots) {cd : ACond} {x y : Value} {o : Int} {same : Bool} (hd : decode by' pc = .ok (.if_acmp cd o, 3)) (h1 : x.isRef = true) (h2 : y.isRef = true) (hs : decide (x = y) = same) (ho : 0 ≤ (pc : Int) + o) (hq : q = if acV cd same = true then ((pc : Int) + o).toNat else pc + 3) (k : Run p e below s kc kn Q T (mkF m q Ls st)) : Run p e below s kc kn Q T (mkF m pc Ls (y :: x :: st)) := k.by fun t => Jvm.RoadKit.acmp X K.1 rfl h1 h2 rfl (hb K.2.1 hd) rfl hs ho hq
theorem k_retz (K : Fx p s m meth c by' ml own nm (some .boolean) Z) (X : Stand p l e R s m args below meth c T locs cells slots) {x : Int32} (eT : T.heap = h) (hd : decode by' pc = .ok (.ireturn, 1)) (hc : cells ≤ kc) (hn : slots ≤ kn) (hQ : Q (some (.int (nar .boolean x))) h locs) : Run p e below s kc kn Q T (mkF m pc Ls [.int x]) := by
  subst eT
  have hlk := K.2.2.2.2.2.2.1
  obtain ⟨fs, hr, hrun, hended, hW, hsame⟩ := X.leave (v := (some (.int (nar .boolean x)))) (fun z => by rw [K.2.2.2.2.2.1] at z; cases z)
  exact ⟨_, _, retN X K.1 K.2.2.2.2.2.1 (by simp) (hb K.2.1 hd) hr, hrun, hended, _, _, rfl, hQ, ⟨_, rfl⟩, hW, hsame.mono hc hn⟩
theorem k_retv (K : Fx p s m meth c by' ml own nm none Z) (X : Stand p l e R s m args below meth c T locs cells slots)  (eT : T.heap = h) (hd : decode by' pc = .ok (.return_, 1)) (hc : cells ≤ kc) (hn : slots ≤ kn) (hQ : Q none h locs) : Run p e below s kc kn Q T (mkF m pc Ls []) := by
  subst eT
  have hlk := K.2.2.2.2.2.2.1
  obtain ⟨fs, hr, hrun, hended, hW, hsame⟩ := X.leave (v := none) (fun _ => rfl)
  exact ⟨_, _, X.returnOut K.1 K.2.2.2.2.2.1 (hb K.2.1 hd) hr, hrun, hended, _, _, rfl, hQ, ⟨_, rfl⟩, hW, hsame.mono hc hn⟩
theorem k_reta {rt : FieldType} (K : Fx p s m meth c by' ml own nm (some rt) Z) (X : Stand p l e R s m args below meth c T locs cells slots) {x : Value} (eT : T.heap = h) (hd : decode by' pc = .ok (.areturn, 1)) (ht : rt.isReference = true) (hx : x.isRef = true) (hc : cells ≤ kc) (hn : slots ≤ kn) (hQ : Q (some x) h locs) : Run p e below s kc kn Q T (mkF m pc Ls [x]) := by
  subst eT
  have hlk := K.2.2.2.2.2.2.1
  obtain ⟨fs, hr, hrun, hended, hW, hsame⟩ := X.leave (v := some x) (fun z => by rw [K.2.2.2.2.2.1] at z; cases z)
  exact ⟨_, _, retOut X K.1 K.2.2.2.2.2.1 (by cases rt <;> first | (cases ht; done) | rfl) (Or.inr (Or.inr (Or.inr (Or.inr ⟨rfl, ht, hx⟩)))) (hb K.2.1 hd) hr, hrun, hended, _, _, rfl, hQ, ⟨_, rfl⟩, hW, hsame.mono hc hn⟩
/-- a contract: with these arguments over this heap the body returns as Q says, within the room -/
abbrev Met (l : Launch) (y : MethodName) (bytes : ByteArray) (maxL : Nat) (ret : Option FieldType) (ws : List Jvm.Cond) (rm : Room) (Z : State) (as' : Array Value) (h0 : Heap) (Q : Option Value → Heap → List Loc → Prop) : Prop :=
  MetFree l y (head1 (Jvm.Cond.code y bytes maxL ret :: ws) rm) (fun a U => a = as' ∧ Z.Warmed39 U.vm ∧ U.heap = h0) (fun _ _ _ _ _ => True) (fun _ U o U' => ∃ v L, o = .returned v ∧ Q v U'.heap L ∧ FrameEnd U o U' L rm.cells rm.slots)
theorem enter {y : MethodName} {bytes : ByteArray} {maxL : Nat} {ws : List Jvm.Cond} {rm : Room} {as' : Array Value} {h0 : Heap} (hpl : plainFor y = true) (hef : ∀ m, entryFrame m as' maxL = mkF m 0 Ls [])
    (body : ∀ p e s m below meth c T kc kn Q', rm.cells ≤ kc → rm.slots ≤ kn → (∀ v h L, Q v h L → Q' v h L) → Fx p s m meth c bytes maxL y.cls y.name ret Z → Stand p l e rm s m as' below meth c T [] 0 0 → T.heap = h0 → Run p e below s kc kn Q' T (mkF m 0 Ls [])) : Met l y bytes maxL ret ws rm Z as' h0 Q := by
  refine MetFree.of_bodySF hpl hisR ?_
  intro p e s m args below meth c s₁ Bd hml0 hP hK
  obtain ⟨rfl, hZ, hh⟩ := hP
  obtain ⟨t, o, h1, h2, h3, v, L, h4, h5, h6⟩ := body p e s m below meth c s₁ _ _ Q (Nat.le_refl _) (Nat.le_refl _) (fun _ _ _ z => z) ⟨Bd.exec, Bd.bytes, hml0, findClass_of_methodNamed Bd.named, hZ, Bd.returns, BodyLoose.notSynchronized Bd, (name_of_methodNamed Bd.named Bd.method).1⟩ (Stand.of_body Bd) (by rw [← hh, Bd.state]; rfl)
  exact ⟨t, o, castTop (hef m) h1, h2, h3, v, L, h4, h5, h6⟩
theorem k_static (K : Fx p s m meth c by' ml own nm ret Z) (X : Stand p l e R s m args below meth c T locs cells slots) (eT : T.heap = h) {y : MethodName} {bytes : ByteArray} {maxL i W : Nat} {rt : Option FieldType} {rm : Room} {as' : Array Value} {Q' : Option Value → Heap → List Loc → Prop}
    (hd : decode by' pc = .ok (.invokestatic i, 3)) (w1 : (Cond.methodLink own i y).before a0 Z = true) (w2 : (Cond.static y).before a0 Z = true) (w3 : (Cond.initialized y.cls).before a0 Z = true) (w4 : (Cond.code y bytes maxL rt).before a0 Z = true) (hy : y.cls ≠ "java/lang/invoke/MethodHandle" ∧ y.cls ≠ "java/lang/invoke/VarHandle")
    (hM : Met l y bytes maxL rt [] rm Z as' h Q') (hf : rm.frames + 1 ≤ R.frames) (hl : W + (maxL + 11) + rm.locals ≤ R.locals) (hc : cells + rm.cells ≤ R.cells) (hn : slots + rm.slots ≤ R.slots) (hsz : Ls.size = ml)
    {sig : MethodDescriptor} (hdesc : parseMethodDescriptor y.desc = some sig) {argsL rest : List Value} (ha : as' = argsL.toArray) (hlen : argsL.length = sig.parameters.length) (hst : st = argsL.reverse ++ rest) (hW : (rest.map fun v => v.category).sum ≤ W) (hq : pc + 3 = q)
    (k : ∀ v T' L, Stand p l e R s m args below meth c T' (locs ++ L) (cells + rm.cells) (slots + rm.slots) → Q' v T'.heap L → Run p e below s kc kn Q T' (mkF m q Ls (v.toList ++ rest))) : Run p e below s kc kn Q T (mkF m pc Ls st) := by
  have hZ := K.2.2.2.2.1
  subst hq
  obtain ⟨v, _, ⟨T2, L2, k2, n2⟩, -, X2, ⟨Lc, hQ2, l2, y2, z2⟩, st2⟩ := Jvm.LawKit.callS X K.1 (y := y) K.2.2.2.1 (mvT hZ w1) (mvT hZ w2) (mvT hZ w3) (mvT hZ w4) hy (backOf (W := W) hM hZ w4 w3 hf hl) (g := mkF m pc Ls st) rfl (by rw [K.2.2.1]; exact hsz) (argsL := argsL) (rest := rest) (fun sg hs => by cases hdesc.symm.trans hs; exact hlen) hst (by show 2 * 0 + _ ≤ _; omega) (hb K.2.1 hd) (fun _ _ => ⟨ha.symm, eT, hc, hn⟩)
  dsimp only [Pt.U, Pt.locs, Pt.cells, Pt.slots] at X2 l2 y2 z2 st2 hQ2
  subst l2 y2 z2
  exact (k v T2 Lc X2 hQ2).by st2
/-- a static callee that leaves the heap as it was -/
theorem k_staticP (K : Fx p s m meth c by' ml own nm ret Z) (X : Stand p l e R s m args below meth c T locs cells slots) (eT : T.heap = h) {y : MethodName} {bytes : ByteArray} {maxL i W fr lo : Nat} {rt : Option FieldType} {as' : Array Value} {w : Value}
    (hd : decode by' pc = .ok (.invokestatic i, 3)) (w1 : (Cond.methodLink own i y).before a0 Z = true) (w2 : (Cond.static y).before a0 Z = true) (w3 : (Cond.initialized y.cls).before a0 Z = true) (w4 : (Cond.code y bytes maxL rt).before a0 Z = true) (hy : y.cls ≠ "java/lang/invoke/MethodHandle" ∧ y.cls ≠ "java/lang/invoke/VarHandle")
    (hM : Met l y bytes maxL rt [] { frames := fr, cells := 0, slots := 0, locals := lo } Z as' h (fun v h' L => v = some w ∧ h' = h ∧ L = [])) (hf : fr + 1 ≤ R.frames) (hl : W + (maxL + 11) + lo ≤ R.locals) (hc : cells ≤ R.cells) (hn : slots ≤ R.slots) (hsz : Ls.size = ml)
    {sig : MethodDescriptor} (hdesc : parseMethodDescriptor y.desc = some sig) {argsL rest : List Value} (ha : as' = argsL.toArray) (hlen : argsL.length = sig.parameters.length) (hst : st = argsL.reverse ++ rest) (hW : (rest.map fun v => v.category).sum ≤ W) (hq : pc + 3 = q)
    (k : ∀ T', Stand p l e R s m args below meth c T' locs cells slots → T'.heap = h → Run p e below s kc kn Q T' (mkF m q Ls (w :: rest))) : Run p e below s kc kn Q T (mkF m pc Ls st) := by
  refine k_static K X eT hd w1 w2 w3 w4 hy hM hf hl hc hn hsz hdesc ha hlen hst hW hq ?_
  rintro v T' L X' ⟨rfl, h2, rfl⟩
  rw [List.append_nil] at X'
  exact k T' X' h2
theorem k_special (K : Fx p s m meth c by' ml own nm ret Z) (X : Stand p l e R s m args below meth c T locs cells slots) (eT : T.heap = h) {y : MethodName} {bytes : ByteArray} {maxL i W : Nat} {rm : Room} {as' : Array Value} {Q' : Option Value → Heap → List Loc → Prop} {a : Addr}
    (hd : decode by' pc = .ok (.invokespecial i, 3)) (hy1 : y.name = "<init>") (w1 : (Cond.methodLink own i y).before a0 Z = true) (w2 : (Cond.instanceMethod y).before a0 Z = true) (w3 : (Cond.initialized y.cls).before a0 Z = true) (w4 : (Cond.code y bytes maxL none).before a0 Z = true) (hy : y.cls ≠ "java/lang/invoke/MethodHandle" ∧ y.cls ≠ "java/lang/invoke/VarHandle")
    (hM : Met l y bytes maxL none [] rm Z as' h Q') (hf : rm.frames + 1 ≤ R.frames) (hl : W + (maxL + 11) + rm.locals ≤ R.locals) (hc : cells + rm.cells ≤ R.cells) (hn : slots + rm.slots ≤ R.slots) (hsz : Ls.size = ml)
    {sig : MethodDescriptor} (hdesc : parseMethodDescriptor y.desc = some sig) {argsL rest : List Value} (ha : as' = (.ref a :: argsL).toArray) (hlen : argsL.length = sig.parameters.length) (hst : st = argsL.reverse ++ .ref a :: rest) (hW : (rest.map fun v => v.category).sum ≤ W) (hq : pc + 3 = q)
    (k : ∀ v T' L, Stand p l e R s m args below meth c T' (locs ++ L) (cells + rm.cells) (slots + rm.slots) → Q' v T'.heap L → Run p e below s kc kn Q T' (mkF m q Ls (v.toList ++ rest))) : Run p e below s kc kn Q T (mkF m pc Ls st) := by
  have hZ := K.2.2.2.2.1
  subst hq
  obtain ⟨v, _, ⟨T2, L2, k2, n2⟩, -, X2, ⟨Lc, hQ2, l2, y2, z2⟩, st2⟩ := X.specialBack K.1 (y := y) hy1 K.2.2.2.1 (mvT hZ w1) (mvT hZ w2) (mvT hZ w4) hy (backOf (W := W) hM hZ w4 w3 hf hl) (g := mkF m pc Ls st) rfl (by rw [K.2.2.1]; exact hsz) (Steps.refl _) (a := a) (argsL := argsL) (rest := rest) (fun sg hs => by cases hdesc.symm.trans hs; exact hlen) hst (by show 2 * 0 + _ ≤ _; omega) (hb K.2.1 hd) (fun _ _ => ⟨ha.symm, eT, hc, hn⟩)
  dsimp only [Pt.U, Pt.locs, Pt.cells, Pt.slots] at X2 l2 y2 z2 st2 hQ2
  subst l2 y2 z2
  exact (k v T2 Lc X2 hQ2).on st2
theorem k_virtual (K : Fx p s m meth c by' ml own nm ret Z) (X : Stand p l e R s m args below meth c T locs cells slots) (eT : T.heap = h) {y : MethodName} {bytes : ByteArray} {maxL i W : Nat} {rt : Option FieldType} {rm : Room} {as' : Array Value} {Q' : Option Value → Heap → List Loc → Prop} {a : Addr}
    (hd : decode by' pc = .ok (.invokevirtual i, 3)) (w1 : (Cond.methodLink own i y).before a0 Z = true) (w2 : (Cond.declares y).before a0 Z = true) (w5 : (Cond.selects y.cls y y).before a0 Z = true) (w6 : (Cond.instanceMethod y).before a0 Z = true) (w3 : (Cond.initialized y.cls).before a0 Z = true) (w4 : (Cond.code y bytes maxL rt).before a0 Z = true) (hy : y.cls ≠ "java/lang/invoke/MethodHandle" ∧ y.cls ≠ "java/lang/invoke/VarHandle")
    (hE : Exa Z h a y.cls) (hM : Met l y bytes maxL rt [] rm Z as' h Q') (hf : rm.frames + 1 ≤ R.frames) (hl : W + (maxL + 11) + rm.locals ≤ R.locals) (hc : cells + rm.cells ≤ R.cells) (hn : slots + rm.slots ≤ R.slots) (hsz : Ls.size = ml)
    {sig : MethodDescriptor} (hdesc : parseMethodDescriptor y.desc = some sig) {argsL rest : List Value} (ha : as' = (.ref a :: argsL).toArray) (hlen : argsL.length = sig.parameters.length) (hst : st = argsL.reverse ++ .ref a :: rest) (hW : (rest.map fun v => v.category).sum ≤ W) (hq : pc + 3 = q)
    (k : ∀ v T' L, Stand p l e R s m args below meth c T' (locs ++ L) (cells + rm.cells) (slots + rm.slots) → Q' v T'.heap L → Run p e below s kc kn Q T' (mkF m q Ls (v.toList ++ rest))) : Run p e below s kc kn Q T (mkF m pc Ls st) := by
  have hZ := K.2.2.2.2.1
  subst hq
  obtain ⟨cq, kq, qa, qb, qc⟩ := isOf hZ eT hE
  obtain ⟨v, _, ⟨T2, L2, k2, n2⟩, -, X2, ⟨Lc, hQ2, l2, y2, z2⟩, st2⟩ := X.virtualBack K.1 (y := y) (z := y) K.2.2.2.1 (mvT hZ w1) (mvT hZ w2) (notFace_of_selects (args := #[]) (mvT hZ w5)) (mvT hZ w5) (mvT hZ w6) hy (backOf (W := W) hM hZ w4 w3 hf hl) qa qc (g := mkF m pc Ls st) rfl (by rw [K.2.2.1]; exact hsz) (Steps.refl _) (argsL := argsL) (rest := rest) (fun sg hs => by cases hdesc.symm.trans hs; exact hlen) hst (by show 2 * 0 + _ ≤ _; omega) (hb K.2.1 hd) (fun _ _ => ⟨ha.symm, eT, hc, hn⟩)
  dsimp only [Pt.U, Pt.locs, Pt.cells, Pt.slots] at X2 l2 y2 z2 st2 hQ2
  subst l2 y2 z2
  exact (k v T2 Lc X2 hQ2).on st2
theorem k_initO (K : Fx p s m meth c by' ml own nm ret Z) (X : Stand p l e R s m args below meth c T locs cells slots) (eT : T.heap = h) {i W : Nat} {a : Addr} (hd : decode by' pc = .ok (.invokespecial i, 3)) (w1 : (Cond.methodLink own i Lib.objectInit).before a0 Z = true) (w2 : (Cond.instanceMethod Lib.objectInit).before a0 Z = true) (w3 : (Cond.code Lib.objectInit ⟨#[0xb1]⟩ 1 none).before a0 Z = true)
    (hsz : Ls.size = ml) (hf : 1 ≤ R.frames) (hW : (st.map fun v => v.category).sum ≤ W) (hl : W + 12 ≤ R.locals) (hq : pc + 3 = q)
    (k : ∀ T', Stand p l e R s m args below meth c T' locs cells slots → T'.heap = h → Run p e below s kc kn Q T' (mkF m q Ls st)) : Run p e below s kc kn Q T (mkF m pc Ls (.ref a :: st)) := by
  subst hq
  obtain ⟨T2, X2, e2, st2⟩ := initO X K.1 K.2.2.2.2.1 K.2.2.2.1 w1 w2 w3 eT (g := mkF m pc Ls (.ref a :: st)) rfl (by rw [K.2.2.1]; exact hsz) rfl (hb K.2.1 hd) hf (W := W) (by show 2 * 0 + _ ≤ _; omega) hl
  exact (k T2 X2 e2).by st2
theorem k_new (K : Fx p s m meth c by' ml own nm ret Z) (X : Stand p l e R s m args below meth c T locs cells slots) (eT : T.heap = h) {i n : Nat} {C : String} (hd : decode by' pc = .ok (.new i, 3)) (w1 : (Cond.classLink own i C).before a0 Z = true) (w2 : (Cond.instantiable C n).before a0 Z = true) (w3 : (Cond.initialized C).before a0 Z = true) (hc : cells + 1 ≤ R.cells) (hn : slots + n ≤ R.slots) (hq : pc + 3 = q)
    (k : ∀ T' h' a, Stand p l e R s m args below meth c T' locs (cells + 1) (slots + n) → T'.heap = h' → a = h.size → Ext h h' → Exa Z h' a C → (∀ {O fn d : String} {ty : FieldType}, Laid Z a0 C O fn d → parseFieldDescriptor d = some ty → Fld Z h' a O fn d (defaultValue ty)) → Run p e below s kc kn Q T' (mkF m q Ls (.ref a :: st))) : Run p e below s kc kn Q T (mkF m pc Ls st) := by
  subst hq
  obtain ⟨T2, h2, X2, e2, E2, A2, D2, -, st2⟩ := newO X K.1 K.2.2.2.2.1 K.2.2.2.1 w1 w2 w3 eT (g := mkF m pc Ls st) rfl (hb K.2.1 hd) hc hn
  exact (k T2 h2 h.size X2 e2 rfl E2 A2 D2).by st2
theorem k_getfield (K : Fx p s m meth c by' ml own nm ret Z) (X : Stand p l e R s m args below meth c T locs cells slots) (eT : T.heap = h) {i : Nat} {O fn d : String} {a : Addr} {v : Value} (hd : decode by' pc = .ok (.getfield i, 3)) (w : (Cond.fieldLink own i O fn d).before a0 Z = true) (F : Fld Z h a O fn d v) (hq : pc + 3 = q)
    (k : ∀ T', Stand p l e R s m args below meth c T' locs cells slots → T'.heap = h → Run p e below s kc kn Q T' (mkF m q Ls (v :: st))) : Run p e below s kc kn Q T (mkF m pc Ls (.ref a :: st)) := by
  subst hq
  obtain ⟨T2, X2, e2, st2⟩ := getF X K.1 K.2.2.2.2.1 K.2.2.2.1 (host := "") (Or.inl w) Via.refl eT F (g := mkF m pc Ls (.ref a :: st)) rfl rfl (hb K.2.1 hd)
  exact (k T2 X2 e2).by st2
theorem k_putfield (K : Fx p s m meth c by' ml own nm ret Z) (X : Stand p l e R s m args below meth c T locs cells slots) (eT : T.heap = h) {i n : Nat} {O C fn d : String} {ty : FieldType} {a : Addr} {v old : Value} (hd : decode by' pc = .ok (.putfield i, 3)) (w : (Cond.fieldLink own i O fn d).before a0 Z = true) (F : Fld Z h a O fn d old) (E : Exa Z h a C) (L : (Cond.lays C O fn d).before a0 Z = true ∨ ((Cond.laysFinal C O fn d).before a0 Z = true ∧ own = O ∧ nm = "<init>")) (wi : (Cond.instantiable C n).before a0 Z = true)
    (hty : parseFieldDescriptor d = some ty) (hnar : narrow ty v = v) (hfit : fits ty v = true) (hq : pc + 3 = q)
    (k : ∀ T' h', Stand p l e R s m args below meth c T' (locs ++ [⟨a, Jvm.RoadKit.slotOf Z O fn d⟩]) cells slots → T'.heap = h' → Wr h h' a (Jvm.RoadKit.slotOf Z O fn d) v → Run p e below s kc kn Q T' (mkF m q Ls st)) : Run p e below s kc kn Q T (mkF m pc Ls (v :: .ref a :: st)) := by
  subst hq
  obtain ⟨T2, h2, X2, e2, W2, st2⟩ := putF X K.1 K.2.2.2.2.1 K.2.2.2.1 (host := "") (Or.inl w) Via.refl eT F E (L.imp id fun z => ⟨z.1, z.2.1, K.2.2.2.2.2.2.2.trans z.2.2⟩) wi hty hnar hfit (g := mkF m pc Ls (v :: .ref a :: st)) rfl rfl (hb K.2.1 hd)
  exact (k T2 h2 X2 e2 W2).by st2
/-- an instance method that leaves the heap as it was -/
theorem k_virtualP (K : Fx p s m meth c by' ml own nm ret Z) (X : Stand p l e R s m args below meth c T locs cells slots) (eT : T.heap = h) {y : MethodName} {bytes : ByteArray} {maxL i W fr lo : Nat} {rt : Option FieldType} {as' : Array Value} {w : Value} {a : Addr}
    (hd : decode by' pc = .ok (.invokevirtual i, 3)) (w1 : (Cond.methodLink own i y).before a0 Z = true) (w2 : (Cond.declares y).before a0 Z = true) (w5 : (Cond.selects y.cls y y).before a0 Z = true) (w6 : (Cond.instanceMethod y).before a0 Z = true) (w3 : (Cond.initialized y.cls).before a0 Z = true) (w4 : (Cond.code y bytes maxL rt).before a0 Z = true) (hy : y.cls ≠ "java/lang/invoke/MethodHandle" ∧ y.cls ≠ "java/lang/invoke/VarHandle")
    (hE : Exa Z h a y.cls) (hM : Met l y bytes maxL rt [] { frames := fr, cells := 0, slots := 0, locals := lo } Z as' h (fun v h' L => v = some w ∧ h' = h ∧ L = [])) (hf : fr + 1 ≤ R.frames) (hl : W + (maxL + 11) + lo ≤ R.locals) (hc : cells ≤ R.cells) (hn : slots ≤ R.slots) (hsz : Ls.size = ml)
    {sig : MethodDescriptor} (hdesc : parseMethodDescriptor y.desc = some sig) {argsL rest : List Value} (ha : as' = (.ref a :: argsL).toArray) (hlen : argsL.length = sig.parameters.length) (hst : st = argsL.reverse ++ .ref a :: rest) (hW : (rest.map fun v => v.category).sum ≤ W) (hq : pc + 3 = q)
    (k : ∀ T', Stand p l e R s m args below meth c T' locs cells slots → T'.heap = h → Run p e below s kc kn Q T' (mkF m q Ls (w :: rest))) : Run p e below s kc kn Q T (mkF m pc Ls st) := by
  refine k_virtual K X eT hd w1 w2 w5 w6 w3 w4 hy hE hM hf hl hc hn hsz hdesc ha hlen hst hW hq ?_
  rintro v T' L X' ⟨rfl, h2, rfl⟩
  rw [List.append_nil] at X'
  exact k T' X' h2
/-- an array of n places; place i holds g i -/
def Ary (Z : State) (h : Heap) (a : Addr) (ty : FieldType) (n : Nat) (g : Nat → Value) : Prop := ∃ c : Cell, Arr Z h a c ty ∧ c.slots.size = n ∧ n < 2147483648 ∧ (∀ i, i < n → c.slots[i]? = some (g i)) ∧ ∀ i, i < n → fits ty (g i) = true
theorem Ary.lt {a : Addr} {ty : FieldType} {n : Nat} {g : Nat → Value} (F : Ary Z h a ty n g) : a < h.size := by obtain ⟨c, A, -⟩ := F; exact A.lt
theorem Ary.ext {h' : Heap} {a : Addr} {ty : FieldType} {n : Nat} {g : Nat → Value} (F : Ary Z h a ty n g) (E : Ext h h') : Ary Z h' a ty n g := by obtain ⟨c, A, r⟩ := F; exact ⟨c, A.ext E, r⟩
theorem Ary.other {h' : Heap} {a b : Addr} {ty : FieldType} {n sl : Nat} {v : Value} {g : Nat → Value} (F : Ary Z h b ty n g) (W : Wr h h' a sl v) (q : b ≠ a) : Ary Z h' b ty n g := by obtain ⟨c, A, r⟩ := F; exact ⟨c, A.other W q, r⟩
theorem Ary.keep {h' : Heap} {a : Addr} {ty : FieldType} {n : Nat} {g : Nat → Value} {ws : List Addr} (F : Ary Z h a ty n g) (K : Keep h h' ws) (q : a ∉ ws) : Ary Z h' a ty n g := by obtain ⟨c, A, r⟩ := F; exact ⟨c, ⟨K.2.1 a c A.1 q, A.2⟩, r⟩
theorem Ary.eqv {a : Addr} {ty : FieldType} {n : Nat} {g g' : Nat → Value} (F : Ary Z h a ty n g) (q : ∀ i, i < n → g i = g' i) : Ary Z h a ty n g' := by
  obtain ⟨c, A, r1, r2, r3, r4⟩ := F; exact ⟨c, A, r1, r2, fun i hi => by rw [← q i hi]; exact r3 i hi, fun i hi => by rw [← q i hi]; exact r4 i hi⟩
theorem Ary.set {h' : Heap} {a : Addr} {ty : FieldType} {n i : Nat} {v : Value} {g : Nat → Value} (F : Ary Z h a ty n g) (W : Wr h h' a i v) (hv : fits ty v = true) : Ary Z h' a ty n (fun k => if k = i then v else g k) := by
  obtain ⟨c, A, r1, r2, r3, r4⟩ := F
  obtain ⟨c', w1, w2, w3, w4⟩ := W
  cases A.1.symm.trans w1
  refine ⟨_, A.same ⟨c, w1, w2, w3, w4⟩, by rw [sz_set]; exact r1, r2, fun k hk => ?_, fun k hk => ?_⟩
  · show (c.setSlot i v).slots[k]? = some (if k = i then v else g k)
    by_cases q : k = i
    · subst q; simp [Cell.setSlot, w3]
    · rw [if_neg q]
      show (c.slots.setIfInBounds i v)[k]? = _
      rw [Array.getElem?_setIfInBounds_ne (Ne.symm q)]; exact r3 k hk
  · show fits ty (if k = i then v else g k) = true
    by_cases q : k = i
    · rw [if_pos q]; exact hv
    · rw [if_neg q]; exact r4 k hk
/-- the int j is the place i -/
abbrev Ix (j : Int32) (i : Nat) : Prop := ¬ j < 0 ∧ j.toNatClampNeg = i
theorem Ix.of {j : Int32} {i : Nat} (h : j.toInt = i) : Ix j i := by
  refine ⟨?_, ?_⟩
  · rw [Int32.lt_iff_toInt_lt, h]; have : (0 : Int32).toInt = 0 := rfl
    omega
  · simp only [Int32.toNatClampNeg, h]; omega
theorem Ix.inb {j : Int32} {i n : Nat} (hi : Ix j i) (hn : i < n) {cl : Cell} (hs : cl.slots.size = n) : ¬ (j < 0 ∨ cl.slots.size ≤ j.toNatClampNeg) := fun z => z.elim hi.1 fun z => by rw [hs, hi.2] at z; omega
theorem k_baload (K : Fx p s m meth c by' ml own nm ret Z) (X : Stand p l e R s m args below meth c T locs cells slots) (eT : T.heap = h) {a : Addr} {n i : Nat} {g : Nat → Value} {j : Int32} {v : Value} (hd : decode by' pc = .ok (.baload, 1)) (A : Ary Z h a .byte n g) (hi : Ix j i) (hn : i < n) (hg : g i = v) (hq : pc + 1 = q) (k : Run p e below s kc kn Q T (mkF m q Ls (v :: st))) : Run p e below s kc kn Q T (mkF m pc Ls (.int j :: .ref a :: st)) := by
  subst hq hg
  obtain ⟨c', A, r1, r2, r3, -⟩ := A
  exact k.by fun t => X.baloadBytes K.1 (j := j) (v := g i) (by rw [eT]; exact A.1) (State.isArrayOf_alike K.2.2.2.2.1.alike A.2.1) A.2.2 (hi.inb hn r1) (by rw [hi.2]; exact r3 i hn) (g := mkF m pc Ls (.int j :: .ref a :: st)) rfl rfl (hb K.2.1 hd) t
theorem k_bastore (K : Fx p s m meth c by' ml own nm ret Z) (X : Stand p l e R s m args below meth c T locs cells slots) (eT : T.heap = h) {a : Addr} {n i : Nat} {g : Nat → Value} {j : Int32} {x : Int32} (hd : decode by' pc = .ok (.bastore, 1)) (A : Ary Z h a .byte n g) (hi : Ix j i) (hn : i < n) (hq : pc + 1 = q)
    (k : ∀ T' h', Stand p l e R s m args below meth c T' (locs ++ [⟨a, i⟩]) cells slots → T'.heap = h' → Wr h h' a i (.int (nar .byte x)) → Ary Z h' a .byte n (fun k => if k = i then .int (nar .byte x) else g k) → Run p e below s kc kn Q T' (mkF m q Ls st)) : Run p e below s kc kn Q T (mkF m pc Ls (.int x :: .int j :: .ref a :: st)) := by
  subst hq
  have A0 := A
  obtain ⟨c', A, r1, r2, r3, -⟩ := A
  obtain ⟨T2, h2, X2, e2, W2, st2⟩ := stB X K.1 K.2.2.2.2.1 eT A (j := j) (hi.inb hn r1) (g := mkF m pc Ls (.int x :: .int j :: .ref a :: st)) rfl rfl (hb K.2.1 hd)
  rw [hi.2] at X2 W2
  exact (k T2 h2 X2 e2 W2 (A0.set W2 (fits_nar_byte x))).by st2
theorem k_arraylength (K : Fx p s m meth c by' ml own nm ret Z) (X : Stand p l e R s m args below meth c T locs cells slots) (eT : T.heap = h) {a : Addr} {ty : FieldType} {n : Nat} {g : Nat → Value} {v : Int32} (hd : decode by' pc = .ok (.arraylength, 1)) (A : Ary Z h a ty n g) (hv : n.toInt32 = v) (hq : pc + 1 = q) (k : Run p e below s kc kn Q T (mkF m q Ls (.int v :: st))) : Run p e below s kc kn Q T (mkF m pc Ls (.ref a :: st)) := by
  subst hq hv
  obtain ⟨c', A, r1, r2, r3, -⟩ := A
  subst r1
  exact k.by fun t => X.arraylength K.1 (by rw [eT]; exact A.1) (State.isArrayOf_alike K.2.2.2.2.1.alike A.2.1) (g := mkF m pc Ls (.ref a :: st)) rfl rfl (hb K.2.1 hd) t
theorem k_newarrayE (K : Fx p s m meth c by' ml own nm ret Z) (X : Stand p l e R s m args below meth c T locs cells slots) (eT : T.heap = h) {aty : ArrayType} {ty : FieldType} {z : Int32} {n cap : Nat} {ad : String} (hd : decode by' pc = .ok (.newarray aty, 2)) (hty : newarray.typeOf aty = ty) (had : "[" ++ ty.toString = ad) (w : (Cond.arrayClass ty).before a0 Z = true) (hz : Ix z n) (hcap : n ≤ cap) (h8 : cap * 8 ≤ 536870912) (hc : cells + 1 ≤ R.cells) (hn : slots + cap ≤ R.slots) (hq : pc + 2 = q)
    (k : ∀ T' h' a, Stand p l e R s m args below meth c T' locs (cells + 1) (slots + cap) → T'.heap = h' → a = h.size → Ext h h' → Ary Z h' a ty n (fun _ => defaultValue ty) → Exa Z h' a ad → Run p e below s kc kn Q T' (mkF m q Ls (.ref a :: st))) : Run p e below s kc kn Q T (mkF m pc Ls (.int z :: st)) := by
  subst hq hty
  obtain ⟨T2, h2, cA, X2, e2, E2, A2, E3, st2⟩ := newPE X K.1 K.2.2.2.2.1 w eT (g := mkF m pc Ls (.int z :: st)) rfl (hb K.2.1 hd) rfl hz.1 (cap := cap) (by rw [hz.2]; exact hcap) h8 hc hn had
  refine (k T2 h2 h.size X2 e2 rfl E2 ⟨_, A2, (sz_new _ _ _).trans hz.2, by omega, fun i hi => ?_, fun i _ => ?_⟩ E3).by st2
  · rw [← hz.2] at hi; simp [newA, hi]
  · cases aty <;> rfl
theorem k_clone (K : Fx p s m meth c by' ml own nm ret Z) (X : Stand p l e R s m args below meth c T locs cells slots) (eT : T.heap = h) {i W cap n : Nat} {ad : String} {a : Addr} {ty : FieldType} {g : Nat → Value} (hd : decode by' pc = .ok (.invokevirtual i, 3))
    (w1 : (Cond.methodLink own i ⟨ad, "clone", "()Ljava/lang/Object;"⟩).before a0 Z = true) (w2 : (Cond.sameMethod ad "java/lang/Object" "clone" "()Ljava/lang/Object;").before a0 Z = true) (w3 : (Cond.native ⟨"java/lang/Object", "clone", "()Ljava/lang/Object;"⟩).before a0 Z = true) (w4 : (Cond.instanceMethod ⟨"java/lang/Object", "clone", "()Ljava/lang/Object;"⟩).before a0 Z = true) (w5 : (Cond.selects ad ⟨ad, "clone", "()Ljava/lang/Object;"⟩ ⟨"java/lang/Object", "clone", "()Ljava/lang/Object;"⟩).before a0 Z = true) (w6 : (Cond.castable ad "java/lang/Cloneable").before a0 Z = true)
    (A : Ary Z h a ty n g) (E : Exa Z h a ad) (hsz : Ls.size = ml) (hf : 1 ≤ R.frames) (hW : (st.map fun v => v.category).sum ≤ W) (hl : W + 14 ≤ R.locals) (hcap : n ≤ cap) (hc : cells + 1 ≤ R.cells) (hn : slots + cap ≤ R.slots) (hq : pc + 3 = q)
    (k : ∀ T' h' b, Stand p l e R s m args below meth c T' locs (cells + 1) (slots + cap) → T'.heap = h' → b = h.size → Ext h h' → Ary Z h' b ty n g → Exa Z h' b ad → Run p e below s kc kn Q T' (mkF m q Ls (.ref b :: st))) : Run p e below s kc kn Q T (mkF m pc Ls (.ref a :: st)) := by
  subst hq
  obtain ⟨cl, A, r1, r2, r3, r4⟩ := A
  have FC : FitC Z cl := fitC_of A fun i hi v hv => by rw [r1] at hi; rw [r3 i hi] at hv; cases hv; exact r4 i hi
  obtain ⟨T', h', X', e', ex, A', E', st'⟩ := cloneA X K.1 K.2.2.2.2.1 K.2.2.2.1 w1 w2 w3 w4 w5 w6 eT A E FC (g := mkF m pc Ls (.ref a :: st)) rfl (by rw [K.2.2.1]; exact hsz) rfl (hb K.2.1 hd) hf (W := W) (by show 2 * 0 + _ ≤ _; omega) hl (by rw [r1]; exact hcap) hc hn
  exact (k T' h' h.size X' e' rfl ex ⟨cloneOf cl, A', r1, r2, r3, r4⟩ E').by st'
theorem k_checkcast (K : Fx p s m meth c by' ml own nm ret Z) (X : Stand p l e R s m args below meth c T locs cells slots) (eT : T.heap = h) {i : Nat} {C : String} {a : Addr} (hd : decode by' pc = .ok (.checkcast i, 3)) (w : (Cond.classLink own i C).before a0 Z = true) (E : Exa Z h a C) (hq : pc + 3 = q)
    (k : ∀ T', Stand p l e R s m args below meth c T' locs cells slots → T'.heap = h → Run p e below s kc kn Q T' (mkF m q Ls (.ref a :: st))) : Run p e below s kc kn Q T (mkF m pc Ls (.ref a :: st)) := by
  subst hq
  obtain ⟨T2, X2, e2, st2⟩ := castY X K.1 K.2.2.2.2.1 K.2.2.2.1 w eT (Ins.self E) (g := mkF m pc Ls (.ref a :: st)) rfl rfl (hb K.2.1 hd)
  exact (k T2 X2 e2).by st2
end OwnKit

theorem wd {Z : State} {az : Array Value} (hw : ∀ d ∈ tables_1, d.before az Z = true) (k : Nat) {d : Jvm.Cond} (h : tables_1[k]? = some d) : d.before az Z = true := hw _ (List.mem_of_getElem? h)
theorem d1_0 : decode method_3_code 0 = .ok (.iload_n 0, 1) := by decide +kernel
theorem d1_1 : decode method_3_code 1 = .ok (.ifCond .ne 5, 3) := by decide +kernel
theorem d1_4 : decode method_3_code 4 = .ok (.aconst_null, 1) := by decide +kernel
theorem d1_5 : decode method_3_code 5 = .ok (.areturn, 1) := by decide +kernel
theorem ef_1_0 (p1 : Int32) (p2 : Int32) (p3 : Int32) : ∀ m : MethodId, entryFrame m #[(.int (0 : Int32)), (.int p1), (.int p2), (.int p3)] 4 = mkF m 0 #[.val (.int (0 : Int32)), .val (.int p1), .val (.int p2), .val (.int p3)] [] := by intro m; first | (simp [entryFrame, mkF, argsToLocals, Value.category]; done) | rfl
theorem pn_0 : plainName "com/example/adiq/adiq/client/MessageKeyPinLaw" = true := by first | (simp [plainName, overriddenIn]; done) | decide +kernel
set_option maxRecDepth 65536 in
set_option maxHeartbeats 40000000 in
theorem rm1_0 (l : Launch) (Z : State) (az : Array Value) (hw : ∀ d ∈ tables_1, d.before az Z = true) (ws : List Jvm.Cond) (p1 : Int32) (p2 : Int32) (p3 : Int32) (h0 : Heap) :
    Met l (⟨"com/example/adiq/adiq/client/MessageKeyPinLaw", "makeKey", "(IBBB)[B"⟩ : MethodName) method_3_code 4 (some (.array .byte)) ws ({ frames := 0, cells := 0, slots := 0, locals := 0 } : Room) Z #[(.int (0 : Int32)), (.int p1), (.int p2), (.int p3)] h0 (fun v h' L => v = some .null ∧ h' = h0 ∧ L = []) := by
  refine enter (plainFor_of_name pn_0) (ef_1_0 p1 p2 p3) ?_
  intro p e s m below meth c T0 kc kn Q hkc hkn hQ K' X0 e0
  have K : Fx p s m meth c method_3_code 4 "com/example/adiq/adiq/client/MessageKeyPinLaw" "makeKey" (some (.array .byte)) Z := K'
  refine k_iloadN K X0 d1_0 rfl (q := 1) rfl ?_
  refine k_if_ne_n K X0 d1_1 (by decide) (q := 4) rfl ?_
  refine k_aconst_null K X0 d1_4 (q := 5) rfl ?_
  exact k_reta K X0 e0 d1_5 rfl rfl (Nat.le_trans (by decide) hkc) (Nat.le_trans (by decide) hkn) (hQ _ _ _ ⟨rfl, rfl, rfl⟩)
theorem d1_6 : decode method_3_code 6 = .ok (.iload_n 0, 1) := by decide +kernel
theorem d1_7 : decode method_3_code 7 = .ok (.iconst 1, 1) := by decide +kernel
theorem d1_8 : decode method_3_code 8 = .ok (.if_icmp .ne 7, 3) := by decide +kernel
theorem d1_11 : decode method_3_code 11 = .ok (.iconst 0, 1) := by decide +kernel
theorem d1_12 : decode method_3_code 12 = .ok (.newarray .byte, 2) := by decide +kernel
theorem d1_14 : decode method_3_code 14 = .ok (.areturn, 1) := by decide +kernel
theorem ef_1_1 (p1 : Int32) (p2 : Int32) (p3 : Int32) : ∀ m : MethodId, entryFrame m #[(.int (1 : Int32)), (.int p1), (.int p2), (.int p3)] 4 = mkF m 0 #[.val (.int (1 : Int32)), .val (.int p1), .val (.int p2), .val (.int p3)] [] := by intro m; first | (simp [entryFrame, mkF, argsToLocals, Value.category]; done) | rfl
set_option maxRecDepth 65536 in
set_option maxHeartbeats 40000000 in
theorem rm1_1 (l : Launch) (Z : State) (az : Array Value) (hw : ∀ d ∈ tables_1, d.before az Z = true) (ws : List Jvm.Cond) (p1 : Int32) (p2 : Int32) (p3 : Int32) (h0 : Heap) (n0 : Nat) (Z0 : n0 ≤ h0.size) :
    Met l (⟨"com/example/adiq/adiq/client/MessageKeyPinLaw", "makeKey", "(IBBB)[B"⟩ : MethodName) method_3_code 4 (some (.array .byte)) ws ({ frames := 0, cells := 1, slots := 0, locals := 0 } : Room) Z #[(.int (1 : Int32)), (.int p1), (.int p2), (.int p3)] h0 (fun v h' L => ∃ b3 : Addr, n0 ≤ b3 ∧ h0.size ≤ b3 ∧ v = some (.ref b3) ∧ Fr n0 L ∧ Keep h0 h' [] ∧ Exa Z h' b3 "[B" ∧ Ary Z h' b3 .byte 0 (fun i => Value.int (List.getD [] i 0))) := by
  refine enter (plainFor_of_name pn_0) (ef_1_1 p1 p2 p3) ?_
  intro p e s m below meth c T0 kc kn Q hkc hkn hQ K' X0 e0
  have K : Fx p s m meth c method_3_code 4 "com/example/adiq/adiq/client/MessageKeyPinLaw" "makeKey" (some (.array .byte)) Z := K'
  have N0 := Fr.nil n0
  have K0 : Keep h0 h0 [] := Keep.refl _ _
  refine k_iloadN K X0 d1_0 rfl (q := 1) rfl ?_
  refine k_if_ne_y K X0 d1_1 (by decide) (by decide) (q := 6) rfl ?_
  refine k_iloadN K X0 d1_6 rfl (q := 7) rfl ?_
  refine k_iconst K X0 d1_7 (v := (1 : Int32)) rfl (q := 8) rfl ?_
  refine k_icmp_ne_n K X0 d1_8 (by decide) (q := 11) rfl ?_
  refine k_iconst K X0 d1_11 (v := (0 : Int32)) rfl (q := 12) rfl ?_
  refine k_newarrayE K X0 e0 d1_12 (ty := .byte) rfl (ad := "[B") (by decide) (wd hw 4 rfl) (n := 0) (cap := 0) (by decide) (by decide) (by decide) (by decide) (by decide) (q := 14) rfl ?_
  intro T1 h2 b3 X4 e5 g6 E7 A8 E9
  have ge10 : n0 ≤ b3 := Nat.le_trans Z0 (Nat.le_of_eq g6.symm)
  have bn11 : h0.size ≤ b3 := Nat.le_trans K0.1 (Nat.le_of_eq g6.symm)
  have K12 := Keep.ext K0 E7
  have Z13 := Nat.le_trans Z0 E7.1
  have f14 : Ary Z h2 b3 .byte 0 (fun i => Value.int (List.getD [] i 0)) := Ary.eqv A8 (by intro i hi; omega)
  exact k_reta K X4 e5 d1_14 rfl rfl (Nat.le_trans (by decide) hkc) (Nat.le_trans (by decide) hkn) (hQ _ _ _ ⟨b3, ge10, bn11, rfl, N0, K12, E9, f14⟩)
theorem d1_15 : decode method_3_code 15 = .ok (.iload_n 0, 1) := by decide +kernel
theorem d1_16 : decode method_3_code 16 = .ok (.iconst 2, 1) := by decide +kernel
theorem d1_17 : decode method_3_code 17 = .ok (.if_icmp .ne 11, 3) := by decide +kernel
theorem d1_20 : decode method_3_code 20 = .ok (.iconst 1, 1) := by decide +kernel
theorem d1_21 : decode method_3_code 21 = .ok (.newarray .byte, 2) := by decide +kernel
theorem d1_23 : decode method_3_code 23 = .ok (.dup, 1) := by decide +kernel
theorem d1_24 : decode method_3_code 24 = .ok (.iconst 0, 1) := by decide +kernel
theorem d1_25 : decode method_3_code 25 = .ok (.iload_n 1, 1) := by decide +kernel
theorem d1_26 : decode method_3_code 26 = .ok (.bastore, 1) := by decide +kernel
theorem d1_27 : decode method_3_code 27 = .ok (.areturn, 1) := by decide +kernel
theorem ef_1_2 (p1 : Int32) (p2 : Int32) (p3 : Int32) : ∀ m : MethodId, entryFrame m #[(.int (2 : Int32)), (.int p1), (.int p2), (.int p3)] 4 = mkF m 0 #[.val (.int (2 : Int32)), .val (.int p1), .val (.int p2), .val (.int p3)] [] := by intro m; first | (simp [entryFrame, mkF, argsToLocals, Value.category]; done) | rfl
set_option maxRecDepth 65536 in
set_option maxHeartbeats 40000000 in
theorem rm1_2 (l : Launch) (Z : State) (az : Array Value) (hw : ∀ d ∈ tables_1, d.before az Z = true) (ws : List Jvm.Cond) (p1 : Int32) (p2 : Int32) (p3 : Int32) (h0 : Heap) (n0 : Nat) (Z0 : n0 ≤ h0.size) :
    Met l (⟨"com/example/adiq/adiq/client/MessageKeyPinLaw", "makeKey", "(IBBB)[B"⟩ : MethodName) method_3_code 4 (some (.array .byte)) ws ({ frames := 0, cells := 1, slots := 1, locals := 0 } : Room) Z #[(.int (2 : Int32)), (.int p1), (.int p2), (.int p3)] h0 (fun v h' L => ∃ b17 : Addr, n0 ≤ b17 ∧ h0.size ≤ b17 ∧ v = some (.ref b17) ∧ Fr n0 L ∧ Keep h0 h' [] ∧ Exa Z h' b17 "[B" ∧ Ary Z h' b17 .byte 1 (fun i => Value.int (List.getD [(nar .byte p1)] i 0))) := by
  refine enter (plainFor_of_name pn_0) (ef_1_2 p1 p2 p3) ?_
  intro p e s m below meth c T0 kc kn Q hkc hkn hQ K' X0 e0
  have K : Fx p s m meth c method_3_code 4 "com/example/adiq/adiq/client/MessageKeyPinLaw" "makeKey" (some (.array .byte)) Z := K'
  have N0 := Fr.nil n0
  have K0 : Keep h0 h0 [] := Keep.refl _ _
  refine k_iloadN K X0 d1_0 rfl (q := 1) rfl ?_
  refine k_if_ne_y K X0 d1_1 (by decide) (by decide) (q := 6) rfl ?_
  refine k_iloadN K X0 d1_6 rfl (q := 7) rfl ?_
  refine k_iconst K X0 d1_7 (v := (1 : Int32)) rfl (q := 8) rfl ?_
  refine k_icmp_ne_y K X0 d1_8 (by decide) (by decide) (q := 15) rfl ?_
  refine k_iloadN K X0 d1_15 rfl (q := 16) rfl ?_
  refine k_iconst K X0 d1_16 (v := (2 : Int32)) rfl (q := 17) rfl ?_
  refine k_icmp_ne_n K X0 d1_17 (by decide) (q := 20) rfl ?_
  refine k_iconst K X0 d1_20 (v := (1 : Int32)) rfl (q := 21) rfl ?_
  refine k_newarrayE K X0 e0 d1_21 (ty := .byte) rfl (ad := "[B") (by decide) (wd hw 4 rfl) (n := 1) (cap := 1) (by decide) (by decide) (by decide) (by decide) (by decide) (q := 23) rfl ?_
  intro T15 h16 b17 X18 e19 g20 E21 A22 E23
  have ge24 : n0 ≤ b17 := Nat.le_trans Z0 (Nat.le_of_eq g20.symm)
  have bn25 : h0.size ≤ b17 := Nat.le_trans K0.1 (Nat.le_of_eq g20.symm)
  have K26 := Keep.ext K0 E21
  have Z27 := Nat.le_trans Z0 E21.1
  have f28 : Ary Z h16 b17 .byte 1 (fun i => Value.int (List.getD [(0 : Int32)] i 0)) := Ary.eqv A22 (by intro i hi; match i, hi with | 0, _ => rfl | (k + 1), hi => exact absurd hi (by omega))
  refine k_dup K X18 d1_23 rfl (q := 24) rfl ?_
  refine k_iconst K X18 d1_24 (v := (0 : Int32)) rfl (q := 25) rfl ?_
  refine k_iloadN K X18 d1_25 rfl (q := 26) rfl ?_
  refine k_bastore K X18 e19 d1_26 f28 (i := 0) (by decide) (by decide) (q := 27) rfl ?_
  intro T29 h30 X31 e32 W33 A34
  have f35 : Ary Z h30 b17 .byte 1 (fun i => Value.int (List.getD [(nar .byte p1)] i 0)) := Ary.eqv A34 (by intro i hi; match i, hi with | 0, _ => rfl | (k + 1), hi => exact absurd hi (by omega))
  have f36 := Exa.wr W33 E23
  have N37 := Fr.snoc X31 N0 ge24
  have K38 := Keep.wr K26 W33 (Or.inr bn25)
  have Z39 := Nat.le_trans Z27 (Nat.le_of_eq (Wr.size W33).symm)
  exact k_reta K X31 e32 d1_27 rfl rfl (Nat.le_trans (by decide) hkc) (Nat.le_trans (by decide) hkn) (hQ _ _ _ ⟨b17, ge24, bn25, rfl, N37, K38, f36, f35⟩)
theorem d1_28 : decode method_3_code 28 = .ok (.iload_n 0, 1) := by decide +kernel
theorem d1_29 : decode method_3_code 29 = .ok (.iconst 3, 1) := by decide +kernel
theorem d1_30 : decode method_3_code 30 = .ok (.if_icmp .ne 15, 3) := by decide +kernel
theorem d1_33 : decode method_3_code 33 = .ok (.iconst 2, 1) := by decide +kernel
theorem d1_34 : decode method_3_code 34 = .ok (.newarray .byte, 2) := by decide +kernel
theorem d1_36 : decode method_3_code 36 = .ok (.dup, 1) := by decide +kernel
theorem d1_37 : decode method_3_code 37 = .ok (.iconst 0, 1) := by decide +kernel
theorem d1_38 : decode method_3_code 38 = .ok (.iload_n 1, 1) := by decide +kernel
theorem d1_39 : decode method_3_code 39 = .ok (.bastore, 1) := by decide +kernel
theorem d1_40 : decode method_3_code 40 = .ok (.dup, 1) := by decide +kernel
theorem d1_41 : decode method_3_code 41 = .ok (.iconst 1, 1) := by decide +kernel
theorem d1_42 : decode method_3_code 42 = .ok (.iload_n 2, 1) := by decide +kernel
theorem d1_43 : decode method_3_code 43 = .ok (.bastore, 1) := by decide +kernel
theorem d1_44 : decode method_3_code 44 = .ok (.areturn, 1) := by decide +kernel
theorem ef_1_3 (p1 : Int32) (p2 : Int32) (p3 : Int32) : ∀ m : MethodId, entryFrame m #[(.int (3 : Int32)), (.int p1), (.int p2), (.int p3)] 4 = mkF m 0 #[.val (.int (3 : Int32)), .val (.int p1), .val (.int p2), .val (.int p3)] [] := by intro m; first | (simp [entryFrame, mkF, argsToLocals, Value.category]; done) | rfl
set_option maxRecDepth 65536 in
set_option maxHeartbeats 40000000 in
theorem rm1_3 (l : Launch) (Z : State) (az : Array Value) (hw : ∀ d ∈ tables_1, d.before az Z = true) (ws : List Jvm.Cond) (p1 : Int32) (p2 : Int32) (p3 : Int32) (h0 : Heap) (n0 : Nat) (Z0 : n0 ≤ h0.size) :
    Met l (⟨"com/example/adiq/adiq/client/MessageKeyPinLaw", "makeKey", "(IBBB)[B"⟩ : MethodName) method_3_code 4 (some (.array .byte)) ws ({ frames := 0, cells := 1, slots := 2, locals := 0 } : Room) Z #[(.int (3 : Int32)), (.int p1), (.int p2), (.int p3)] h0 (fun v h' L => ∃ b42 : Addr, n0 ≤ b42 ∧ h0.size ≤ b42 ∧ v = some (.ref b42) ∧ Fr n0 L ∧ Keep h0 h' [] ∧ Exa Z h' b42 "[B" ∧ Ary Z h' b42 .byte 2 (fun i => Value.int (List.getD [(nar .byte p1), (nar .byte p2)] i 0))) := by
  refine enter (plainFor_of_name pn_0) (ef_1_3 p1 p2 p3) ?_
  intro p e s m below meth c T0 kc kn Q hkc hkn hQ K' X0 e0
  have K : Fx p s m meth c method_3_code 4 "com/example/adiq/adiq/client/MessageKeyPinLaw" "makeKey" (some (.array .byte)) Z := K'
  have N0 := Fr.nil n0
  have K0 : Keep h0 h0 [] := Keep.refl _ _
  refine k_iloadN K X0 d1_0 rfl (q := 1) rfl ?_
  refine k_if_ne_y K X0 d1_1 (by decide) (by decide) (q := 6) rfl ?_
  refine k_iloadN K X0 d1_6 rfl (q := 7) rfl ?_
  refine k_iconst K X0 d1_7 (v := (1 : Int32)) rfl (q := 8) rfl ?_
  refine k_icmp_ne_y K X0 d1_8 (by decide) (by decide) (q := 15) rfl ?_
  refine k_iloadN K X0 d1_15 rfl (q := 16) rfl ?_
  refine k_iconst K X0 d1_16 (v := (2 : Int32)) rfl (q := 17) rfl ?_
  refine k_icmp_ne_y K X0 d1_17 (by decide) (by decide) (q := 28) rfl ?_
  refine k_iloadN K X0 d1_28 rfl (q := 29) rfl ?_
  refine k_iconst K X0 d1_29 (v := (3 : Int32)) rfl (q := 30) rfl ?_
  refine k_icmp_ne_n K X0 d1_30 (by decide) (q := 33) rfl ?_
  refine k_iconst K X0 d1_33 (v := (2 : Int32)) rfl (q := 34) rfl ?_
  refine k_newarrayE K X0 e0 d1_34 (ty := .byte) rfl (ad := "[B") (by decide) (wd hw 4 rfl) (n := 2) (cap := 2) (by decide) (by decide) (by decide) (by decide) (by decide) (q := 36) rfl ?_
  intro T40 h41 b42 X43 e44 g45 E46 A47 E48
  have ge49 : n0 ≤ b42 := Nat.le_trans Z0 (Nat.le_of_eq g45.symm)
  have bn50 : h0.size ≤ b42 := Nat.le_trans K0.1 (Nat.le_of_eq g45.symm)
  have K51 := Keep.ext K0 E46
  have Z52 := Nat.le_trans Z0 E46.1
  have f53 : Ary Z h41 b42 .byte 2 (fun i => Value.int (List.getD [(0 : Int32), (0 : Int32)] i 0)) := Ary.eqv A47 (by intro i hi; match i, hi with | 0, _ => rfl | 1, _ => rfl | (k + 2), hi => exact absurd hi (by omega))
  refine k_dup K X43 d1_36 rfl (q := 37) rfl ?_
  refine k_iconst K X43 d1_37 (v := (0 : Int32)) rfl (q := 38) rfl ?_
  refine k_iloadN K X43 d1_38 rfl (q := 39) rfl ?_
  refine k_bastore K X43 e44 d1_39 f53 (i := 0) (by decide) (by decide) (q := 40) rfl ?_
  intro T54 h55 X56 e57 W58 A59
  have f60 : Ary Z h55 b42 .byte 2 (fun i => Value.int (List.getD [(nar .byte p1), (0 : Int32)] i 0)) := Ary.eqv A59 (by intro i hi; match i, hi with | 0, _ => rfl | 1, _ => rfl | (k + 2), hi => exact absurd hi (by omega))
  have f61 := Exa.wr W58 E48
  have N62 := Fr.snoc X56 N0 ge49
  have K63 := Keep.wr K51 W58 (Or.inr bn50)
  have Z64 := Nat.le_trans Z52 (Nat.le_of_eq (Wr.size W58).symm)
  refine k_dup K X56 d1_40 rfl (q := 41) rfl ?_
  refine k_iconst K X56 d1_41 (v := (1 : Int32)) rfl (q := 42) rfl ?_
  refine k_iloadN K X56 d1_42 rfl (q := 43) rfl ?_
  refine k_bastore K X56 e57 d1_43 f60 (i := 1) (by decide) (by decide) (q := 44) rfl ?_
  intro T65 h66 X67 e68 W69 A70
  have f71 : Ary Z h66 b42 .byte 2 (fun i => Value.int (List.getD [(nar .byte p1), (nar .byte p2)] i 0)) := Ary.eqv A70 (by intro i hi; match i, hi with | 0, _ => rfl | 1, _ => rfl | (k + 2), hi => exact absurd hi (by omega))
  have f72 := Exa.wr W69 f61
  have N73 := Fr.snoc X67 N62 ge49
  have K74 := Keep.wr K63 W69 (Or.inr bn50)
  have Z75 := Nat.le_trans Z64 (Nat.le_of_eq (Wr.size W69).symm)
  exact k_reta K X67 e68 d1_44 rfl rfl (Nat.le_trans (by decide) hkc) (Nat.le_trans (by decide) hkn) (hQ _ _ _ ⟨b42, ge49, bn50, rfl, N73, K74, f72, f71⟩)
theorem d1_45 : decode method_3_code 45 = .ok (.iconst 3, 1) := by decide +kernel
theorem d1_46 : decode method_3_code 46 = .ok (.newarray .byte, 2) := by decide +kernel
theorem d1_48 : decode method_3_code 48 = .ok (.dup, 1) := by decide +kernel
theorem d1_49 : decode method_3_code 49 = .ok (.iconst 0, 1) := by decide +kernel
theorem d1_50 : decode method_3_code 50 = .ok (.iload_n 1, 1) := by decide +kernel
theorem d1_51 : decode method_3_code 51 = .ok (.bastore, 1) := by decide +kernel
theorem d1_52 : decode method_3_code 52 = .ok (.dup, 1) := by decide +kernel
theorem d1_53 : decode method_3_code 53 = .ok (.iconst 1, 1) := by decide +kernel
theorem d1_54 : decode method_3_code 54 = .ok (.iload_n 2, 1) := by decide +kernel
theorem d1_55 : decode method_3_code 55 = .ok (.bastore, 1) := by decide +kernel
theorem d1_56 : decode method_3_code 56 = .ok (.dup, 1) := by decide +kernel
theorem d1_57 : decode method_3_code 57 = .ok (.iconst 2, 1) := by decide +kernel
theorem d1_58 : decode method_3_code 58 = .ok (.iload_n 3, 1) := by decide +kernel
theorem d1_59 : decode method_3_code 59 = .ok (.bastore, 1) := by decide +kernel
theorem d1_60 : decode method_3_code 60 = .ok (.areturn, 1) := by decide +kernel
theorem ef_1_4 (p1 : Int32) (p2 : Int32) (p3 : Int32) : ∀ m : MethodId, entryFrame m #[(.int (4 : Int32)), (.int p1), (.int p2), (.int p3)] 4 = mkF m 0 #[.val (.int (4 : Int32)), .val (.int p1), .val (.int p2), .val (.int p3)] [] := by intro m; first | (simp [entryFrame, mkF, argsToLocals, Value.category]; done) | rfl
set_option maxRecDepth 65536 in
set_option maxHeartbeats 40000000 in
theorem rm1_4 (l : Launch) (Z : State) (az : Array Value) (hw : ∀ d ∈ tables_1, d.before az Z = true) (ws : List Jvm.Cond) (p1 : Int32) (p2 : Int32) (p3 : Int32) (h0 : Heap) (n0 : Nat) (Z0 : n0 ≤ h0.size) :
    Met l (⟨"com/example/adiq/adiq/client/MessageKeyPinLaw", "makeKey", "(IBBB)[B"⟩ : MethodName) method_3_code 4 (some (.array .byte)) ws ({ frames := 0, cells := 1, slots := 3, locals := 0 } : Room) Z #[(.int (4 : Int32)), (.int p1), (.int p2), (.int p3)] h0 (fun v h' L => ∃ b78 : Addr, n0 ≤ b78 ∧ h0.size ≤ b78 ∧ v = some (.ref b78) ∧ Fr n0 L ∧ Keep h0 h' [] ∧ Exa Z h' b78 "[B" ∧ Ary Z h' b78 .byte 3 (fun i => Value.int (List.getD [(nar .byte p1), (nar .byte p2), (nar .byte p3)] i 0))) := by
  refine enter (plainFor_of_name pn_0) (ef_1_4 p1 p2 p3) ?_
  intro p e s m below meth c T0 kc kn Q hkc hkn hQ K' X0 e0
  have K : Fx p s m meth c method_3_code 4 "com/example/adiq/adiq/client/MessageKeyPinLaw" "makeKey" (some (.array .byte)) Z := K'
  have N0 := Fr.nil n0
  have K0 : Keep h0 h0 [] := Keep.refl _ _
  refine k_iloadN K X0 d1_0 rfl (q := 1) rfl ?_
  refine k_if_ne_y K X0 d1_1 (by decide) (by decide) (q := 6) rfl ?_
  refine k_iloadN K X0 d1_6 rfl (q := 7) rfl ?_
  refine k_iconst K X0 d1_7 (v := (1 : Int32)) rfl (q := 8) rfl ?_
  refine k_icmp_ne_y K X0 d1_8 (by decide) (by decide) (q := 15) rfl ?_
  refine k_iloadN K X0 d1_15 rfl (q := 16) rfl ?_
  refine k_iconst K X0 d1_16 (v := (2 : Int32)) rfl (q := 17) rfl ?_
  refine k_icmp_ne_y K X0 d1_17 (by decide) (by decide) (q := 28) rfl ?_
  refine k_iloadN K X0 d1_28 rfl (q := 29) rfl ?_
  refine k_iconst K X0 d1_29 (v := (3 : Int32)) rfl (q := 30) rfl ?_
  refine k_icmp_ne_y K X0 d1_30 (by decide) (by decide) (q := 45) rfl ?_
  refine k_iconst K X0 d1_45 (v := (3 : Int32)) rfl (q := 46) rfl ?_
  refine k_newarrayE K X0 e0 d1_46 (ty := .byte) rfl (ad := "[B") (by decide) (wd hw 4 rfl) (n := 3) (cap := 3) (by decide) (by decide) (by decide) (by decide) (by decide) (q := 48) rfl ?_
  intro T76 h77 b78 X79 e80 g81 E82 A83 E84
  have ge85 : n0 ≤ b78 := Nat.le_trans Z0 (Nat.le_of_eq g81.symm)
  have bn86 : h0.size ≤ b78 := Nat.le_trans K0.1 (Nat.le_of_eq g81.symm)
  have K87 := Keep.ext K0 E82
  have Z88 := Nat.le_trans Z0 E82.1
  have f89 : Ary Z h77 b78 .byte 3 (fun i => Value.int (List.getD [(0 : Int32), (0 : Int32), (0 : Int32)] i 0)) := Ary.eqv A83 (by intro i hi; match i, hi with | 0, _ => rfl | 1, _ => rfl | 2, _ => rfl | (k + 3), hi => exact absurd hi (by omega))
  refine k_dup K X79 d1_48 rfl (q := 49) rfl ?_
  refine k_iconst K X79 d1_49 (v := (0 : Int32)) rfl (q := 50) rfl ?_
  refine k_iloadN K X79 d1_50 rfl (q := 51) rfl ?_
  refine k_bastore K X79 e80 d1_51 f89 (i := 0) (by decide) (by decide) (q := 52) rfl ?_
  intro T90 h91 X92 e93 W94 A95
  have f96 : Ary Z h91 b78 .byte 3 (fun i => Value.int (List.getD [(nar .byte p1), (0 : Int32), (0 : Int32)] i 0)) := Ary.eqv A95 (by intro i hi; match i, hi with | 0, _ => rfl | 1, _ => rfl | 2, _ => rfl | (k + 3), hi => exact absurd hi (by omega))
  have f97 := Exa.wr W94 E84
  have N98 := Fr.snoc X92 N0 ge85
  have K99 := Keep.wr K87 W94 (Or.inr bn86)
  have Z100 := Nat.le_trans Z88 (Nat.le_of_eq (Wr.size W94).symm)
  refine k_dup K X92 d1_52 rfl (q := 53) rfl ?_
  refine k_iconst K X92 d1_53 (v := (1 : Int32)) rfl (q := 54) rfl ?_
  refine k_iloadN K X92 d1_54 rfl (q := 55) rfl ?_
  refine k_bastore K X92 e93 d1_55 f96 (i := 1) (by decide) (by decide) (q := 56) rfl ?_
  intro T101 h102 X103 e104 W105 A106
  have f107 : Ary Z h102 b78 .byte 3 (fun i => Value.int (List.getD [(nar .byte p1), (nar .byte p2), (0 : Int32)] i 0)) := Ary.eqv A106 (by intro i hi; match i, hi with | 0, _ => rfl | 1, _ => rfl | 2, _ => rfl | (k + 3), hi => exact absurd hi (by omega))
  have f108 := Exa.wr W105 f97
  have N109 := Fr.snoc X103 N98 ge85
  have K110 := Keep.wr K99 W105 (Or.inr bn86)
  have Z111 := Nat.le_trans Z100 (Nat.le_of_eq (Wr.size W105).symm)
  refine k_dup K X103 d1_56 rfl (q := 57) rfl ?_
  refine k_iconst K X103 d1_57 (v := (2 : Int32)) rfl (q := 58) rfl ?_
  refine k_iloadN K X103 d1_58 rfl (q := 59) rfl ?_
  refine k_bastore K X103 e104 d1_59 f107 (i := 2) (by decide) (by decide) (q := 60) rfl ?_
  intro T112 h113 X114 e115 W116 A117
  have f118 : Ary Z h113 b78 .byte 3 (fun i => Value.int (List.getD [(nar .byte p1), (nar .byte p2), (nar .byte p3)] i 0)) := Ary.eqv A117 (by intro i hi; match i, hi with | 0, _ => rfl | 1, _ => rfl | 2, _ => rfl | (k + 3), hi => exact absurd hi (by omega))
  have f119 := Exa.wr W116 f108
  have N120 := Fr.snoc X114 N109 ge85
  have K121 := Keep.wr K110 W116 (Or.inr bn86)
  have Z122 := Nat.le_trans Z111 (Nat.le_of_eq (Wr.size W116).symm)
  exact k_reta K X114 e115 d1_60 rfl rfl (Nat.le_trans (by decide) hkc) (Nat.le_trans (by decide) hkn) (hQ _ _ _ ⟨b78, ge85, bn86, rfl, N120, K121, f119, f118⟩)
theorem d2_0 : decode prog_31_method_1_code 0 = .ok (.aload_n 0, 1) := by decide +kernel
theorem d2_1 : decode prog_31_method_1_code 1 = .ok (.invokespecial 1, 3) := by decide +kernel
theorem d2_4 : decode prog_31_method_1_code 4 = .ok (.aload_n 0, 1) := by decide +kernel
theorem d2_5 : decode prog_31_method_1_code 5 = .ok (.lload_n 1, 1) := by decide +kernel
theorem d2_6 : decode prog_31_method_1_code 6 = .ok (.putfield 7, 3) := by decide +kernel
theorem d2_9 : decode prog_31_method_1_code 9 = .ok (.aload_n 0, 1) := by decide +kernel
theorem d2_10 : decode prog_31_method_1_code 10 = .ok (.aload_n 3, 1) := by decide +kernel
theorem d2_11 : decode prog_31_method_1_code 11 = .ok (.putfield 13, 3) := by decide +kernel
theorem d2_14 : decode prog_31_method_1_code 14 = .ok (.aload_n 0, 1) := by decide +kernel
theorem d2_15 : decode prog_31_method_1_code 15 = .ok (.aload 4, 2) := by decide +kernel
theorem d2_17 : decode prog_31_method_1_code 17 = .ok (.putfield 17, 3) := by decide +kernel
theorem d2_20 : decode prog_31_method_1_code 20 = .ok (.return_, 1) := by decide +kernel
theorem ef_2 (a0 : Addr) (q1 : Int64) (a2 : Addr) (a3 : Addr) : ∀ m : MethodId, entryFrame m #[(.ref a0), (.long q1), (.ref a2), (.ref a3)] 5 = mkF m 0 #[.val (.ref a0), .val (.long q1), .second, .val (.ref a2), .val (.ref a3)] [] := by intro m; first | (simp [entryFrame, mkF, argsToLocals, Value.category]; done) | rfl
theorem pn_1 : plainName "com/example/adiq/adiq/client/Message" = true := by first | (simp [plainName, overriddenIn]; done) | decide +kernel
set_option maxRecDepth 65536 in
set_option maxHeartbeats 40000000 in
theorem rm2 (l : Launch) (Z : State) (az : Array Value) (hw : ∀ d ∈ tables_1, d.before az Z = true) (ws : List Jvm.Cond) (a0 : Addr) (q1 : Int64) (a2 : Addr) (a3 : Addr) (w_a0_offset : Int64) (w_a0_key : Value) (w_a0_payload : Value) (h0 : Heap) (n0 : Nat) (Z0 : n0 ≤ h0.size) (E_a0 : Exa Z h0 a0 "com/example/adiq/adiq/client/Message") (F_a0_offset : Fld Z h0 a0 "com/example/adiq/adiq/client/Message" "offset" "J" (.long w_a0_offset)) (g_a0 : n0 ≤ a0) (F_a0_key : Fld Z h0 a0 "com/example/adiq/adiq/client/Message" "key" "[B" w_a0_key) (F_a0_payload : Fld Z h0 a0 "com/example/adiq/adiq/client/Message" "payload" "[B" w_a0_payload) :
    Met l (⟨"com/example/adiq/adiq/client/Message", "<init>", "(J[B[B)V"⟩ : MethodName) prog_31_method_1_code 5 none ws ({ frames := 1, cells := 0, slots := 0, locals := 12 } : Room) Z #[(.ref a0), (.long q1), (.ref a2), (.ref a3)] h0 (fun v h' L => v = none ∧ Fr n0 L ∧ Keep h0 h' [a0] ∧ Fld Z h' a0 "com/example/adiq/adiq/client/Message" "key" "[B" (.ref a2) ∧ Fld Z h' a0 "com/example/adiq/adiq/client/Message" "offset" "J" (.long q1) ∧ Fld Z h' a0 "com/example/adiq/adiq/client/Message" "payload" "[B" (.ref a3)) := by
  refine enter (plainFor_of_name pn_1) (ef_2 a0 q1 a2 a3) ?_
  intro p e s m below meth c T0 kc kn Q hkc hkn hQ K' X0 e0
  have K : Fx p s m meth c prog_31_method_1_code 5 "com/example/adiq/adiq/client/Message" "<init>" none Z := K'
  have N0 := Fr.nil n0
  have K0 : Keep h0 h0 [a0] := Keep.refl _ _
  refine k_aloadN K X0 d2_0 rfl rfl (q := 1) rfl ?_
  refine k_initO K X0 e0 d2_1 (wd hw 11 rfl) (wd hw 12 rfl) (wd hw 13 rfl) rfl (by decide) (W := 0) (Nat.le_of_eq rfl) (by decide) (q := 4) rfl ?_
  intro T170 X171 e172
  refine k_aloadN K X171 d2_4 rfl rfl (q := 5) rfl ?_
  refine k_lloadN K X171 d2_5 rfl (q := 6) rfl ?_
  refine k_putfield K X171 e172 d2_6 (wd hw 14 rfl) F_a0_offset E_a0 (Or.inr ⟨(wd hw 15 rfl), rfl, rfl⟩) (wd hw 6 rfl) (ty := .long) (by decide) rfl rfl (q := 9) rfl ?_
  intro T173 h174 X175 e176 W177
  have f178 := Fld.same W177 F_a0_offset
  have f179 := Exa.wr W177 E_a0
  have f180 := Fld.other W177 F_a0_key (Or.inr (slot_ne (Or.inr (wd hw 17 rfl)) (Or.inr (wd hw 15 rfl)) (by decide) (t := (.array .byte)) (t' := .long) (by decide) (by decide)))
  have f181 := Fld.other W177 F_a0_payload (Or.inr (slot_ne (Or.inr (wd hw 19 rfl)) (Or.inr (wd hw 15 rfl)) (by decide) (t := (.array .byte)) (t' := .long) (by decide) (by decide)))
  have N182 := Fr.snoc X175 N0 g_a0
  have K183 := Keep.wr K0 W177 (Or.inl (List.mem_of_getElem? (i := 0) rfl))
  have Z184 := Nat.le_trans Z0 (Nat.le_of_eq (Wr.size W177).symm)
  refine k_aloadN K X175 d2_9 rfl rfl (q := 10) rfl ?_
  refine k_aloadN K X175 d2_10 rfl rfl (q := 11) rfl ?_
  refine k_putfield K X175 e176 d2_11 (wd hw 16 rfl) f180 f179 (Or.inr ⟨(wd hw 17 rfl), rfl, rfl⟩) (wd hw 6 rfl) (ty := (.array .byte)) (by decide) rfl rfl (q := 14) rfl ?_
  intro T185 h186 X187 e188 W189
  have f190 := Fld.same W189 f180
  have f191 := Exa.wr W189 f179
  have f192 := Fld.other W189 f181 (Or.inr (slot_ne (Or.inr (wd hw 19 rfl)) (Or.inr (wd hw 17 rfl)) (by decide) (t := (.array .byte)) (t' := (.array .byte)) (by decide) (by decide)))
  have f193 := Fld.other W189 f178 (Or.inr (slot_ne (Or.inr (wd hw 15 rfl)) (Or.inr (wd hw 17 rfl)) (by decide) (t := .long) (t' := (.array .byte)) (by decide) (by decide)))
  have N194 := Fr.snoc X187 N182 g_a0
  have K195 := Keep.wr K183 W189 (Or.inl (List.mem_of_getElem? (i := 0) rfl))
  have Z196 := Nat.le_trans Z184 (Nat.le_of_eq (Wr.size W189).symm)
  refine k_aloadN K X187 d2_14 rfl rfl (q := 15) rfl ?_
  refine k_aload K X187 d2_15 rfl rfl (q := 17) rfl ?_
  refine k_putfield K X187 e188 d2_17 (wd hw 18 rfl) f192 f191 (Or.inr ⟨(wd hw 19 rfl), rfl, rfl⟩) (wd hw 6 rfl) (ty := (.array .byte)) (by decide) rfl rfl (q := 20) rfl ?_
  intro T197 h198 X199 e200 W201
  have f202 := Fld.same W201 f192
  have f203 := Exa.wr W201 f191
  have f204 := Fld.other W201 f193 (Or.inr (slot_ne (Or.inr (wd hw 15 rfl)) (Or.inr (wd hw 19 rfl)) (by decide) (t := .long) (t' := (.array .byte)) (by decide) (by decide)))
  have f205 := Fld.other W201 f190 (Or.inr (slot_ne (Or.inr (wd hw 17 rfl)) (Or.inr (wd hw 19 rfl)) (by decide) (t := (.array .byte)) (t' := (.array .byte)) (by decide) (by decide)))
  have N206 := Fr.snoc X199 N194 g_a0
  have K207 := Keep.wr K195 W201 (Or.inl (List.mem_of_getElem? (i := 0) rfl))
  have Z208 := Nat.le_trans Z196 (Nat.le_of_eq (Wr.size W201).symm)
  exact k_retv K X199 e200 d2_20 (Nat.le_trans (by decide) hkc) (Nat.le_trans (by decide) hkn) (hQ _ _ _ ⟨rfl, N206, K207, f205, f204, f202⟩)
theorem ef_2n (a0 : Addr) (q1 : Int64) (a3 : Addr) : ∀ m : MethodId, entryFrame m #[(.ref a0), (.long q1), .null, (.ref a3)] 5 = mkF m 0 #[.val (.ref a0), .val (.long q1), .second, .val .null, .val (.ref a3)] [] := by intro m; first | (simp [entryFrame, mkF, argsToLocals, Value.category]; done) | rfl
set_option maxRecDepth 65536 in
set_option maxHeartbeats 40000000 in
theorem rm2n (l : Launch) (Z : State) (az : Array Value) (hw : ∀ d ∈ tables_1, d.before az Z = true) (ws : List Jvm.Cond) (a0 : Addr) (q1 : Int64) (a3 : Addr) (w_a0_offset : Int64) (w_a0_key : Value) (w_a0_payload : Value) (h0 : Heap) (n0 : Nat) (Z0 : n0 ≤ h0.size) (E_a0 : Exa Z h0 a0 "com/example/adiq/adiq/client/Message") (F_a0_offset : Fld Z h0 a0 "com/example/adiq/adiq/client/Message" "offset" "J" (.long w_a0_offset)) (g_a0 : n0 ≤ a0) (F_a0_key : Fld Z h0 a0 "com/example/adiq/adiq/client/Message" "key" "[B" w_a0_key) (F_a0_payload : Fld Z h0 a0 "com/example/adiq/adiq/client/Message" "payload" "[B" w_a0_payload) :
    Met l (⟨"com/example/adiq/adiq/client/Message", "<init>", "(J[B[B)V"⟩ : MethodName) prog_31_method_1_code 5 none ws ({ frames := 1, cells := 0, slots := 0, locals := 12 } : Room) Z #[(.ref a0), (.long q1), .null, (.ref a3)] h0 (fun v h' L => v = none ∧ Fr n0 L ∧ Keep h0 h' [a0] ∧ Fld Z h' a0 "com/example/adiq/adiq/client/Message" "key" "[B" .null ∧ Fld Z h' a0 "com/example/adiq/adiq/client/Message" "offset" "J" (.long q1) ∧ Fld Z h' a0 "com/example/adiq/adiq/client/Message" "payload" "[B" (.ref a3)) := by
  refine enter (plainFor_of_name pn_1) (ef_2n a0 q1 a3) ?_
  intro p e s m below meth c T0 kc kn Q hkc hkn hQ K' X0 e0
  have K : Fx p s m meth c prog_31_method_1_code 5 "com/example/adiq/adiq/client/Message" "<init>" none Z := K'
  have N0 := Fr.nil n0
  have K0 : Keep h0 h0 [a0] := Keep.refl _ _
  refine k_aloadN K X0 d2_0 rfl rfl (q := 1) rfl ?_
  refine k_initO K X0 e0 d2_1 (wd hw 11 rfl) (wd hw 12 rfl) (wd hw 13 rfl) rfl (by decide) (W := 0) (Nat.le_of_eq rfl) (by decide) (q := 4) rfl ?_
  intro T256 X257 e258
  refine k_aloadN K X257 d2_4 rfl rfl (q := 5) rfl ?_
  refine k_lloadN K X257 d2_5 rfl (q := 6) rfl ?_
  refine k_putfield K X257 e258 d2_6 (wd hw 14 rfl) F_a0_offset E_a0 (Or.inr ⟨(wd hw 15 rfl), rfl, rfl⟩) (wd hw 6 rfl) (ty := .long) (by decide) rfl rfl (q := 9) rfl ?_
  intro T259 h260 X261 e262 W263
  have f264 := Fld.same W263 F_a0_offset
  have f265 := Exa.wr W263 E_a0
  have f266 := Fld.other W263 F_a0_key (Or.inr (slot_ne (Or.inr (wd hw 17 rfl)) (Or.inr (wd hw 15 rfl)) (by decide) (t := (.array .byte)) (t' := .long) (by decide) (by decide)))
  have f267 := Fld.other W263 F_a0_payload (Or.inr (slot_ne (Or.inr (wd hw 19 rfl)) (Or.inr (wd hw 15 rfl)) (by decide) (t := (.array .byte)) (t' := .long) (by decide) (by decide)))
  have N268 := Fr.snoc X261 N0 g_a0
  have K269 := Keep.wr K0 W263 (Or.inl (List.mem_of_getElem? (i := 0) rfl))
  have Z270 := Nat.le_trans Z0 (Nat.le_of_eq (Wr.size W263).symm)
  refine k_aloadN K X261 d2_9 rfl rfl (q := 10) rfl ?_
  refine k_aloadN K X261 d2_10 rfl rfl (q := 11) rfl ?_
  refine k_putfield K X261 e262 d2_11 (wd hw 16 rfl) f266 f265 (Or.inr ⟨(wd hw 17 rfl), rfl, rfl⟩) (wd hw 6 rfl) (ty := (.array .byte)) (by decide) rfl rfl (q := 14) rfl ?_
  intro T271 h272 X273 e274 W275
  have f276 := Fld.same W275 f266
  have f277 := Exa.wr W275 f265
  have f278 := Fld.other W275 f267 (Or.inr (slot_ne (Or.inr (wd hw 19 rfl)) (Or.inr (wd hw 17 rfl)) (by decide) (t := (.array .byte)) (t' := (.array .byte)) (by decide) (by decide)))
  have f279 := Fld.other W275 f264 (Or.inr (slot_ne (Or.inr (wd hw 15 rfl)) (Or.inr (wd hw 17 rfl)) (by decide) (t := .long) (t' := (.array .byte)) (by decide) (by decide)))
  have N280 := Fr.snoc X273 N268 g_a0
  have K281 := Keep.wr K269 W275 (Or.inl (List.mem_of_getElem? (i := 0) rfl))
  have Z282 := Nat.le_trans Z270 (Nat.le_of_eq (Wr.size W275).symm)
  refine k_aloadN K X273 d2_14 rfl rfl (q := 15) rfl ?_
  refine k_aload K X273 d2_15 rfl rfl (q := 17) rfl ?_
  refine k_putfield K X273 e274 d2_17 (wd hw 18 rfl) f278 f277 (Or.inr ⟨(wd hw 19 rfl), rfl, rfl⟩) (wd hw 6 rfl) (ty := (.array .byte)) (by decide) rfl rfl (q := 20) rfl ?_
  intro T283 h284 X285 e286 W287
  have f288 := Fld.same W287 f278
  have f289 := Exa.wr W287 f277
  have f290 := Fld.other W287 f279 (Or.inr (slot_ne (Or.inr (wd hw 15 rfl)) (Or.inr (wd hw 19 rfl)) (by decide) (t := .long) (t' := (.array .byte)) (by decide) (by decide)))
  have f291 := Fld.other W287 f276 (Or.inr (slot_ne (Or.inr (wd hw 17 rfl)) (Or.inr (wd hw 19 rfl)) (by decide) (t := (.array .byte)) (t' := (.array .byte)) (by decide) (by decide)))
  have N292 := Fr.snoc X285 N280 g_a0
  have K293 := Keep.wr K281 W287 (Or.inl (List.mem_of_getElem? (i := 0) rfl))
  have Z294 := Nat.le_trans Z282 (Nat.le_of_eq (Wr.size W287).symm)
  exact k_retv K X285 e286 d2_20 (Nat.le_trans (by decide) hkc) (Nat.le_trans (by decide) hkn) (hQ _ _ _ ⟨rfl, N292, K293, f291, f290, f288⟩)
theorem d4_0 : decode prog_31_method_3_code 0 = .ok (.aload_n 0, 1) := by decide +kernel
theorem d4_1 : decode prog_31_method_3_code 1 = .ok (.getfield 13, 3) := by decide +kernel
theorem d4_4 : decode prog_31_method_3_code 4 = .ok (.ifnonnull 7, 3) := by decide +kernel
theorem d4_7 : decode prog_31_method_3_code 7 = .ok (.aconst_null, 1) := by decide +kernel
theorem d4_8 : decode prog_31_method_3_code 8 = .ok (.goto 13, 3) := by decide +kernel
theorem d4_21 : decode prog_31_method_3_code 21 = .ok (.areturn, 1) := by decide +kernel
theorem ef_4n (a0 : Addr) : ∀ m : MethodId, entryFrame m #[(.ref a0)] 1 = mkF m 0 #[.val (.ref a0)] [] := by intro m; first | (simp [entryFrame, mkF, argsToLocals, Value.category]; done) | rfl
set_option maxRecDepth 65536 in
set_option maxHeartbeats 40000000 in
theorem rm4n (l : Launch) (Z : State) (az : Array Value) (hw : ∀ d ∈ tables_1, d.before az Z = true) (ws : List Jvm.Cond) (a0 : Addr) (h0 : Heap) (F_a0_key : Fld Z h0 a0 "com/example/adiq/adiq/client/Message" "key" "[B" .null) :
    Met l (⟨"com/example/adiq/adiq/client/Message", "key", "()[B"⟩ : MethodName) prog_31_method_3_code 1 (some (.array .byte)) ws ({ frames := 0, cells := 0, slots := 0, locals := 0 } : Room) Z #[(.ref a0)] h0 (fun v h' L => v = some .null ∧ h' = h0 ∧ L = []) := by
  refine enter (plainFor_of_name pn_1) (ef_4n a0) ?_
  intro p e s m below meth c T0 kc kn Q hkc hkn hQ K' X0 e0
  have K : Fx p s m meth c prog_31_method_3_code 1 "com/example/adiq/adiq/client/Message" "key" (some (.array .byte)) Z := K'
  refine k_aloadN K X0 d4_0 rfl rfl (q := 1) rfl ?_
  refine k_getfield K X0 e0 d4_1 (wd hw 16 rfl) F_a0_key (q := 4) rfl ?_
  intro T295 X296 e297
  refine k_ifnonnull_n K X296 d4_4 (q := 7) rfl ?_
  refine k_aconst_null K X296 d4_7 (q := 8) rfl ?_
  refine k_goto K X296 d4_8 (by decide) (q := 21) rfl ?_
  exact k_reta K X296 e297 d4_21 rfl rfl (Nat.le_trans (by decide) hkc) (Nat.le_trans (by decide) hkn) (hQ _ _ _ ⟨rfl, rfl, rfl⟩)
theorem d4_11 : decode prog_31_method_3_code 11 = .ok (.aload_n 0, 1) := by decide +kernel
theorem d4_12 : decode prog_31_method_3_code 12 = .ok (.getfield 13, 3) := by decide +kernel
theorem d4_15 : decode prog_31_method_3_code 15 = .ok (.invokevirtual 20, 3) := by decide +kernel
theorem d4_18 : decode prog_31_method_3_code 18 = .ok (.checkcast 21, 3) := by decide +kernel
theorem ef_4_0 (a0 : Addr) : ∀ m : MethodId, entryFrame m #[(.ref a0)] 1 = mkF m 0 #[.val (.ref a0)] [] := by intro m; first | (simp [entryFrame, mkF, argsToLocals, Value.category]; done) | rfl
set_option maxRecDepth 65536 in
set_option maxHeartbeats 40000000 in
theorem rm4_0 (l : Launch) (Z : State) (az : Array Value) (hw : ∀ d ∈ tables_1, d.before az Z = true) (ws : List Jvm.Cond) (a0 : Addr) (w_a0_key : Addr) (h0 : Heap) (n0 : Nat) (Z0 : n0 ≤ h0.size) (F_a0_key : Fld Z h0 a0 "com/example/adiq/adiq/client/Message" "key" "[B" (.ref w_a0_key)) (A_w_a0_key : Ary Z h0 w_a0_key .byte 0 (fun i => Value.int (List.getD [] i 0))) (E_w_a0_key : Exa Z h0 w_a0_key "[B") :
    Met l (⟨"com/example/adiq/adiq/client/Message", "key", "()[B"⟩ : MethodName) prog_31_method_3_code 1 (some (.array .byte)) ws ({ frames := 1, cells := 1, slots := 0, locals := 14 } : Room) Z #[(.ref a0)] h0 (fun v h' L => ∃ b318 : Addr, n0 ≤ b318 ∧ h0.size ≤ b318 ∧ v = some (.ref b318) ∧ Fr n0 L ∧ Keep h0 h' [] ∧ Ary Z h' b318 .byte 0 (fun i => Value.int (List.getD [] i 0)) ∧ Exa Z h' b318 "[B") := by
  refine enter (plainFor_of_name pn_1) (ef_4_0 a0) ?_
  intro p e s m below meth c T0 kc kn Q hkc hkn hQ K' X0 e0
  have K : Fx p s m meth c prog_31_method_3_code 1 "com/example/adiq/adiq/client/Message" "key" (some (.array .byte)) Z := K'
  have N0 := Fr.nil n0
  have K0 : Keep h0 h0 [] := Keep.refl _ _
  refine k_aloadN K X0 d4_0 rfl rfl (q := 1) rfl ?_
  refine k_getfield K X0 e0 d4_1 (wd hw 16 rfl) F_a0_key (q := 4) rfl ?_
  intro T310 X311 e312
  refine k_ifnonnull_y K X311 d4_4 (by decide) (q := 11) rfl ?_
  refine k_aloadN K X311 d4_11 rfl rfl (q := 12) rfl ?_
  refine k_getfield K X311 e312 d4_12 (wd hw 16 rfl) F_a0_key (q := 15) rfl ?_
  intro T313 X314 e315
  refine k_clone K X314 e315 d4_15 (wd hw 25 rfl) (wd hw 26 rfl) (wd hw 30 rfl) (wd hw 28 rfl) (wd hw 29 rfl) (wd hw 31 rfl) A_w_a0_key E_w_a0_key rfl (by decide) (W := 0) (Nat.le_of_eq rfl) (by decide) (cap := 0) (by decide) (by decide) (by decide) (q := 18) rfl ?_
  intro T316 h317 b318 X319 e320 g321 E322 A323 E324
  have ne325 : a0 ≠ b318 := Nat.ne_of_lt (Nat.lt_of_lt_of_eq (F_a0_key).lt g321.symm)
  have ne326 : w_a0_key ≠ b318 := Nat.ne_of_lt (Nat.lt_of_lt_of_eq (A_w_a0_key).lt g321.symm)
  have ge327 : n0 ≤ b318 := Nat.le_trans Z0 (Nat.le_of_eq g321.symm)
  have bn328 : h0.size ≤ b318 := Nat.le_trans K0.1 (Nat.le_of_eq g321.symm)
  have f329 := Fld.ext E322 F_a0_key
  have f330 := Ary.ext A_w_a0_key E322
  have f331 := Exa.ext E322 E_w_a0_key
  have K332 := Keep.ext K0 E322
  have Z333 := Nat.le_trans Z0 E322.1
  refine k_checkcast K X319 e320 d4_18 (wd hw 32 rfl) E324 (q := 21) rfl ?_
  intro T334 X335 e336
  exact k_reta K X335 e336 d4_21 rfl rfl (Nat.le_trans (by decide) hkc) (Nat.le_trans (by decide) hkn) (hQ _ _ _ ⟨b318, ge327, bn328, rfl, N0, K332, A323, E324⟩)
theorem ef_4_1 (a0 : Addr) : ∀ m : MethodId, entryFrame m #[(.ref a0)] 1 = mkF m 0 #[.val (.ref a0)] [] := by intro m; first | (simp [entryFrame, mkF, argsToLocals, Value.category]; done) | rfl
set_option maxRecDepth 65536 in
set_option maxHeartbeats 40000000 in
theorem rm4_1 (l : Launch) (Z : State) (az : Array Value) (hw : ∀ d ∈ tables_1, d.before az Z = true) (ws : List Jvm.Cond) (a0 : Addr) (w_a0_key : Addr) (s_w_a0_key_0 : Int32) (h0 : Heap) (n0 : Nat) (Z0 : n0 ≤ h0.size) (F_a0_key : Fld Z h0 a0 "com/example/adiq/adiq/client/Message" "key" "[B" (.ref w_a0_key)) (A_w_a0_key : Ary Z h0 w_a0_key .byte 1 (fun i => Value.int (List.getD [s_w_a0_key_0] i 0))) (E_w_a0_key : Exa Z h0 w_a0_key "[B") :
    Met l (⟨"com/example/adiq/adiq/client/Message", "key", "()[B"⟩ : MethodName) prog_31_method_3_code 1 (some (.array .byte)) ws ({ frames := 1, cells := 1, slots := 1, locals := 14 } : Room) Z #[(.ref a0)] h0 (fun v h' L => ∃ b357 : Addr, n0 ≤ b357 ∧ h0.size ≤ b357 ∧ v = some (.ref b357) ∧ Fr n0 L ∧ Keep h0 h' [] ∧ Ary Z h' b357 .byte 1 (fun i => Value.int (List.getD [s_w_a0_key_0] i 0)) ∧ Exa Z h' b357 "[B") := by
  refine enter (plainFor_of_name pn_1) (ef_4_1 a0) ?_
  intro p e s m below meth c T0 kc kn Q hkc hkn hQ K' X0 e0
  have K : Fx p s m meth c prog_31_method_3_code 1 "com/example/adiq/adiq/client/Message" "key" (some (.array .byte)) Z := K'
  have N0 := Fr.nil n0
  have K0 : Keep h0 h0 [] := Keep.refl _ _
  refine k_aloadN K X0 d4_0 rfl rfl (q := 1) rfl ?_
  refine k_getfield K X0 e0 d4_1 (wd hw 16 rfl) F_a0_key (q := 4) rfl ?_
  intro T349 X350 e351
  refine k_ifnonnull_y K X350 d4_4 (by decide) (q := 11) rfl ?_
  refine k_aloadN K X350 d4_11 rfl rfl (q := 12) rfl ?_
  refine k_getfield K X350 e351 d4_12 (wd hw 16 rfl) F_a0_key (q := 15) rfl ?_
  intro T352 X353 e354
  refine k_clone K X353 e354 d4_15 (wd hw 25 rfl) (wd hw 26 rfl) (wd hw 30 rfl) (wd hw 28 rfl) (wd hw 29 rfl) (wd hw 31 rfl) A_w_a0_key E_w_a0_key rfl (by decide) (W := 0) (Nat.le_of_eq rfl) (by decide) (cap := 1) (by decide) (by decide) (by decide) (q := 18) rfl ?_
  intro T355 h356 b357 X358 e359 g360 E361 A362 E363
  have ne364 : a0 ≠ b357 := Nat.ne_of_lt (Nat.lt_of_lt_of_eq (F_a0_key).lt g360.symm)
  have ne365 : w_a0_key ≠ b357 := Nat.ne_of_lt (Nat.lt_of_lt_of_eq (A_w_a0_key).lt g360.symm)
  have ge366 : n0 ≤ b357 := Nat.le_trans Z0 (Nat.le_of_eq g360.symm)
  have bn367 : h0.size ≤ b357 := Nat.le_trans K0.1 (Nat.le_of_eq g360.symm)
  have f368 := Fld.ext E361 F_a0_key
  have f369 := Ary.ext A_w_a0_key E361
  have f370 := Exa.ext E361 E_w_a0_key
  have K371 := Keep.ext K0 E361
  have Z372 := Nat.le_trans Z0 E361.1
  refine k_checkcast K X358 e359 d4_18 (wd hw 32 rfl) E363 (q := 21) rfl ?_
  intro T373 X374 e375
  exact k_reta K X374 e375 d4_21 rfl rfl (Nat.le_trans (by decide) hkc) (Nat.le_trans (by decide) hkn) (hQ _ _ _ ⟨b357, ge366, bn367, rfl, N0, K371, A362, E363⟩)
theorem ef_4_2 (a0 : Addr) : ∀ m : MethodId, entryFrame m #[(.ref a0)] 1 = mkF m 0 #[.val (.ref a0)] [] := by intro m; first | (simp [entryFrame, mkF, argsToLocals, Value.category]; done) | rfl
set_option maxRecDepth 65536 in
set_option maxHeartbeats 40000000 in
theorem rm4_2 (l : Launch) (Z : State) (az : Array Value) (hw : ∀ d ∈ tables_1, d.before az Z = true) (ws : List Jvm.Cond) (a0 : Addr) (w_a0_key : Addr) (s_w_a0_key_0 : Int32) (s_w_a0_key_1 : Int32) (h0 : Heap) (n0 : Nat) (Z0 : n0 ≤ h0.size) (F_a0_key : Fld Z h0 a0 "com/example/adiq/adiq/client/Message" "key" "[B" (.ref w_a0_key)) (A_w_a0_key : Ary Z h0 w_a0_key .byte 2 (fun i => Value.int (List.getD [s_w_a0_key_0, s_w_a0_key_1] i 0))) (E_w_a0_key : Exa Z h0 w_a0_key "[B") :
    Met l (⟨"com/example/adiq/adiq/client/Message", "key", "()[B"⟩ : MethodName) prog_31_method_3_code 1 (some (.array .byte)) ws ({ frames := 1, cells := 1, slots := 2, locals := 14 } : Room) Z #[(.ref a0)] h0 (fun v h' L => ∃ b396 : Addr, n0 ≤ b396 ∧ h0.size ≤ b396 ∧ v = some (.ref b396) ∧ Fr n0 L ∧ Keep h0 h' [] ∧ Ary Z h' b396 .byte 2 (fun i => Value.int (List.getD [s_w_a0_key_0, s_w_a0_key_1] i 0)) ∧ Exa Z h' b396 "[B") := by
  refine enter (plainFor_of_name pn_1) (ef_4_2 a0) ?_
  intro p e s m below meth c T0 kc kn Q hkc hkn hQ K' X0 e0
  have K : Fx p s m meth c prog_31_method_3_code 1 "com/example/adiq/adiq/client/Message" "key" (some (.array .byte)) Z := K'
  have N0 := Fr.nil n0
  have K0 : Keep h0 h0 [] := Keep.refl _ _
  refine k_aloadN K X0 d4_0 rfl rfl (q := 1) rfl ?_
  refine k_getfield K X0 e0 d4_1 (wd hw 16 rfl) F_a0_key (q := 4) rfl ?_
  intro T388 X389 e390
  refine k_ifnonnull_y K X389 d4_4 (by decide) (q := 11) rfl ?_
  refine k_aloadN K X389 d4_11 rfl rfl (q := 12) rfl ?_
  refine k_getfield K X389 e390 d4_12 (wd hw 16 rfl) F_a0_key (q := 15) rfl ?_
  intro T391 X392 e393
  refine k_clone K X392 e393 d4_15 (wd hw 25 rfl) (wd hw 26 rfl) (wd hw 30 rfl) (wd hw 28 rfl) (wd hw 29 rfl) (wd hw 31 rfl) A_w_a0_key E_w_a0_key rfl (by decide) (W := 0) (Nat.le_of_eq rfl) (by decide) (cap := 2) (by decide) (by decide) (by decide) (q := 18) rfl ?_
  intro T394 h395 b396 X397 e398 g399 E400 A401 E402
  have ne403 : a0 ≠ b396 := Nat.ne_of_lt (Nat.lt_of_lt_of_eq (F_a0_key).lt g399.symm)
  have ne404 : w_a0_key ≠ b396 := Nat.ne_of_lt (Nat.lt_of_lt_of_eq (A_w_a0_key).lt g399.symm)
  have ge405 : n0 ≤ b396 := Nat.le_trans Z0 (Nat.le_of_eq g399.symm)
  have bn406 : h0.size ≤ b396 := Nat.le_trans K0.1 (Nat.le_of_eq g399.symm)
  have f407 := Fld.ext E400 F_a0_key
  have f408 := Ary.ext A_w_a0_key E400
  have f409 := Exa.ext E400 E_w_a0_key
  have K410 := Keep.ext K0 E400
  have Z411 := Nat.le_trans Z0 E400.1
  refine k_checkcast K X397 e398 d4_18 (wd hw 32 rfl) E402 (q := 21) rfl ?_
  intro T412 X413 e414
  exact k_reta K X413 e414 d4_21 rfl rfl (Nat.le_trans (by decide) hkc) (Nat.le_trans (by decide) hkn) (hQ _ _ _ ⟨b396, ge405, bn406, rfl, N0, K410, A401, E402⟩)
theorem ef_4_3 (a0 : Addr) : ∀ m : MethodId, entryFrame m #[(.ref a0)] 1 = mkF m 0 #[.val (.ref a0)] [] := by intro m; first | (simp [entryFrame, mkF, argsToLocals, Value.category]; done) | rfl
set_option maxRecDepth 65536 in
set_option maxHeartbeats 40000000 in
theorem rm4_3 (l : Launch) (Z : State) (az : Array Value) (hw : ∀ d ∈ tables_1, d.before az Z = true) (ws : List Jvm.Cond) (a0 : Addr) (w_a0_key : Addr) (s_w_a0_key_0 : Int32) (s_w_a0_key_1 : Int32) (s_w_a0_key_2 : Int32) (h0 : Heap) (n0 : Nat) (Z0 : n0 ≤ h0.size) (F_a0_key : Fld Z h0 a0 "com/example/adiq/adiq/client/Message" "key" "[B" (.ref w_a0_key)) (A_w_a0_key : Ary Z h0 w_a0_key .byte 3 (fun i => Value.int (List.getD [s_w_a0_key_0, s_w_a0_key_1, s_w_a0_key_2] i 0))) (E_w_a0_key : Exa Z h0 w_a0_key "[B") :
    Met l (⟨"com/example/adiq/adiq/client/Message", "key", "()[B"⟩ : MethodName) prog_31_method_3_code 1 (some (.array .byte)) ws ({ frames := 1, cells := 1, slots := 3, locals := 14 } : Room) Z #[(.ref a0)] h0 (fun v h' L => ∃ b435 : Addr, n0 ≤ b435 ∧ h0.size ≤ b435 ∧ v = some (.ref b435) ∧ Fr n0 L ∧ Keep h0 h' [] ∧ Ary Z h' b435 .byte 3 (fun i => Value.int (List.getD [s_w_a0_key_0, s_w_a0_key_1, s_w_a0_key_2] i 0)) ∧ Exa Z h' b435 "[B") := by
  refine enter (plainFor_of_name pn_1) (ef_4_3 a0) ?_
  intro p e s m below meth c T0 kc kn Q hkc hkn hQ K' X0 e0
  have K : Fx p s m meth c prog_31_method_3_code 1 "com/example/adiq/adiq/client/Message" "key" (some (.array .byte)) Z := K'
  have N0 := Fr.nil n0
  have K0 : Keep h0 h0 [] := Keep.refl _ _
  refine k_aloadN K X0 d4_0 rfl rfl (q := 1) rfl ?_
  refine k_getfield K X0 e0 d4_1 (wd hw 16 rfl) F_a0_key (q := 4) rfl ?_
  intro T427 X428 e429
  refine k_ifnonnull_y K X428 d4_4 (by decide) (q := 11) rfl ?_
  refine k_aloadN K X428 d4_11 rfl rfl (q := 12) rfl ?_
  refine k_getfield K X428 e429 d4_12 (wd hw 16 rfl) F_a0_key (q := 15) rfl ?_
  intro T430 X431 e432
  refine k_clone K X431 e432 d4_15 (wd hw 25 rfl) (wd hw 26 rfl) (wd hw 30 rfl) (wd hw 28 rfl) (wd hw 29 rfl) (wd hw 31 rfl) A_w_a0_key E_w_a0_key rfl (by decide) (W := 0) (Nat.le_of_eq rfl) (by decide) (cap := 3) (by decide) (by decide) (by decide) (q := 18) rfl ?_
  intro T433 h434 b435 X436 e437 g438 E439 A440 E441
  have ne442 : a0 ≠ b435 := Nat.ne_of_lt (Nat.lt_of_lt_of_eq (F_a0_key).lt g438.symm)
  have ne443 : w_a0_key ≠ b435 := Nat.ne_of_lt (Nat.lt_of_lt_of_eq (A_w_a0_key).lt g438.symm)
  have ge444 : n0 ≤ b435 := Nat.le_trans Z0 (Nat.le_of_eq g438.symm)
  have bn445 : h0.size ≤ b435 := Nat.le_trans K0.1 (Nat.le_of_eq g438.symm)
  have f446 := Fld.ext E439 F_a0_key
  have f447 := Ary.ext A_w_a0_key E439
  have f448 := Exa.ext E439 E_w_a0_key
  have K449 := Keep.ext K0 E439
  have Z450 := Nat.le_trans Z0 E439.1
  refine k_checkcast K X436 e437 d4_18 (wd hw 32 rfl) E441 (q := 21) rfl ?_
  intro T451 X452 e453
  exact k_reta K X452 e453 d4_21 rfl rfl (Nat.le_trans (by decide) hkc) (Nat.le_trans (by decide) hkn) (hQ _ _ _ ⟨b435, ge444, bn445, rfl, N0, K449, A440, E441⟩)
theorem d5_0 : decode method_4_code 0 = .ok (.iload_n 1, 1) := by decide +kernel
theorem d5_1 : decode method_4_code 1 = .ok (.iconst 1, 1) := by decide +kernel
theorem d5_2 : decode method_4_code 2 = .ok (.if_icmp .lt 10, 3) := by decide +kernel
theorem d5_12 : decode method_4_code 12 = .ok (.iload_n 1, 1) := by decide +kernel
theorem d5_13 : decode method_4_code 13 = .ok (.iconst 2, 1) := by decide +kernel
theorem d5_14 : decode method_4_code 14 = .ok (.if_icmp .lt 10, 3) := by decide +kernel
theorem d5_24 : decode method_4_code 24 = .ok (.iload_n 1, 1) := by decide +kernel
theorem d5_25 : decode method_4_code 25 = .ok (.iconst 3, 1) := by decide +kernel
theorem d5_26 : decode method_4_code 26 = .ok (.if_icmp .lt 11, 3) := by decide +kernel
theorem d5_37 : decode method_4_code 37 = .ok (.iconst 1, 1) := by decide +kernel
theorem d5_38 : decode method_4_code 38 = .ok (.goto 4, 3) := by decide +kernel
theorem d5_42 : decode method_4_code 42 = .ok (.ireturn, 1) := by decide +kernel
theorem ef_5_0 (a0 : Addr) (p2 : Int32) (p3 : Int32) (p4 : Int32) : ∀ m : MethodId, entryFrame m #[(.ref a0), (.int (0 : Int32)), (.int p2), (.int p3), (.int p4)] 5 = mkF m 0 #[.val (.ref a0), .val (.int (0 : Int32)), .val (.int p2), .val (.int p3), .val (.int p4)] [] := by intro m; first | (simp [entryFrame, mkF, argsToLocals, Value.category]; done) | rfl
def F_sameAs_0 (p2 : Int32) (p3 : Int32) (p4 : Int32) : Int32 :=
  (1 : Int32)
set_option maxRecDepth 65536 in
set_option maxHeartbeats 40000000 in
theorem rm5_0 (l : Launch) (Z : State) (az : Array Value) (hw : ∀ d ∈ tables_1, d.before az Z = true) (ws : List Jvm.Cond) (a0 : Addr) (p2 : Int32) (p3 : Int32) (p4 : Int32) (h0 : Heap) :
    Met l (⟨"com/example/adiq/adiq/client/MessageKeyPinLaw", "sameAs", "([BIBBB)Z"⟩ : MethodName) method_4_code 5 (some .boolean) ws ({ frames := 0, cells := 0, slots := 0, locals := 0 } : Room) Z #[(.ref a0), (.int (0 : Int32)), (.int p2), (.int p3), (.int p4)] h0 (fun v h' L => v = some (Value.int (F_sameAs_0 p2 p3 p4)) ∧ h' = h0 ∧ L = []) := by
  refine enter (plainFor_of_name pn_0) (ef_5_0 a0 p2 p3 p4) ?_
  intro p e s m below meth c T0 kc kn Q hkc hkn hQ K' X0 e0
  have K : Fx p s m meth c method_4_code 5 "com/example/adiq/adiq/client/MessageKeyPinLaw" "sameAs" (some .boolean) Z := K'
  refine k_iloadN K X0 d5_0 rfl (q := 1) rfl ?_
  refine k_iconst K X0 d5_1 (v := (1 : Int32)) rfl (q := 2) rfl ?_
  refine k_icmp_lt_y K X0 d5_2 (by decide) (by decide) (q := 12) rfl ?_
  refine k_iloadN K X0 d5_12 rfl (q := 13) rfl ?_
  refine k_iconst K X0 d5_13 (v := (2 : Int32)) rfl (q := 14) rfl ?_
  refine k_icmp_lt_y K X0 d5_14 (by decide) (by decide) (q := 24) rfl ?_
  refine k_iloadN K X0 d5_24 rfl (q := 25) rfl ?_
  refine k_iconst K X0 d5_25 (v := (3 : Int32)) rfl (q := 26) rfl ?_
  refine k_icmp_lt_y K X0 d5_26 (by decide) (by decide) (q := 37) rfl ?_
  refine k_iconst K X0 d5_37 (v := (1 : Int32)) rfl (q := 38) rfl ?_
  refine k_goto K X0 d5_38 (by decide) (q := 42) rfl ?_
  exact k_retz K X0 e0 d5_42 (Nat.le_trans (by decide) hkc) (Nat.le_trans (by decide) hkn) (hQ _ _ _ ⟨(by show some (Value.int (1 : Int32)) = some (Value.int (F_sameAs_0 p2 p3 p4)); simp only [F_sameAs_0]), rfl, rfl⟩)
theorem d5_5 : decode method_4_code 5 = .ok (.aload_n 0, 1) := by decide +kernel
theorem d5_6 : decode method_4_code 6 = .ok (.iconst 0, 1) := by decide +kernel
theorem d5_7 : decode method_4_code 7 = .ok (.baload, 1) := by decide +kernel
theorem d5_8 : decode method_4_code 8 = .ok (.iload_n 2, 1) := by decide +kernel
theorem d5_9 : decode method_4_code 9 = .ok (.if_icmp .ne 32, 3) := by decide +kernel
theorem d5_41 : decode method_4_code 41 = .ok (.iconst 0, 1) := by decide +kernel
theorem ef_5_1 (a0 : Addr) (p2 : Int32) (p3 : Int32) (p4 : Int32) : ∀ m : MethodId, entryFrame m #[(.ref a0), (.int (1 : Int32)), (.int p2), (.int p3), (.int p4)] 5 = mkF m 0 #[.val (.ref a0), .val (.int (1 : Int32)), .val (.int p2), .val (.int p3), .val (.int p4)] [] := by intro m; first | (simp [entryFrame, mkF, argsToLocals, Value.category]; done) | rfl
def F_sameAs_1 (p2 : Int32) (p3 : Int32) (p4 : Int32) (s_a0_0 : Int32) : Int32 :=
  let d455 : Int32 := (if s_a0_0 = p2 then (1 : Int32) else (0 : Int32))
  (nar .boolean d455)
set_option maxRecDepth 65536 in
set_option maxHeartbeats 40000000 in
theorem rm5_1 (l : Launch) (Z : State) (az : Array Value) (hw : ∀ d ∈ tables_1, d.before az Z = true) (ws : List Jvm.Cond) (a0 : Addr) (p2 : Int32) (p3 : Int32) (p4 : Int32) (s_a0_0 : Int32) (h0 : Heap) (A_a0 : Ary Z h0 a0 .byte 1 (fun i => Value.int (List.getD [s_a0_0] i 0))) :
    Met l (⟨"com/example/adiq/adiq/client/MessageKeyPinLaw", "sameAs", "([BIBBB)Z"⟩ : MethodName) method_4_code 5 (some .boolean) ws ({ frames := 0, cells := 0, slots := 0, locals := 0 } : Room) Z #[(.ref a0), (.int (1 : Int32)), (.int p2), (.int p3), (.int p4)] h0 (fun v h' L => v = some (Value.int (F_sameAs_1 p2 p3 p4 s_a0_0)) ∧ h' = h0 ∧ L = []) := by
  refine enter (plainFor_of_name pn_0) (ef_5_1 a0 p2 p3 p4) ?_
  intro p e s m below meth c T0 kc kn Q hkc hkn hQ K' X0 e0
  have K : Fx p s m meth c method_4_code 5 "com/example/adiq/adiq/client/MessageKeyPinLaw" "sameAs" (some .boolean) Z := K'
  refine k_iloadN K X0 d5_0 rfl (q := 1) rfl ?_
  refine k_iconst K X0 d5_1 (v := (1 : Int32)) rfl (q := 2) rfl ?_
  refine k_icmp_lt_n K X0 d5_2 (by decide) (q := 5) rfl ?_
  refine k_aloadN K X0 d5_5 rfl rfl (q := 6) rfl ?_
  refine k_iconst K X0 d5_6 (v := (0 : Int32)) rfl (q := 7) rfl ?_
  refine k_baload K X0 e0 d5_7 A_a0 (i := 0) (v := (.int s_a0_0)) (by decide) (by decide) rfl (q := 8) rfl ?_
  refine k_iloadN K X0 d5_8 rfl (q := 9) rfl ?_
  have J456 : ∀ (d455 : Int32), (if s_a0_0 = p2 then (1 : Int32) else (0 : Int32)) = d455 → Run p e below s kc kn Q T0 (mkF m 42 #[.val (.ref a0), .val (.int (1 : Int32)), .val (.int p2), .val (.int p3), .val (.int p4)] [(.int d455)]) := by
    intro d455 hv_d455
    exact k_retz K X0 e0 d5_42 (Nat.le_trans (by decide) hkc) (Nat.le_trans (by decide) hkn) (hQ _ _ _ ⟨(by show some (Value.int (nar .boolean d455)) = some (Value.int (F_sameAs_1 p2 p3 p4 s_a0_0)); simp only [F_sameAs_1, hv_d455]), rfl, rfl⟩)
  refine k_icmp_ne K X0 d5_9 (by decide) (q := 41) rfl (q' := 12) rfl ?_ ?_
  · intro hc457
    refine k_iconst K X0 d5_41 (v := (0 : Int32)) rfl (q := 42) rfl ?_
    exact J456 _ (by first | rfl | (simp only [if_neg hc457]))
  · intro hc457
    refine k_iloadN K X0 d5_12 rfl (q := 13) rfl ?_
    refine k_iconst K X0 d5_13 (v := (2 : Int32)) rfl (q := 14) rfl ?_
    refine k_icmp_lt_y K X0 d5_14 (by decide) (by decide) (q := 24) rfl ?_
    refine k_iloadN K X0 d5_24 rfl (q := 25) rfl ?_
    refine k_iconst K X0 d5_25 (v := (3 : Int32)) rfl (q := 26) rfl ?_
    refine k_icmp_lt_y K X0 d5_26 (by decide) (by decide) (q := 37) rfl ?_
    refine k_iconst K X0 d5_37 (v := (1 : Int32)) rfl (q := 38) rfl ?_
    refine k_goto K X0 d5_38 (by decide) (q := 42) rfl ?_
    exact J456 _ (by first | rfl | (simp only [if_pos hc457]))
theorem d5_17 : decode method_4_code 17 = .ok (.aload_n 0, 1) := by decide +kernel
theorem d5_18 : decode method_4_code 18 = .ok (.iconst 1, 1) := by decide +kernel
theorem d5_19 : decode method_4_code 19 = .ok (.baload, 1) := by decide +kernel
theorem d5_20 : decode method_4_code 20 = .ok (.iload_n 3, 1) := by decide +kernel
theorem d5_21 : decode method_4_code 21 = .ok (.if_icmp .ne 20, 3) := by decide +kernel
theorem ef_5_2 (a0 : Addr) (p2 : Int32) (p3 : Int32) (p4 : Int32) : ∀ m : MethodId, entryFrame m #[(.ref a0), (.int (2 : Int32)), (.int p2), (.int p3), (.int p4)] 5 = mkF m 0 #[.val (.ref a0), .val (.int (2 : Int32)), .val (.int p2), .val (.int p3), .val (.int p4)] [] := by intro m; first | (simp [entryFrame, mkF, argsToLocals, Value.category]; done) | rfl
def F_sameAs_2 (p2 : Int32) (p3 : Int32) (p4 : Int32) (s_a0_0 : Int32) (s_a0_1 : Int32) : Int32 :=
  let d460 : Int32 := (if s_a0_0 = p2 then (if s_a0_1 = p3 then (1 : Int32) else (0 : Int32)) else (0 : Int32))
  (nar .boolean d460)
set_option maxRecDepth 65536 in
set_option maxHeartbeats 40000000 in
theorem rm5_2 (l : Launch) (Z : State) (az : Array Value) (hw : ∀ d ∈ tables_1, d.before az Z = true) (ws : List Jvm.Cond) (a0 : Addr) (p2 : Int32) (p3 : Int32) (p4 : Int32) (s_a0_0 : Int32) (s_a0_1 : Int32) (h0 : Heap) (A_a0 : Ary Z h0 a0 .byte 2 (fun i => Value.int (List.getD [s_a0_0, s_a0_1] i 0))) :
    Met l (⟨"com/example/adiq/adiq/client/MessageKeyPinLaw", "sameAs", "([BIBBB)Z"⟩ : MethodName) method_4_code 5 (some .boolean) ws ({ frames := 0, cells := 0, slots := 0, locals := 0 } : Room) Z #[(.ref a0), (.int (2 : Int32)), (.int p2), (.int p3), (.int p4)] h0 (fun v h' L => v = some (Value.int (F_sameAs_2 p2 p3 p4 s_a0_0 s_a0_1)) ∧ h' = h0 ∧ L = []) := by
  refine enter (plainFor_of_name pn_0) (ef_5_2 a0 p2 p3 p4) ?_
  intro p e s m below meth c T0 kc kn Q hkc hkn hQ K' X0 e0
  have K : Fx p s m meth c method_4_code 5 "com/example/adiq/adiq/client/MessageKeyPinLaw" "sameAs" (some .boolean) Z := K'
  refine k_iloadN K X0 d5_0 rfl (q := 1) rfl ?_
  refine k_iconst K X0 d5_1 (v := (1 : Int32)) rfl (q := 2) rfl ?_
  refine k_icmp_lt_n K X0 d5_2 (by decide) (q := 5) rfl ?_
  refine k_aloadN K X0 d5_5 rfl rfl (q := 6) rfl ?_
  refine k_iconst K X0 d5_6 (v := (0 : Int32)) rfl (q := 7) rfl ?_
  refine k_baload K X0 e0 d5_7 A_a0 (i := 0) (v := (.int s_a0_0)) (by decide) (by decide) rfl (q := 8) rfl ?_
  refine k_iloadN K X0 d5_8 rfl (q := 9) rfl ?_
  have J461 : ∀ (d460 : Int32), (if s_a0_0 = p2 then (if s_a0_1 = p3 then (1 : Int32) else (0 : Int32)) else (0 : Int32)) = d460 → Run p e below s kc kn Q T0 (mkF m 42 #[.val (.ref a0), .val (.int (2 : Int32)), .val (.int p2), .val (.int p3), .val (.int p4)] [(.int d460)]) := by
    intro d460 hv_d460
    exact k_retz K X0 e0 d5_42 (Nat.le_trans (by decide) hkc) (Nat.le_trans (by decide) hkn) (hQ _ _ _ ⟨(by show some (Value.int (nar .boolean d460)) = some (Value.int (F_sameAs_2 p2 p3 p4 s_a0_0 s_a0_1)); simp only [F_sameAs_2, hv_d460]), rfl, rfl⟩)
  refine k_icmp_ne K X0 d5_9 (by decide) (q := 41) rfl (q' := 12) rfl ?_ ?_
  · intro hc462
    refine k_iconst K X0 d5_41 (v := (0 : Int32)) rfl (q := 42) rfl ?_
    exact J461 _ (by first | rfl | (simp only [if_neg hc462]))
  · intro hc462
    refine k_iloadN K X0 d5_12 rfl (q := 13) rfl ?_
    refine k_iconst K X0 d5_13 (v := (2 : Int32)) rfl (q := 14) rfl ?_
    refine k_icmp_lt_n K X0 d5_14 (by decide) (q := 17) rfl ?_
    refine k_aloadN K X0 d5_17 rfl rfl (q := 18) rfl ?_
    refine k_iconst K X0 d5_18 (v := (1 : Int32)) rfl (q := 19) rfl ?_
    refine k_baload K X0 e0 d5_19 A_a0 (i := 1) (v := (.int s_a0_1)) (by decide) (by decide) rfl (q := 20) rfl ?_
    refine k_iloadN K X0 d5_20 rfl (q := 21) rfl ?_
    refine k_icmp_ne K X0 d5_21 (by decide) (q := 41) rfl (q' := 24) rfl ?_ ?_
    · intro hc463
      refine k_iconst K X0 d5_41 (v := (0 : Int32)) rfl (q := 42) rfl ?_
      exact J461 _ (by first | rfl | (simp only [if_pos hc462, if_neg hc463]))
    · intro hc463
      refine k_iloadN K X0 d5_24 rfl (q := 25) rfl ?_
      refine k_iconst K X0 d5_25 (v := (3 : Int32)) rfl (q := 26) rfl ?_
      refine k_icmp_lt_y K X0 d5_26 (by decide) (by decide) (q := 37) rfl ?_
      refine k_iconst K X0 d5_37 (v := (1 : Int32)) rfl (q := 38) rfl ?_
      refine k_goto K X0 d5_38 (by decide) (q := 42) rfl ?_
      exact J461 _ (by first | rfl | (simp only [if_pos hc462, if_pos hc463]))
theorem d5_29 : decode method_4_code 29 = .ok (.aload_n 0, 1) := by decide +kernel
theorem d5_30 : decode method_4_code 30 = .ok (.iconst 2, 1) := by decide +kernel
theorem d5_31 : decode method_4_code 31 = .ok (.baload, 1) := by decide +kernel
theorem d5_32 : decode method_4_code 32 = .ok (.iload 4, 2) := by decide +kernel
theorem d5_34 : decode method_4_code 34 = .ok (.if_icmp .ne 7, 3) := by decide +kernel
theorem ef_5_3 (a0 : Addr) (p2 : Int32) (p3 : Int32) (p4 : Int32) : ∀ m : MethodId, entryFrame m #[(.ref a0), (.int (3 : Int32)), (.int p2), (.int p3), (.int p4)] 5 = mkF m 0 #[.val (.ref a0), .val (.int (3 : Int32)), .val (.int p2), .val (.int p3), .val (.int p4)] [] := by intro m; first | (simp [entryFrame, mkF, argsToLocals, Value.category]; done) | rfl
def F_sameAs_3 (p2 : Int32) (p3 : Int32) (p4 : Int32) (s_a0_0 : Int32) (s_a0_1 : Int32) (s_a0_2 : Int32) : Int32 :=
  let d467 : Int32 := (if s_a0_0 = p2 then (if s_a0_1 = p3 then (if s_a0_2 = p4 then (1 : Int32) else (0 : Int32)) else (0 : Int32)) else (0 : Int32))
  (nar .boolean d467)
set_option maxRecDepth 65536 in
set_option maxHeartbeats 40000000 in
theorem rm5_3 (l : Launch) (Z : State) (az : Array Value) (hw : ∀ d ∈ tables_1, d.before az Z = true) (ws : List Jvm.Cond) (a0 : Addr) (p2 : Int32) (p3 : Int32) (p4 : Int32) (s_a0_0 : Int32) (s_a0_1 : Int32) (s_a0_2 : Int32) (h0 : Heap) (A_a0 : Ary Z h0 a0 .byte 3 (fun i => Value.int (List.getD [s_a0_0, s_a0_1, s_a0_2] i 0))) :
    Met l (⟨"com/example/adiq/adiq/client/MessageKeyPinLaw", "sameAs", "([BIBBB)Z"⟩ : MethodName) method_4_code 5 (some .boolean) ws ({ frames := 0, cells := 0, slots := 0, locals := 0 } : Room) Z #[(.ref a0), (.int (3 : Int32)), (.int p2), (.int p3), (.int p4)] h0 (fun v h' L => v = some (Value.int (F_sameAs_3 p2 p3 p4 s_a0_0 s_a0_1 s_a0_2)) ∧ h' = h0 ∧ L = []) := by
  refine enter (plainFor_of_name pn_0) (ef_5_3 a0 p2 p3 p4) ?_
  intro p e s m below meth c T0 kc kn Q hkc hkn hQ K' X0 e0
  have K : Fx p s m meth c method_4_code 5 "com/example/adiq/adiq/client/MessageKeyPinLaw" "sameAs" (some .boolean) Z := K'
  refine k_iloadN K X0 d5_0 rfl (q := 1) rfl ?_
  refine k_iconst K X0 d5_1 (v := (1 : Int32)) rfl (q := 2) rfl ?_
  refine k_icmp_lt_n K X0 d5_2 (by decide) (q := 5) rfl ?_
  refine k_aloadN K X0 d5_5 rfl rfl (q := 6) rfl ?_
  refine k_iconst K X0 d5_6 (v := (0 : Int32)) rfl (q := 7) rfl ?_
  refine k_baload K X0 e0 d5_7 A_a0 (i := 0) (v := (.int s_a0_0)) (by decide) (by decide) rfl (q := 8) rfl ?_
  refine k_iloadN K X0 d5_8 rfl (q := 9) rfl ?_
  have J468 : ∀ (d467 : Int32), (if s_a0_0 = p2 then (if s_a0_1 = p3 then (if s_a0_2 = p4 then (1 : Int32) else (0 : Int32)) else (0 : Int32)) else (0 : Int32)) = d467 → Run p e below s kc kn Q T0 (mkF m 42 #[.val (.ref a0), .val (.int (3 : Int32)), .val (.int p2), .val (.int p3), .val (.int p4)] [(.int d467)]) := by
    intro d467 hv_d467
    exact k_retz K X0 e0 d5_42 (Nat.le_trans (by decide) hkc) (Nat.le_trans (by decide) hkn) (hQ _ _ _ ⟨(by show some (Value.int (nar .boolean d467)) = some (Value.int (F_sameAs_3 p2 p3 p4 s_a0_0 s_a0_1 s_a0_2)); simp only [F_sameAs_3, hv_d467]), rfl, rfl⟩)
  refine k_icmp_ne K X0 d5_9 (by decide) (q := 41) rfl (q' := 12) rfl ?_ ?_
  · intro hc469
    refine k_iconst K X0 d5_41 (v := (0 : Int32)) rfl (q := 42) rfl ?_
    exact J468 _ (by first | rfl | (simp only [if_neg hc469]))
  · intro hc469
    refine k_iloadN K X0 d5_12 rfl (q := 13) rfl ?_
    refine k_iconst K X0 d5_13 (v := (2 : Int32)) rfl (q := 14) rfl ?_
    refine k_icmp_lt_n K X0 d5_14 (by decide) (q := 17) rfl ?_
    refine k_aloadN K X0 d5_17 rfl rfl (q := 18) rfl ?_
    refine k_iconst K X0 d5_18 (v := (1 : Int32)) rfl (q := 19) rfl ?_
    refine k_baload K X0 e0 d5_19 A_a0 (i := 1) (v := (.int s_a0_1)) (by decide) (by decide) rfl (q := 20) rfl ?_
    refine k_iloadN K X0 d5_20 rfl (q := 21) rfl ?_
    refine k_icmp_ne K X0 d5_21 (by decide) (q := 41) rfl (q' := 24) rfl ?_ ?_
    · intro hc470
      refine k_iconst K X0 d5_41 (v := (0 : Int32)) rfl (q := 42) rfl ?_
      exact J468 _ (by first | rfl | (simp only [if_pos hc469, if_neg hc470]))
    · intro hc470
      refine k_iloadN K X0 d5_24 rfl (q := 25) rfl ?_
      refine k_iconst K X0 d5_25 (v := (3 : Int32)) rfl (q := 26) rfl ?_
      refine k_icmp_lt_n K X0 d5_26 (by decide) (q := 29) rfl ?_
      refine k_aloadN K X0 d5_29 rfl rfl (q := 30) rfl ?_
      refine k_iconst K X0 d5_30 (v := (2 : Int32)) rfl (q := 31) rfl ?_
      refine k_baload K X0 e0 d5_31 A_a0 (i := 2) (v := (.int s_a0_2)) (by decide) (by decide) rfl (q := 32) rfl ?_
      refine k_iload K X0 d5_32 rfl (q := 34) rfl ?_
      refine k_icmp_ne K X0 d5_34 (by decide) (q := 41) rfl (q' := 37) rfl ?_ ?_
      · intro hc471
        refine k_iconst K X0 d5_41 (v := (0 : Int32)) rfl (q := 42) rfl ?_
        exact J468 _ (by first | rfl | (simp only [if_pos hc469, if_pos hc470, if_neg hc471]))
      · intro hc471
        refine k_iconst K X0 d5_37 (v := (1 : Int32)) rfl (q := 38) rfl ?_
        refine k_goto K X0 d5_38 (by decide) (q := 42) rfl ?_
        exact J468 _ (by first | rfl | (simp only [if_pos hc469, if_pos hc470, if_pos hc471]))
theorem own_eqI {x y : Int32} : x = y ↔ x.toInt = y.toInt := Int32.toInt_inj.symm
theorem own_eqJ {x y : Int64} : x = y ↔ x.toInt = y.toInt := Int64.toInt_inj.symm
theorem own_ltI {x y : Int32} : x < y ↔ x.toInt < y.toInt := Int32.lt_iff_toInt_lt
theorem own_ltJ {x y : Int64} : x < y ↔ x.toInt < y.toInt := Int64.lt_iff_toInt_lt
theorem own_enum (t : Int32) (h1 : 0 ≤ t.toInt) (h2 : t.toInt ≤ 4) : t = (0 : Int32) ∨ t = (1 : Int32) ∨ t = (2 : Int32) ∨ t = (3 : Int32) ∨ t = (4 : Int32) := by
  have h : t.toInt = 0 ∨ t.toInt = 1 ∨ t.toInt = 2 ∨ t.toInt = 3 ∨ t.toInt = 4 := by omega
  rcases h with h | h | h | h | h
  · exact Or.inl (Int32.toInt_inj.mp (h.trans (by decide)))
  · exact Or.inr (Or.inl (Int32.toInt_inj.mp (h.trans (by decide))))
  · exact Or.inr (Or.inr (Or.inl (Int32.toInt_inj.mp (h.trans (by decide)))))
  · exact Or.inr (Or.inr (Or.inr (Or.inl (Int32.toInt_inj.mp (h.trans (by decide))))))
  · exact Or.inr (Or.inr (Or.inr (Or.inr (Int32.toInt_inj.mp (h.trans (by decide))))))
theorem own_sel (p v : Int32) (h0 : ¬ v = 0) (h1 : ¬ v = 1) (h2 : ¬ v = 2) (h3 : ¬ v = 3) (h4 : ¬ v = 4) : ¬ ((p &&& 7) % 5 = v) := fun z => by
  subst z
  have a1 := (c_and p 7 (by decide)).1
  have a2 := (c_irem (p &&& 7) 5 5 rfl).1 a1
  rcases own_enum ((p &&& 7) % 5) (by omega) (by omega) with h | h | h | h | h
  · exact h0 h
  · exact h1 h
  · exact h2 h
  · exact h3 h
  · exact h4 h
theorem pd_0 : parseMethodDescriptor "(IBBB)[B" = some ⟨[.int, .byte, .byte, .byte], some (.array .byte)⟩ := by decide +kernel
theorem pd_1 : parseMethodDescriptor "(J[B[B)V" = some ⟨[.long, (.array .byte), (.array .byte)], none⟩ := by decide +kernel
theorem pd_2 : parseMethodDescriptor "()[B" = some ⟨[], some (.array .byte)⟩ := by decide +kernel
theorem pd_3 : parseMethodDescriptor "([BIBBB)Z" = some ⟨[(.array .byte), .int, .byte, .byte, .byte], some .boolean⟩ := by decide +kernel
theorem ef_0 (q0 : Int64) (p1 : Int32) (p2 : Int32) (p3 : Int32) (p4 : Int32) : ∀ m : MethodId, entryFrame m #[(.long q0), (.int p1), (.int p2), (.int p3), (.int p4)] maxLocals = mkF m 0 #[.val (.long q0), .second, .val (.int p1), .val (.int p2), .val (.int p3), .val (.int p4), .unset, .unset, .unset, .unset, .unset, .unset, .unset, .unset, .unset] [] := by intro m; first | (simp [entryFrame, mkF, argsToLocals, Value.category, maxLocals]; done) | rfl
def F_law (q0 : Int64) (p1 : Int32) (p2 : Int32) (p3 : Int32) (p4 : Int32) : Int32 :=
  let v472 : Int32 := ((p1 &&& (7 : Int32)) % (5 : Int32))
  if v472 = (0 : Int32) then
    let v474 : Int32 := (i2b p2)
    let v475 : Int32 := (i2b p3)
    let v476 : Int32 := (i2b p4)
    (1 : Int32)
  else
    if v472 = (1 : Int32) then
      let v552 : Int32 := (i2b p2)
      let v553 : Int32 := (i2b p3)
      let v554 : Int32 := (i2b p4)
      if (F_sameAs_0 v552 v553 v554) = (0 : Int32) then
        (0 : Int32)
      else
        (1 : Int32)
    else
      if v472 = (2 : Int32) then
        let v711 : Int32 := (i2b p2)
        let v712 : Int32 := (i2b p3)
        let v713 : Int32 := (i2b p4)
        let v729 : Int32 := (nar .byte v711)
        if (F_sameAs_1 v711 v712 v713 v729) = (0 : Int32) then
          (0 : Int32)
        else
          (1 : Int32)
      else
        if v472 = (3 : Int32) then
          let v890 : Int32 := (i2b p2)
          let v891 : Int32 := (i2b p3)
          let v892 : Int32 := (i2b p4)
          let v908 : Int32 := (nar .byte v890)
          let v909 : Int32 := (nar .byte v891)
          if (F_sameAs_2 v890 v891 v892 v908 v909) = (0 : Int32) then
            (0 : Int32)
          else
            (1 : Int32)
        else
          if v472 = (4 : Int32) then
            let v1070 : Int32 := (i2b p2)
            let v1071 : Int32 := (i2b p3)
            let v1072 : Int32 := (i2b p4)
            let v1088 : Int32 := (nar .byte v1070)
            let v1089 : Int32 := (nar .byte v1071)
            let v1090 : Int32 := (nar .byte v1072)
            if (F_sameAs_3 v1070 v1071 v1072 v1088 v1089 v1090) = (0 : Int32) then
              (0 : Int32)
            else
              (1 : Int32)
          else
            (1 : Int32)
set_option maxRecDepth 65536 in
set_option maxHeartbeats 40000000 in
theorem rm0 (l : Launch) (Z : State) (az : Array Value) (hw : ∀ d ∈ tables_1, d.before az Z = true) (ws : List Jvm.Cond) (q0 : Int64) (p1 : Int32) (p2 : Int32) (p3 : Int32) (p4 : Int32) (h0 : Heap) (n0 : Nat) (Z0 : n0 ≤ h0.size) :
    Met l x code maxLocals ret ws room_1 Z #[(.long q0), (.int p1), (.int p2), (.int p3), (.int p4)] h0 (fun v h' L => v = some (Value.int (F_law q0 p1 p2 p3 p4)) ∧ Fr n0 L) := by
  refine enter (plainFor_of_name pn_0) (ef_0 q0 p1 p2 p3 p4) ?_
  intro p e s m below meth c T0 kc kn Q hkc hkn hQ K' X0 e0
  have K : Fx p s m meth c code 15 "com/example/adiq/adiq/client/MessageKeyPinLaw" "law" (some .boolean) Z := K'
  have N0 := Fr.nil n0
  have K0 : Keep h0 h0 [] := Keep.refl _ _
  refine k_iloadN K X0 at_0 rfl (q := 1) rfl ?_
  refine k_bipush K X0 at_1 (v := (7 : Int32)) rfl (q := 3) rfl ?_
  refine k_iand K X0 at_3 (q := 4) rfl ?_
  refine k_iconst K X0 at_4 (v := (5 : Int32)) rfl (q := 5) rfl ?_
  refine k_irem K X0 at_5 (by decide) (q := 6) rfl ?_
  obtain ⟨v472, hv_v472⟩ : ∃ z : Int32, ((p1 &&& (7 : Int32)) % (5 : Int32)) = z := ⟨_, rfl⟩
  refine k_istore K X0 at_6 hv_v472 (Ls' := #[.val (.long q0), .second, .val (.int p1), .val (.int p2), .val (.int p3), .val (.int p4), .val (.int v472), .unset, .unset, .unset, .unset, .unset, .unset, .unset, .unset]) rfl (q := 8) rfl ?_
  by_cases hs473 : v472 = (0 : Int32)
  · subst hs473
    refine k_iloadN K X0 at_8 rfl (q := 9) rfl ?_
    refine k_i2b K X0 at_9 (q := 10) rfl ?_
    obtain ⟨v474, hv_v474⟩ : ∃ z : Int32, (i2b p2) = z := ⟨_, rfl⟩
    refine k_istore K X0 at_10 hv_v474 (Ls' := #[.val (.long q0), .second, .val (.int p1), .val (.int p2), .val (.int p3), .val (.int p4), .val (.int (0 : Int32)), .val (.int v474), .unset, .unset, .unset, .unset, .unset, .unset, .unset]) rfl (q := 12) rfl ?_
    refine k_iload K X0 at_12 rfl (q := 14) rfl ?_
    refine k_i2b K X0 at_14 (q := 15) rfl ?_
    obtain ⟨v475, hv_v475⟩ : ∃ z : Int32, (i2b p3) = z := ⟨_, rfl⟩
    refine k_istore K X0 at_15 hv_v475 (Ls' := #[.val (.long q0), .second, .val (.int p1), .val (.int p2), .val (.int p3), .val (.int p4), .val (.int (0 : Int32)), .val (.int v474), .val (.int v475), .unset, .unset, .unset, .unset, .unset, .unset]) rfl (q := 17) rfl ?_
    refine k_iload K X0 at_17 rfl (q := 19) rfl ?_
    refine k_i2b K X0 at_19 (q := 20) rfl ?_
    obtain ⟨v476, hv_v476⟩ : ∃ z : Int32, (i2b p4) = z := ⟨_, rfl⟩
    refine k_istore K X0 at_20 hv_v476 (Ls' := #[.val (.long q0), .second, .val (.int p1), .val (.int p2), .val (.int p3), .val (.int p4), .val (.int (0 : Int32)), .val (.int v474), .val (.int v475), .val (.int v476), .unset, .unset, .unset, .unset, .unset]) rfl (q := 22) rfl ?_
    refine k_iload K X0 at_22 rfl (q := 24) rfl ?_
    refine k_iload K X0 at_24 rfl (q := 26) rfl ?_
    refine k_iload K X0 at_26 rfl (q := 28) rfl ?_
    refine k_iload K X0 at_28 rfl (q := 30) rfl ?_
    refine k_staticP K X0 e0 at_30 (wd hw 0 rfl) (wd hw 1 rfl) (wd hw 2 rfl) (wd hw 3 rfl) (by decide) (rm1_0 l Z az hw [] v474 v475 v476 h0) (W := 0) (by decide) (by decide) (by decide) (by decide) rfl pd_0 (argsL := [(.int (0 : Int32)), (.int v474), (.int v475), (.int v476)]) (rest := []) rfl rfl rfl (Nat.le_of_eq rfl) (q := 33) rfl ?_
    intro T477 X478 e479
    refine k_astore K X478 at_33 rfl (Ls' := #[.val (.long q0), .second, .val (.int p1), .val (.int p2), .val (.int p3), .val (.int p4), .val (.int (0 : Int32)), .val (.int v474), .val (.int v475), .val (.int v476), .val .null, .unset, .unset, .unset, .unset]) rfl (q := 35) rfl ?_
    refine k_new K X478 e479 at_35 (wd hw 5 rfl) (wd hw 6 rfl) (wd hw 7 rfl) (by decide) (by decide) (q := 38) rfl ?_
    intro T480 h481 b482 X483 e484 g485 E486 A487 D488
    have ge489 : n0 ≤ b482 := Nat.le_trans Z0 (Nat.le_of_eq g485.symm)
    have bn490 : h0.size ≤ b482 := Nat.le_trans K0.1 (Nat.le_of_eq g485.symm)
    have K491 := Keep.ext K0 E486
    have Z492 := Nat.le_trans Z0 E486.1
    have f493 : Fld Z h481 b482 "com/example/adiq/adiq/client/Message" "offset" "J" (.long (0 : Int64)) := D488 (Or.inr (wd hw 15 rfl)) (ty := .long) (by decide)
    have f494 : Fld Z h481 b482 "com/example/adiq/adiq/client/Message" "key" "[B" .null := D488 (Or.inr (wd hw 17 rfl)) (ty := (.array .byte)) (by decide)
    have f495 : Fld Z h481 b482 "com/example/adiq/adiq/client/Message" "payload" "[B" .null := D488 (Or.inr (wd hw 19 rfl)) (ty := (.array .byte)) (by decide)
    refine k_dup K X483 at_38 rfl (q := 39) rfl ?_
    refine k_lloadN K X483 at_39 rfl (q := 40) rfl ?_
    refine k_aload K X483 at_40 rfl rfl (q := 42) rfl ?_
    refine k_iconst K X483 at_42 (v := (1 : Int32)) rfl (q := 43) rfl ?_
    refine k_newarrayE K X483 e484 at_43 (ty := .byte) rfl (ad := "[B") (by decide) (wd hw 4 rfl) (n := 1) (cap := 1) (by decide) (by decide) (by decide) (by decide) (by decide) (q := 45) rfl ?_
    intro T496 h497 b498 X499 e500 g501 E502 A503 E504
    have ne505 : b482 ≠ b498 := Nat.ne_of_lt (Nat.lt_of_lt_of_eq (A487).lt g501.symm)
    have ge506 : n0 ≤ b498 := Nat.le_trans Z492 (Nat.le_of_eq g501.symm)
    have bn507 : h0.size ≤ b498 := Nat.le_trans K491.1 (Nat.le_of_eq g501.symm)
    have f508 := Exa.ext E502 A487
    have f509 := Fld.ext E502 f493
    have f510 := Fld.ext E502 f494
    have f511 := Fld.ext E502 f495
    have K512 := Keep.ext K491 E502
    have Z513 := Nat.le_trans Z492 E502.1
    have f514 : Ary Z h497 b498 .byte 1 (fun i => Value.int (List.getD [(0 : Int32)] i 0)) := Ary.eqv A503 (by intro i hi; match i, hi with | 0, _ => rfl | (k + 1), hi => exact absurd hi (by omega))
    refine k_dup K X499 at_45 rfl (q := 46) rfl ?_
    refine k_iconst K X499 at_46 (v := (0 : Int32)) rfl (q := 47) rfl ?_
    refine k_iloadN K X499 at_47 rfl (q := 48) rfl ?_
    refine k_i2b K X499 at_48 (q := 49) rfl ?_
    refine k_bastore K X499 e500 at_49 f514 (i := 0) (by decide) (by decide) (q := 50) rfl ?_
    intro T515 h516 X517 e518 W519 A520
    have f521 : Ary Z h516 b498 .byte 1 (fun i => Value.int (List.getD [(nar .byte (i2b p1))] i 0)) := Ary.eqv A520 (by intro i hi; match i, hi with | 0, _ => rfl | (k + 1), hi => exact absurd hi (by omega))
    have f522 := Exa.wr W519 f508
    have f523 := Fld.other W519 f509 (Or.inl ne505)
    have f524 := Fld.other W519 f510 (Or.inl ne505)
    have f525 := Fld.other W519 f511 (Or.inl ne505)
    have f526 := Exa.wr W519 E504
    have N527 := Fr.snoc X517 N0 ge506
    have K528 := Keep.wr K512 W519 (Or.inr bn507)
    have Z529 := Nat.le_trans Z513 (Nat.le_of_eq (Wr.size W519).symm)
    refine k_special K X517 e518 at_50 rfl (wd hw 8 rfl) (wd hw 9 rfl) (wd hw 7 rfl) (wd hw 10 rfl) (by decide) (rm2n l Z az hw [] b482 q0 b498 (0 : Int64) .null .null h516 n0 Z529 f522 f523 ge489 f524 f525) (W := 1) (by decide) (by decide) (by decide) (by decide) rfl pd_1 (argsL := [(.long q0), .null, (.ref b498)]) (rest := [(.ref b482)]) rfl rfl rfl (Nat.le_of_eq rfl) (q := 53) rfl ?_
    rintro _ T530 L531 X532 ⟨rfl, N533, K534, f536, f537, f538⟩
    have f539 := Exa.keep f522 K534
    have f540 := Exa.keep f526 K534
    have f541 := Ary.keep f521 K534 (ninS (Ne.symm ne505) nin0)
    have N542 := Fr.app N527 N533
    have K543 := Keep.trans K528 K534 (allS (Or.inr bn490) all0)
    have Z544 := Nat.le_trans Z529 K534.1
    refine k_astore K X532 at_53 rfl (Ls' := #[.val (.long q0), .second, .val (.int p1), .val (.int p2), .val (.int p3), .val (.int p4), .val (.int (0 : Int32)), .val (.int v474), .val (.int v475), .val (.int v476), .val .null, .val (.ref b482), .unset, .unset, .unset]) rfl (q := 55) rfl ?_
    refine k_aload K X532 at_55 rfl rfl (q := 57) rfl ?_
    refine k_virtualP K X532 rfl at_57 (wd hw 20 rfl) (wd hw 21 rfl) (wd hw 23 rfl) (wd hw 22 rfl) (wd hw 7 rfl) (wd hw 24 rfl) (by decide) f539 (rm4n l Z az hw [] b482 T530.heap f536) (W := 0) (by decide) (by decide) (by decide) (by decide) rfl pd_2 (argsL := []) (rest := []) rfl rfl rfl (Nat.le_of_eq rfl) (q := 60) rfl ?_
    intro T545 X546 e547
    refine k_astore K X546 at_60 rfl (Ls' := #[.val (.long q0), .second, .val (.int p1), .val (.int p2), .val (.int p3), .val (.int p4), .val (.int (0 : Int32)), .val (.int v474), .val (.int v475), .val (.int v476), .val .null, .val (.ref b482), .val .null, .unset, .unset]) rfl (q := 62) rfl ?_
    refine k_aload K X546 at_62 rfl rfl (q := 64) rfl ?_
    refine k_ifnonnull_n K X546 at_64 (q := 67) rfl ?_
    refine k_aload K X546 at_67 rfl rfl (q := 69) rfl ?_
    refine k_virtualP K X546 e547 at_69 (wd hw 20 rfl) (wd hw 21 rfl) (wd hw 23 rfl) (wd hw 22 rfl) (wd hw 7 rfl) (wd hw 24 rfl) (by decide) f539 (rm4n l Z az hw [] b482 T530.heap f536) (W := 0) (by decide) (by decide) (by decide) (by decide) rfl pd_2 (argsL := []) (rest := []) rfl rfl rfl (Nat.le_of_eq rfl) (q := 72) rfl ?_
    intro T548 X549 e550
    refine k_astore K X549 at_72 rfl (Ls' := #[.val (.long q0), .second, .val (.int p1), .val (.int p2), .val (.int p3), .val (.int p4), .val (.int (0 : Int32)), .val (.int v474), .val (.int v475), .val (.int v476), .val .null, .val (.ref b482), .val .null, .val .null, .unset]) rfl (q := 74) rfl ?_
    refine k_aload K X549 at_74 rfl rfl (q := 76) rfl ?_
    refine k_ifnonnull_n K X549 at_76 (q := 79) rfl ?_
    refine k_aload K X549 at_79 rfl rfl (q := 81) rfl ?_
    refine k_ifnonnull_n K X549 at_81 (q := 84) rfl ?_
    refine k_iconst K X549 at_84 (v := (1 : Int32)) rfl (q := 85) rfl ?_
    refine k_goto K X549 at_85 (by decide) (q := 89) rfl ?_
    exact k_retz K X549 e550 at_89 (Nat.le_trans (by decide) hkc) (Nat.le_trans (by decide) hkn) (hQ _ _ _ ⟨(by show some (Value.int (1 : Int32)) = some (Value.int (F_law q0 p1 p2 p3 p4)); simp only [F_law, hv_v472, hv_v474, hv_v475, hv_v476, if_pos (rfl : (0 : Int32) = (0 : Int32)), if_true]), N542⟩)
  by_cases hs551 : v472 = (1 : Int32)
  · subst hs551
    refine k_iloadN K X0 at_8 rfl (q := 9) rfl ?_
    refine k_i2b K X0 at_9 (q := 10) rfl ?_
    obtain ⟨v552, hv_v552⟩ : ∃ z : Int32, (i2b p2) = z := ⟨_, rfl⟩
    refine k_istore K X0 at_10 hv_v552 (Ls' := #[.val (.long q0), .second, .val (.int p1), .val (.int p2), .val (.int p3), .val (.int p4), .val (.int (1 : Int32)), .val (.int v552), .unset, .unset, .unset, .unset, .unset, .unset, .unset]) rfl (q := 12) rfl ?_
    refine k_iload K X0 at_12 rfl (q := 14) rfl ?_
    refine k_i2b K X0 at_14 (q := 15) rfl ?_
    obtain ⟨v553, hv_v553⟩ : ∃ z : Int32, (i2b p3) = z := ⟨_, rfl⟩
    refine k_istore K X0 at_15 hv_v553 (Ls' := #[.val (.long q0), .second, .val (.int p1), .val (.int p2), .val (.int p3), .val (.int p4), .val (.int (1 : Int32)), .val (.int v552), .val (.int v553), .unset, .unset, .unset, .unset, .unset, .unset]) rfl (q := 17) rfl ?_
    refine k_iload K X0 at_17 rfl (q := 19) rfl ?_
    refine k_i2b K X0 at_19 (q := 20) rfl ?_
    obtain ⟨v554, hv_v554⟩ : ∃ z : Int32, (i2b p4) = z := ⟨_, rfl⟩
    refine k_istore K X0 at_20 hv_v554 (Ls' := #[.val (.long q0), .second, .val (.int p1), .val (.int p2), .val (.int p3), .val (.int p4), .val (.int (1 : Int32)), .val (.int v552), .val (.int v553), .val (.int v554), .unset, .unset, .unset, .unset, .unset]) rfl (q := 22) rfl ?_
    refine k_iload K X0 at_22 rfl (q := 24) rfl ?_
    refine k_iload K X0 at_24 rfl (q := 26) rfl ?_
    refine k_iload K X0 at_26 rfl (q := 28) rfl ?_
    refine k_iload K X0 at_28 rfl (q := 30) rfl ?_
    refine k_static K X0 e0 at_30 (wd hw 0 rfl) (wd hw 1 rfl) (wd hw 2 rfl) (wd hw 3 rfl) (by decide) (rm1_1 l Z az hw [] v552 v553 v554 h0 n0 Z0) (W := 0) (by decide) (by decide) (by decide) (by decide) rfl pd_0 (argsL := [(.int (1 : Int32)), (.int v552), (.int v553), (.int v554)]) (rest := []) rfl rfl rfl (Nat.le_of_eq rfl) (q := 33) rfl ?_
    rintro _ T555 L556 X557 ⟨b561, ge562, bn563, rfl, N558, K559, f564, f565⟩
    have bn566 : h0.size ≤ b561 := Nat.le_trans K0.1 bn563
    have N567 := Fr.app N0 N558
    have K568 := Keep.trans K0 K559 all0
    have Z569 := Nat.le_trans Z0 K559.1
    refine k_astore K X557 at_33 rfl (Ls' := #[.val (.long q0), .second, .val (.int p1), .val (.int p2), .val (.int p3), .val (.int p4), .val (.int (1 : Int32)), .val (.int v552), .val (.int v553), .val (.int v554), .val (.ref b561), .unset, .unset, .unset, .unset]) rfl (q := 35) rfl ?_
    refine k_new K X557 rfl at_35 (wd hw 5 rfl) (wd hw 6 rfl) (wd hw 7 rfl) (by decide) (by decide) (q := 38) rfl ?_
    intro T570 h571 b572 X573 e574 g575 E576 A577 D578
    have ne579 : b561 ≠ b572 := Nat.ne_of_lt (Nat.lt_of_lt_of_eq (f564).lt g575.symm)
    have ge580 : n0 ≤ b572 := Nat.le_trans Z569 (Nat.le_of_eq g575.symm)
    have bn581 : h0.size ≤ b572 := Nat.le_trans K568.1 (Nat.le_of_eq g575.symm)
    have f582 := Exa.ext E576 f564
    have f583 := Ary.ext f565 E576
    have K584 := Keep.ext K568 E576
    have Z585 := Nat.le_trans Z569 E576.1
    have f586 : Fld Z h571 b572 "com/example/adiq/adiq/client/Message" "offset" "J" (.long (0 : Int64)) := D578 (Or.inr (wd hw 15 rfl)) (ty := .long) (by decide)
    have f587 : Fld Z h571 b572 "com/example/adiq/adiq/client/Message" "key" "[B" .null := D578 (Or.inr (wd hw 17 rfl)) (ty := (.array .byte)) (by decide)
    have f588 : Fld Z h571 b572 "com/example/adiq/adiq/client/Message" "payload" "[B" .null := D578 (Or.inr (wd hw 19 rfl)) (ty := (.array .byte)) (by decide)
    refine k_dup K X573 at_38 rfl (q := 39) rfl ?_
    refine k_lloadN K X573 at_39 rfl (q := 40) rfl ?_
    refine k_aload K X573 at_40 rfl rfl (q := 42) rfl ?_
    refine k_iconst K X573 at_42 (v := (1 : Int32)) rfl (q := 43) rfl ?_
    refine k_newarrayE K X573 e574 at_43 (ty := .byte) rfl (ad := "[B") (by decide) (wd hw 4 rfl) (n := 1) (cap := 1) (by decide) (by decide) (by decide) (by decide) (by decide) (q := 45) rfl ?_
    intro T589 h590 b591 X592 e593 g594 E595 A596 E597
    have ne598 : b561 ≠ b591 := Nat.ne_of_lt (Nat.lt_of_lt_of_eq (f582).lt g594.symm)
    have ne599 : b572 ≠ b591 := Nat.ne_of_lt (Nat.lt_of_lt_of_eq (A577).lt g594.symm)
    have ge600 : n0 ≤ b591 := Nat.le_trans Z585 (Nat.le_of_eq g594.symm)
    have bn601 : h0.size ≤ b591 := Nat.le_trans K584.1 (Nat.le_of_eq g594.symm)
    have f602 := Exa.ext E595 f582
    have f603 := Ary.ext f583 E595
    have f604 := Exa.ext E595 A577
    have f605 := Fld.ext E595 f586
    have f606 := Fld.ext E595 f587
    have f607 := Fld.ext E595 f588
    have K608 := Keep.ext K584 E595
    have Z609 := Nat.le_trans Z585 E595.1
    have f610 : Ary Z h590 b591 .byte 1 (fun i => Value.int (List.getD [(0 : Int32)] i 0)) := Ary.eqv A596 (by intro i hi; match i, hi with | 0, _ => rfl | (k + 1), hi => exact absurd hi (by omega))
    refine k_dup K X592 at_45 rfl (q := 46) rfl ?_
    refine k_iconst K X592 at_46 (v := (0 : Int32)) rfl (q := 47) rfl ?_
    refine k_iloadN K X592 at_47 rfl (q := 48) rfl ?_
    refine k_i2b K X592 at_48 (q := 49) rfl ?_
    refine k_bastore K X592 e593 at_49 f610 (i := 0) (by decide) (by decide) (q := 50) rfl ?_
    intro T611 h612 X613 e614 W615 A616
    have f617 : Ary Z h612 b591 .byte 1 (fun i => Value.int (List.getD [(nar .byte (i2b p1))] i 0)) := Ary.eqv A616 (by intro i hi; match i, hi with | 0, _ => rfl | (k + 1), hi => exact absurd hi (by omega))
    have f618 := Exa.wr W615 f602
    have f619 := Ary.other f603 W615 ne598
    have f620 := Exa.wr W615 f604
    have f621 := Fld.other W615 f605 (Or.inl ne599)
    have f622 := Fld.other W615 f606 (Or.inl ne599)
    have f623 := Fld.other W615 f607 (Or.inl ne599)
    have f624 := Exa.wr W615 E597
    have N625 := Fr.snoc X613 N567 ge600
    have K626 := Keep.wr K608 W615 (Or.inr bn601)
    have Z627 := Nat.le_trans Z609 (Nat.le_of_eq (Wr.size W615).symm)
    refine k_special K X613 e614 at_50 rfl (wd hw 8 rfl) (wd hw 9 rfl) (wd hw 7 rfl) (wd hw 10 rfl) (by decide) (rm2 l Z az hw [] b572 q0 b561 b591 (0 : Int64) .null .null h612 n0 Z627 f620 f621 ge580 f622 f623) (W := 1) (by decide) (by decide) (by decide) (by decide) rfl pd_1 (argsL := [(.long q0), (.ref b561), (.ref b591)]) (rest := [(.ref b572)]) rfl rfl rfl (Nat.le_of_eq rfl) (q := 53) rfl ?_
    rintro _ T628 L629 X630 ⟨rfl, N631, K632, f634, f635, f636⟩
    have f637 := Exa.keep f618 K632
    have f638 := Ary.keep f619 K632 (ninS ne579 nin0)
    have f639 := Exa.keep f620 K632
    have f640 := Exa.keep f624 K632
    have f641 := Ary.keep f617 K632 (ninS (Ne.symm ne599) nin0)
    have N642 := Fr.app N625 N631
    have K643 := Keep.trans K626 K632 (allS (Or.inr bn581) all0)
    have Z644 := Nat.le_trans Z627 K632.1
    refine k_astore K X630 at_53 rfl (Ls' := #[.val (.long q0), .second, .val (.int p1), .val (.int p2), .val (.int p3), .val (.int p4), .val (.int (1 : Int32)), .val (.int v552), .val (.int v553), .val (.int v554), .val (.ref b561), .val (.ref b572), .unset, .unset, .unset]) rfl (q := 55) rfl ?_
    refine k_aload K X630 at_55 rfl rfl (q := 57) rfl ?_
    refine k_virtual K X630 rfl at_57 (wd hw 20 rfl) (wd hw 21 rfl) (wd hw 23 rfl) (wd hw 22 rfl) (wd hw 7 rfl) (wd hw 24 rfl) (by decide) f639 (rm4_0 l Z az hw [] b572 b561 T628.heap n0 Z644 f634 f638 f637) (W := 0) (by decide) (by decide) (by decide) (by decide) rfl pd_2 (argsL := []) (rest := []) rfl rfl rfl (Nat.le_of_eq rfl) (q := 60) rfl ?_
    rintro _ T645 L646 X647 ⟨b651, ge652, bn653, rfl, N648, K649, f654, f655⟩
    have ne656 : b561 ≠ b651 := Nat.ne_of_lt (Nat.lt_of_lt_of_le (f637).lt bn653)
    have ne657 : b572 ≠ b651 := Nat.ne_of_lt (Nat.lt_of_lt_of_le (f639).lt bn653)
    have ne658 : b591 ≠ b651 := Nat.ne_of_lt (Nat.lt_of_lt_of_le (f640).lt bn653)
    have bn659 : h0.size ≤ b651 := Nat.le_trans K643.1 bn653
    have f660 := Exa.keep f637 K649
    have f661 := Ary.keep f638 K649 nin0
    have f662 := Exa.keep f639 K649
    have f663 := Exa.keep f640 K649
    have f664 := Ary.keep f641 K649 nin0
    have f665 := Fld.keep f634 K649 nin0
    have f666 := Fld.keep f635 K649 nin0
    have f667 := Fld.keep f636 K649 nin0
    have N668 := Fr.app N642 N648
    have K669 := Keep.trans K643 K649 all0
    have Z670 := Nat.le_trans Z644 K649.1
    refine k_astore K X647 at_60 rfl (Ls' := #[.val (.long q0), .second, .val (.int p1), .val (.int p2), .val (.int p3), .val (.int p4), .val (.int (1 : Int32)), .val (.int v552), .val (.int v553), .val (.int v554), .val (.ref b561), .val (.ref b572), .val (.ref b651), .unset, .unset]) rfl (q := 62) rfl ?_
    refine k_aload K X647 at_62 rfl rfl (q := 64) rfl ?_
    refine k_ifnonnull_y K X647 at_64 (by decide) (q := 90) rfl ?_
    refine k_aload K X647 at_90 rfl rfl (q := 92) rfl ?_
    refine k_ifnull_n K X647 at_92 (q := 95) rfl ?_
    refine k_aload K X647 at_95 rfl rfl (q := 97) rfl ?_
    refine k_aload K X647 at_97 rfl rfl (q := 99) rfl ?_
    refine k_acmp K X647 at_99 rfl rfl (same := false) (decide_eq_false fun z => (Ne.symm ne656) (Value.ref.inj z)) (by decide) (q := 104) (by decide) ?_
    refine k_aload K X647 at_104 rfl rfl (q := 106) rfl ?_
    refine k_arraylength K X647 rfl at_106 f661 (v := (0 : Int32)) rfl (q := 107) rfl ?_
    refine k_istore K X647 at_107 rfl (Ls' := #[.val (.long q0), .second, .val (.int p1), .val (.int p2), .val (.int p3), .val (.int p4), .val (.int (1 : Int32)), .val (.int v552), .val (.int v553), .val (.int v554), .val (.ref b561), .val (.ref b572), .val (.ref b651), .val (.int (0 : Int32)), .unset]) rfl (q := 109) rfl ?_
    refine k_aload K X647 at_109 rfl rfl (q := 111) rfl ?_
    refine k_arraylength K X647 rfl at_111 f654 (v := (0 : Int32)) rfl (q := 112) rfl ?_
    refine k_iload K X647 at_112 rfl (q := 114) rfl ?_
    refine k_icmp_eq_y K X647 at_114 (by decide) (by decide) (q := 119) rfl ?_
    refine k_aload K X647 at_119 rfl rfl (q := 121) rfl ?_
    refine k_iload K X647 at_121 rfl (q := 123) rfl ?_
    refine k_iload K X647 at_123 rfl (q := 125) rfl ?_
    refine k_iload K X647 at_125 rfl (q := 127) rfl ?_
    refine k_iload K X647 at_127 rfl (q := 129) rfl ?_
    refine k_staticP K X647 rfl at_129 (wd hw 34 rfl) (wd hw 35 rfl) (wd hw 2 rfl) (wd hw 36 rfl) (by decide) (rm5_0 l Z az hw [] b651 v552 v553 v554 T645.heap) (W := 0) (by decide) (by decide) (by decide) (by decide) rfl pd_3 (argsL := [(.ref b651), (.int (0 : Int32)), (.int v552), (.int v553), (.int v554)]) (rest := []) rfl rfl rfl (Nat.le_of_eq rfl) (q := 132) rfl ?_
    intro T671 X672 e673
    refine k_if_ne K X672 at_132 (by decide) (q := 137) rfl (q' := 135) rfl ?_ ?_
    · intro hc674
      refine k_iload K X672 at_137 rfl (q := 139) rfl ?_
      refine k_if_le_y K X672 at_139 (by decide) (by decide) (q := 153) rfl ?_
      refine k_aload K X672 at_153 rfl rfl (q := 155) rfl ?_
      refine k_virtual K X672 e673 at_155 (wd hw 20 rfl) (wd hw 21 rfl) (wd hw 23 rfl) (wd hw 22 rfl) (wd hw 7 rfl) (wd hw 24 rfl) (by decide) f662 (rm4_0 l Z az hw [] b572 b561 T645.heap n0 Z670 f665 f661 f660) (W := 0) (by decide) (by decide) (by decide) (by decide) rfl pd_2 (argsL := []) (rest := []) rfl rfl rfl (Nat.le_of_eq rfl) (q := 158) rfl ?_
      rintro _ T675 L676 X677 ⟨b681, ge682, bn683, rfl, N678, K679, f684, f685⟩
      have ne686 : b561 ≠ b681 := Nat.ne_of_lt (Nat.lt_of_lt_of_le (f660).lt bn683)
      have ne687 : b572 ≠ b681 := Nat.ne_of_lt (Nat.lt_of_lt_of_le (f662).lt bn683)
      have ne688 : b591 ≠ b681 := Nat.ne_of_lt (Nat.lt_of_lt_of_le (f663).lt bn683)
      have ne689 : b651 ≠ b681 := Nat.ne_of_lt (Nat.lt_of_lt_of_le (f654).lt bn683)
      have bn690 : h0.size ≤ b681 := Nat.le_trans K669.1 bn683
      have f691 := Exa.keep f660 K679
      have f692 := Ary.keep f661 K679 nin0
      have f693 := Exa.keep f662 K679
      have f694 := Exa.keep f663 K679
      have f695 := Ary.keep f664 K679 nin0
      have f696 := Fld.keep f665 K679 nin0
      have f697 := Fld.keep f666 K679 nin0
      have f698 := Fld.keep f667 K679 nin0
      have f699 := Ary.keep f654 K679 nin0
      have f700 := Exa.keep f655 K679
      have N701 := Fr.app N668 N678
      have K702 := Keep.trans K669 K679 all0
      have Z703 := Nat.le_trans Z670 K679.1
      refine k_astore K X677 at_158 rfl (Ls' := #[.val (.long q0), .second, .val (.int p1), .val (.int p2), .val (.int p3), .val (.int p4), .val (.int (1 : Int32)), .val (.int v552), .val (.int v553), .val (.int v554), .val (.ref b561), .val (.ref b572), .val (.ref b651), .val (.int (0 : Int32)), .val (.ref b681)]) rfl (q := 160) rfl ?_
      refine k_aload K X677 at_160 rfl rfl (q := 162) rfl ?_
      refine k_ifnull_n K X677 at_162 (q := 165) rfl ?_
      refine k_aload K X677 at_165 rfl rfl (q := 167) rfl ?_
      refine k_aload K X677 at_167 rfl rfl (q := 169) rfl ?_
      refine k_acmp K X677 at_169 rfl rfl (same := false) (decide_eq_false fun z => (Ne.symm ne689) (Value.ref.inj z)) (by decide) (q := 172) (by decide) ?_
      refine k_aload K X677 at_172 rfl rfl (q := 174) rfl ?_
      refine k_aload K X677 at_174 rfl rfl (q := 176) rfl ?_
      refine k_acmp K X677 at_176 rfl rfl (same := false) (decide_eq_false fun z => (Ne.symm ne686) (Value.ref.inj z)) (by decide) (q := 179) (by decide) ?_
      refine k_aload K X677 at_179 rfl rfl (q := 181) rfl ?_
      refine k_arraylength K X677 rfl at_181 f684 (v := (0 : Int32)) rfl (q := 182) rfl ?_
      refine k_iload K X677 at_182 rfl (q := 184) rfl ?_
      refine k_icmp_eq_y K X677 at_184 (by decide) (by decide) (q := 189) rfl ?_
      refine k_aload K X677 at_189 rfl rfl (q := 191) rfl ?_
      refine k_iload K X677 at_191 rfl (q := 193) rfl ?_
      refine k_iload K X677 at_193 rfl (q := 195) rfl ?_
      refine k_iload K X677 at_195 rfl (q := 197) rfl ?_
      refine k_iload K X677 at_197 rfl (q := 199) rfl ?_
      refine k_staticP K X677 rfl at_199 (wd hw 34 rfl) (wd hw 35 rfl) (wd hw 2 rfl) (wd hw 36 rfl) (by decide) (rm5_0 l Z az hw [] b681 v552 v553 v554 T675.heap) (W := 0) (by decide) (by decide) (by decide) (by decide) rfl pd_3 (argsL := [(.ref b681), (.int (0 : Int32)), (.int v552), (.int v553), (.int v554)]) (rest := []) rfl rfl rfl (Nat.le_of_eq rfl) (q := 202) rfl ?_
      intro T704 X705 e706
      refine k_if_eq_n K X705 at_202 hc674 (q := 205) rfl ?_
      refine k_aload K X705 at_205 rfl rfl (q := 207) rfl ?_
      refine k_iload K X705 at_207 rfl (q := 209) rfl ?_
      refine k_iload K X705 at_209 rfl (q := 211) rfl ?_
      refine k_iload K X705 at_211 rfl (q := 213) rfl ?_
      refine k_iload K X705 at_213 rfl (q := 215) rfl ?_
      refine k_staticP K X705 e706 at_215 (wd hw 34 rfl) (wd hw 35 rfl) (wd hw 2 rfl) (wd hw 36 rfl) (by decide) (rm5_0 l Z az hw [] b561 v552 v553 v554 T675.heap) (W := 0) (by decide) (by decide) (by decide) (by decide) rfl pd_3 (argsL := [(.ref b561), (.int (0 : Int32)), (.int v552), (.int v553), (.int v554)]) (rest := []) rfl rfl rfl (Nat.le_of_eq rfl) (q := 218) rfl ?_
      intro T707 X708 e709
      refine k_if_eq_n K X708 at_218 hc674 (q := 221) rfl ?_
      refine k_iconst K X708 at_221 (v := (1 : Int32)) rfl (q := 222) rfl ?_
      refine k_goto K X708 at_222 (by decide) (q := 226) rfl ?_
      exact k_retz K X708 e709 at_226 (Nat.le_trans (by decide) hkc) (Nat.le_trans (by decide) hkn) (hQ _ _ _ ⟨(by show some (Value.int (1 : Int32)) = some (Value.int (F_law q0 p1 p2 p3 p4)); simp only [F_law, hv_v472, hv_v552, hv_v553, hv_v554, if_neg hs473, if_pos (rfl : (1 : Int32) = (1 : Int32)), if_neg hc674, if_true]), N701⟩)
    · intro hc674
      refine k_iconst K X672 at_135 (v := (0 : Int32)) rfl (q := 136) rfl ?_
      exact k_retz K X672 e673 at_136 (Nat.le_trans (by decide) hkc) (Nat.le_trans (by decide) hkn) (hQ _ _ _ ⟨(by show some (Value.int (0 : Int32)) = some (Value.int (F_law q0 p1 p2 p3 p4)); simp only [F_law, hv_v472, hv_v552, hv_v553, hv_v554, if_neg hs473, if_pos (rfl : (1 : Int32) = (1 : Int32)), if_pos hc674, if_true]), N668⟩)
  by_cases hs710 : v472 = (2 : Int32)
  · subst hs710
    refine k_iloadN K X0 at_8 rfl (q := 9) rfl ?_
    refine k_i2b K X0 at_9 (q := 10) rfl ?_
    obtain ⟨v711, hv_v711⟩ : ∃ z : Int32, (i2b p2) = z := ⟨_, rfl⟩
    refine k_istore K X0 at_10 hv_v711 (Ls' := #[.val (.long q0), .second, .val (.int p1), .val (.int p2), .val (.int p3), .val (.int p4), .val (.int (2 : Int32)), .val (.int v711), .unset, .unset, .unset, .unset, .unset, .unset, .unset]) rfl (q := 12) rfl ?_
    refine k_iload K X0 at_12 rfl (q := 14) rfl ?_
    refine k_i2b K X0 at_14 (q := 15) rfl ?_
    obtain ⟨v712, hv_v712⟩ : ∃ z : Int32, (i2b p3) = z := ⟨_, rfl⟩
    refine k_istore K X0 at_15 hv_v712 (Ls' := #[.val (.long q0), .second, .val (.int p1), .val (.int p2), .val (.int p3), .val (.int p4), .val (.int (2 : Int32)), .val (.int v711), .val (.int v712), .unset, .unset, .unset, .unset, .unset, .unset]) rfl (q := 17) rfl ?_
    refine k_iload K X0 at_17 rfl (q := 19) rfl ?_
    refine k_i2b K X0 at_19 (q := 20) rfl ?_
    obtain ⟨v713, hv_v713⟩ : ∃ z : Int32, (i2b p4) = z := ⟨_, rfl⟩
    refine k_istore K X0 at_20 hv_v713 (Ls' := #[.val (.long q0), .second, .val (.int p1), .val (.int p2), .val (.int p3), .val (.int p4), .val (.int (2 : Int32)), .val (.int v711), .val (.int v712), .val (.int v713), .unset, .unset, .unset, .unset, .unset]) rfl (q := 22) rfl ?_
    refine k_iload K X0 at_22 rfl (q := 24) rfl ?_
    refine k_iload K X0 at_24 rfl (q := 26) rfl ?_
    refine k_iload K X0 at_26 rfl (q := 28) rfl ?_
    refine k_iload K X0 at_28 rfl (q := 30) rfl ?_
    refine k_static K X0 e0 at_30 (wd hw 0 rfl) (wd hw 1 rfl) (wd hw 2 rfl) (wd hw 3 rfl) (by decide) (rm1_2 l Z az hw [] v711 v712 v713 h0 n0 Z0) (W := 0) (by decide) (by decide) (by decide) (by decide) rfl pd_0 (argsL := [(.int (2 : Int32)), (.int v711), (.int v712), (.int v713)]) (rest := []) rfl rfl rfl (Nat.le_of_eq rfl) (q := 33) rfl ?_
    rintro _ T714 L715 X716 ⟨b720, ge721, bn722, rfl, N717, K718, f723, f724⟩
    have bn725 : h0.size ≤ b720 := Nat.le_trans K0.1 bn722
    have N726 := Fr.app N0 N717
    have K727 := Keep.trans K0 K718 all0
    have Z728 := Nat.le_trans Z0 K718.1
    obtain ⟨v729, hv_v729⟩ : ∃ z : Int32, (nar .byte v711) = z := ⟨_, rfl⟩
    rw [hv_v729] at f724
    refine k_astore K X716 at_33 rfl (Ls' := #[.val (.long q0), .second, .val (.int p1), .val (.int p2), .val (.int p3), .val (.int p4), .val (.int (2 : Int32)), .val (.int v711), .val (.int v712), .val (.int v713), .val (.ref b720), .unset, .unset, .unset, .unset]) rfl (q := 35) rfl ?_
    refine k_new K X716 rfl at_35 (wd hw 5 rfl) (wd hw 6 rfl) (wd hw 7 rfl) (by decide) (by decide) (q := 38) rfl ?_
    intro T730 h731 b732 X733 e734 g735 E736 A737 D738
    have ne739 : b720 ≠ b732 := Nat.ne_of_lt (Nat.lt_of_lt_of_eq (f723).lt g735.symm)
    have ge740 : n0 ≤ b732 := Nat.le_trans Z728 (Nat.le_of_eq g735.symm)
    have bn741 : h0.size ≤ b732 := Nat.le_trans K727.1 (Nat.le_of_eq g735.symm)
    have f742 := Exa.ext E736 f723
    have f743 := Ary.ext f724 E736
    have K744 := Keep.ext K727 E736
    have Z745 := Nat.le_trans Z728 E736.1
    have f746 : Fld Z h731 b732 "com/example/adiq/adiq/client/Message" "offset" "J" (.long (0 : Int64)) := D738 (Or.inr (wd hw 15 rfl)) (ty := .long) (by decide)
    have f747 : Fld Z h731 b732 "com/example/adiq/adiq/client/Message" "key" "[B" .null := D738 (Or.inr (wd hw 17 rfl)) (ty := (.array .byte)) (by decide)
    have f748 : Fld Z h731 b732 "com/example/adiq/adiq/client/Message" "payload" "[B" .null := D738 (Or.inr (wd hw 19 rfl)) (ty := (.array .byte)) (by decide)
    refine k_dup K X733 at_38 rfl (q := 39) rfl ?_
    refine k_lloadN K X733 at_39 rfl (q := 40) rfl ?_
    refine k_aload K X733 at_40 rfl rfl (q := 42) rfl ?_
    refine k_iconst K X733 at_42 (v := (1 : Int32)) rfl (q := 43) rfl ?_
    refine k_newarrayE K X733 e734 at_43 (ty := .byte) rfl (ad := "[B") (by decide) (wd hw 4 rfl) (n := 1) (cap := 1) (by decide) (by decide) (by decide) (by decide) (by decide) (q := 45) rfl ?_
    intro T749 h750 b751 X752 e753 g754 E755 A756 E757
    have ne758 : b720 ≠ b751 := Nat.ne_of_lt (Nat.lt_of_lt_of_eq (f742).lt g754.symm)
    have ne759 : b732 ≠ b751 := Nat.ne_of_lt (Nat.lt_of_lt_of_eq (A737).lt g754.symm)
    have ge760 : n0 ≤ b751 := Nat.le_trans Z745 (Nat.le_of_eq g754.symm)
    have bn761 : h0.size ≤ b751 := Nat.le_trans K744.1 (Nat.le_of_eq g754.symm)
    have f762 := Exa.ext E755 f742
    have f763 := Ary.ext f743 E755
    have f764 := Exa.ext E755 A737
    have f765 := Fld.ext E755 f746
    have f766 := Fld.ext E755 f747
    have f767 := Fld.ext E755 f748
    have K768 := Keep.ext K744 E755
    have Z769 := Nat.le_trans Z745 E755.1
    have f770 : Ary Z h750 b751 .byte 1 (fun i => Value.int (List.getD [(0 : Int32)] i 0)) := Ary.eqv A756 (by intro i hi; match i, hi with | 0, _ => rfl | (k + 1), hi => exact absurd hi (by omega))
    refine k_dup K X752 at_45 rfl (q := 46) rfl ?_
    refine k_iconst K X752 at_46 (v := (0 : Int32)) rfl (q := 47) rfl ?_
    refine k_iloadN K X752 at_47 rfl (q := 48) rfl ?_
    refine k_i2b K X752 at_48 (q := 49) rfl ?_
    refine k_bastore K X752 e753 at_49 f770 (i := 0) (by decide) (by decide) (q := 50) rfl ?_
    intro T771 h772 X773 e774 W775 A776
    have f777 : Ary Z h772 b751 .byte 1 (fun i => Value.int (List.getD [(nar .byte (i2b p1))] i 0)) := Ary.eqv A776 (by intro i hi; match i, hi with | 0, _ => rfl | (k + 1), hi => exact absurd hi (by omega))
    have f778 := Exa.wr W775 f762
    have f779 := Ary.other f763 W775 ne758
    have f780 := Exa.wr W775 f764
    have f781 := Fld.other W775 f765 (Or.inl ne759)
    have f782 := Fld.other W775 f766 (Or.inl ne759)
    have f783 := Fld.other W775 f767 (Or.inl ne759)
    have f784 := Exa.wr W775 E757
    have N785 := Fr.snoc X773 N726 ge760
    have K786 := Keep.wr K768 W775 (Or.inr bn761)
    have Z787 := Nat.le_trans Z769 (Nat.le_of_eq (Wr.size W775).symm)
    refine k_special K X773 e774 at_50 rfl (wd hw 8 rfl) (wd hw 9 rfl) (wd hw 7 rfl) (wd hw 10 rfl) (by decide) (rm2 l Z az hw [] b732 q0 b720 b751 (0 : Int64) .null .null h772 n0 Z787 f780 f781 ge740 f782 f783) (W := 1) (by decide) (by decide) (by decide) (by decide) rfl pd_1 (argsL := [(.long q0), (.ref b720), (.ref b751)]) (rest := [(.ref b732)]) rfl rfl rfl (Nat.le_of_eq rfl) (q := 53) rfl ?_
    rintro _ T788 L789 X790 ⟨rfl, N791, K792, f794, f795, f796⟩
    have f797 := Exa.keep f778 K792
    have f798 := Ary.keep f779 K792 (ninS ne739 nin0)
    have f799 := Exa.keep f780 K792
    have f800 := Exa.keep f784 K792
    have f801 := Ary.keep f777 K792 (ninS (Ne.symm ne759) nin0)
    have N802 := Fr.app N785 N791
    have K803 := Keep.trans K786 K792 (allS (Or.inr bn741) all0)
    have Z804 := Nat.le_trans Z787 K792.1
    refine k_astore K X790 at_53 rfl (Ls' := #[.val (.long q0), .second, .val (.int p1), .val (.int p2), .val (.int p3), .val (.int p4), .val (.int (2 : Int32)), .val (.int v711), .val (.int v712), .val (.int v713), .val (.ref b720), .val (.ref b732), .unset, .unset, .unset]) rfl (q := 55) rfl ?_
    refine k_aload K X790 at_55 rfl rfl (q := 57) rfl ?_
    refine k_virtual K X790 rfl at_57 (wd hw 20 rfl) (wd hw 21 rfl) (wd hw 23 rfl) (wd hw 22 rfl) (wd hw 7 rfl) (wd hw 24 rfl) (by decide) f799 (rm4_1 l Z az hw [] b732 b720 v729 T788.heap n0 Z804 f794 f798 f797) (W := 0) (by decide) (by decide) (by decide) (by decide) rfl pd_2 (argsL := []) (rest := []) rfl rfl rfl (Nat.le_of_eq rfl) (q := 60) rfl ?_
    rintro _ T805 L806 X807 ⟨b811, ge812, bn813, rfl, N808, K809, f814, f815⟩
    have ne816 : b720 ≠ b811 := Nat.ne_of_lt (Nat.lt_of_lt_of_le (f797).lt bn813)
    have ne817 : b732 ≠ b811 := Nat.ne_of_lt (Nat.lt_of_lt_of_le (f799).lt bn813)
    have ne818 : b751 ≠ b811 := Nat.ne_of_lt (Nat.lt_of_lt_of_le (f800).lt bn813)
    have bn819 : h0.size ≤ b811 := Nat.le_trans K803.1 bn813
    have f820 := Exa.keep f797 K809
    have f821 := Ary.keep f798 K809 nin0
    have f822 := Exa.keep f799 K809
    have f823 := Exa.keep f800 K809
    have f824 := Ary.keep f801 K809 nin0
    have f825 := Fld.keep f794 K809 nin0
    have f826 := Fld.keep f795 K809 nin0
    have f827 := Fld.keep f796 K809 nin0
    have N828 := Fr.app N802 N808
    have K829 := Keep.trans K803 K809 all0
    have Z830 := Nat.le_trans Z804 K809.1
    refine k_astore K X807 at_60 rfl (Ls' := #[.val (.long q0), .second, .val (.int p1), .val (.int p2), .val (.int p3), .val (.int p4), .val (.int (2 : Int32)), .val (.int v711), .val (.int v712), .val (.int v713), .val (.ref b720), .val (.ref b732), .val (.ref b811), .unset, .unset]) rfl (q := 62) rfl ?_
    refine k_aload K X807 at_62 rfl rfl (q := 64) rfl ?_
    refine k_ifnonnull_y K X807 at_64 (by decide) (q := 90) rfl ?_
    refine k_aload K X807 at_90 rfl rfl (q := 92) rfl ?_
    refine k_ifnull_n K X807 at_92 (q := 95) rfl ?_
    refine k_aload K X807 at_95 rfl rfl (q := 97) rfl ?_
    refine k_aload K X807 at_97 rfl rfl (q := 99) rfl ?_
    refine k_acmp K X807 at_99 rfl rfl (same := false) (decide_eq_false fun z => (Ne.symm ne816) (Value.ref.inj z)) (by decide) (q := 104) (by decide) ?_
    refine k_aload K X807 at_104 rfl rfl (q := 106) rfl ?_
    refine k_arraylength K X807 rfl at_106 f821 (v := (1 : Int32)) rfl (q := 107) rfl ?_
    refine k_istore K X807 at_107 rfl (Ls' := #[.val (.long q0), .second, .val (.int p1), .val (.int p2), .val (.int p3), .val (.int p4), .val (.int (2 : Int32)), .val (.int v711), .val (.int v712), .val (.int v713), .val (.ref b720), .val (.ref b732), .val (.ref b811), .val (.int (1 : Int32)), .unset]) rfl (q := 109) rfl ?_
    refine k_aload K X807 at_109 rfl rfl (q := 111) rfl ?_
    refine k_arraylength K X807 rfl at_111 f814 (v := (1 : Int32)) rfl (q := 112) rfl ?_
    refine k_iload K X807 at_112 rfl (q := 114) rfl ?_
    refine k_icmp_eq_y K X807 at_114 (by decide) (by decide) (q := 119) rfl ?_
    refine k_aload K X807 at_119 rfl rfl (q := 121) rfl ?_
    refine k_iload K X807 at_121 rfl (q := 123) rfl ?_
    refine k_iload K X807 at_123 rfl (q := 125) rfl ?_
    refine k_iload K X807 at_125 rfl (q := 127) rfl ?_
    refine k_iload K X807 at_127 rfl (q := 129) rfl ?_
    refine k_staticP K X807 rfl at_129 (wd hw 34 rfl) (wd hw 35 rfl) (wd hw 2 rfl) (wd hw 36 rfl) (by decide) (rm5_1 l Z az hw [] b811 v711 v712 v713 v729 T805.heap f814) (W := 0) (by decide) (by decide) (by decide) (by decide) rfl pd_3 (argsL := [(.ref b811), (.int (1 : Int32)), (.int v711), (.int v712), (.int v713)]) (rest := []) rfl rfl rfl (Nat.le_of_eq rfl) (q := 132) rfl ?_
    intro T831 X832 e833
    refine k_if_ne K X832 at_132 (by decide) (q := 137) rfl (q' := 135) rfl ?_ ?_
    · intro hc834
      refine k_iload K X832 at_137 rfl (q := 139) rfl ?_
      refine k_if_le_n K X832 at_139 (by decide) (q := 142) rfl ?_
      refine k_aload K X832 at_142 rfl rfl (q := 144) rfl ?_
      refine k_iconst K X832 at_144 (v := (0 : Int32)) rfl (q := 145) rfl ?_
      refine k_aload K X832 at_145 rfl rfl (q := 147) rfl ?_
      refine k_iconst K X832 at_147 (v := (0 : Int32)) rfl (q := 148) rfl ?_
      refine k_baload K X832 e833 at_148 f814 (i := 0) (v := (.int v729)) (by decide) (by decide) rfl (q := 149) rfl ?_
      refine k_iconst K X832 at_149 (v := (1 : Int32)) rfl (q := 150) rfl ?_
      refine k_ixor K X832 at_150 (q := 151) rfl ?_
      refine k_i2b K X832 at_151 (q := 152) rfl ?_
      refine k_bastore K X832 e833 at_152 f814 (i := 0) (by decide) (by decide) (q := 153) rfl ?_
      intro T835 h836 X837 e838 W839 A840
      have f841 : Ary Z h836 b811 .byte 1 (fun i => Value.int (List.getD [(nar .byte (i2b (v729 ^^^ (1 : Int32))))] i 0)) := Ary.eqv A840 (by intro i hi; match i, hi with | 0, _ => rfl | (k + 1), hi => exact absurd hi (by omega))
      have f842 := Exa.wr W839 f820
      have f843 := Ary.other f821 W839 ne816
      have f844 := Exa.wr W839 f822
      have f845 := Exa.wr W839 f823
      have f846 := Ary.other f824 W839 ne818
      have f847 := Fld.other W839 f825 (Or.inl ne817)
      have f848 := Fld.other W839 f826 (Or.inl ne817)
      have f849 := Fld.other W839 f827 (Or.inl ne817)
      have f850 := Exa.wr W839 f815
      have N851 := Fr.snoc X837 N828 ge812
      have K852 := Keep.wr K829 W839 (Or.inr bn819)
      have Z853 := Nat.le_trans Z830 (Nat.le_of_eq (Wr.size W839).symm)
      refine k_aload K X837 at_153 rfl rfl (q := 155) rfl ?_
      refine k_virtual K X837 e838 at_155 (wd hw 20 rfl) (wd hw 21 rfl) (wd hw 23 rfl) (wd hw 22 rfl) (wd hw 7 rfl) (wd hw 24 rfl) (by decide) f844 (rm4_1 l Z az hw [] b732 b720 v729 h836 n0 Z853 f847 f843 f842) (W := 0) (by decide) (by decide) (by decide) (by decide) rfl pd_2 (argsL := []) (rest := []) rfl rfl rfl (Nat.le_of_eq rfl) (q := 158) rfl ?_
      rintro _ T854 L855 X856 ⟨b860, ge861, bn862, rfl, N857, K858, f863, f864⟩
      have ne865 : b720 ≠ b860 := Nat.ne_of_lt (Nat.lt_of_lt_of_le (f842).lt bn862)
      have ne866 : b732 ≠ b860 := Nat.ne_of_lt (Nat.lt_of_lt_of_le (f844).lt bn862)
      have ne867 : b751 ≠ b860 := Nat.ne_of_lt (Nat.lt_of_lt_of_le (f845).lt bn862)
      have ne868 : b811 ≠ b860 := Nat.ne_of_lt (Nat.lt_of_lt_of_le (f850).lt bn862)
      have bn869 : h0.size ≤ b860 := Nat.le_trans K852.1 bn862
      have f870 := Exa.keep f842 K858
      have f871 := Ary.keep f843 K858 nin0
      have f872 := Exa.keep f844 K858
      have f873 := Exa.keep f845 K858
      have f874 := Ary.keep f846 K858 nin0
      have f875 := Fld.keep f847 K858 nin0
      have f876 := Fld.keep f848 K858 nin0
      have f877 := Fld.keep f849 K858 nin0
      have f878 := Exa.keep f850 K858
      have f879 := Ary.keep f841 K858 nin0
      have N880 := Fr.app N851 N857
      have K881 := Keep.trans K852 K858 all0
      have Z882 := Nat.le_trans Z853 K858.1
      refine k_astore K X856 at_158 rfl (Ls' := #[.val (.long q0), .second, .val (.int p1), .val (.int p2), .val (.int p3), .val (.int p4), .val (.int (2 : Int32)), .val (.int v711), .val (.int v712), .val (.int v713), .val (.ref b720), .val (.ref b732), .val (.ref b811), .val (.int (1 : Int32)), .val (.ref b860)]) rfl (q := 160) rfl ?_
      refine k_aload K X856 at_160 rfl rfl (q := 162) rfl ?_
      refine k_ifnull_n K X856 at_162 (q := 165) rfl ?_
      refine k_aload K X856 at_165 rfl rfl (q := 167) rfl ?_
      refine k_aload K X856 at_167 rfl rfl (q := 169) rfl ?_
      refine k_acmp K X856 at_169 rfl rfl (same := false) (decide_eq_false fun z => (Ne.symm ne868) (Value.ref.inj z)) (by decide) (q := 172) (by decide) ?_
      refine k_aload K X856 at_172 rfl rfl (q := 174) rfl ?_
      refine k_aload K X856 at_174 rfl rfl (q := 176) rfl ?_
      refine k_acmp K X856 at_176 rfl rfl (same := false) (decide_eq_false fun z => (Ne.symm ne865) (Value.ref.inj z)) (by decide) (q := 179) (by decide) ?_
      refine k_aload K X856 at_179 rfl rfl (q := 181) rfl ?_
      refine k_arraylength K X856 rfl at_181 f863 (v := (1 : Int32)) rfl (q := 182) rfl ?_
      refine k_iload K X856 at_182 rfl (q := 184) rfl ?_
      refine k_icmp_eq_y K X856 at_184 (by decide) (by decide) (q := 189) rfl ?_
      refine k_aload K X856 at_189 rfl rfl (q := 191) rfl ?_
      refine k_iload K X856 at_191 rfl (q := 193) rfl ?_
      refine k_iload K X856 at_193 rfl (q := 195) rfl ?_
      refine k_iload K X856 at_195 rfl (q := 197) rfl ?_
      refine k_iload K X856 at_197 rfl (q := 199) rfl ?_
      refine k_staticP K X856 rfl at_199 (wd hw 34 rfl) (wd hw 35 rfl) (wd hw 2 rfl) (wd hw 36 rfl) (by decide) (rm5_1 l Z az hw [] b860 v711 v712 v713 v729 T854.heap f863) (W := 0) (by decide) (by decide) (by decide) (by decide) rfl pd_3 (argsL := [(.ref b860), (.int (1 : Int32)), (.int v711), (.int v712), (.int v713)]) (rest := []) rfl rfl rfl (Nat.le_of_eq rfl) (q := 202) rfl ?_
      intro T883 X884 e885
      refine k_if_eq_n K X884 at_202 hc834 (q := 205) rfl ?_
      refine k_aload K X884 at_205 rfl rfl (q := 207) rfl ?_
      refine k_iload K X884 at_207 rfl (q := 209) rfl ?_
      refine k_iload K X884 at_209 rfl (q := 211) rfl ?_
      refine k_iload K X884 at_211 rfl (q := 213) rfl ?_
      refine k_iload K X884 at_213 rfl (q := 215) rfl ?_
      refine k_staticP K X884 e885 at_215 (wd hw 34 rfl) (wd hw 35 rfl) (wd hw 2 rfl) (wd hw 36 rfl) (by decide) (rm5_1 l Z az hw [] b720 v711 v712 v713 v729 T854.heap f871) (W := 0) (by decide) (by decide) (by decide) (by decide) rfl pd_3 (argsL := [(.ref b720), (.int (1 : Int32)), (.int v711), (.int v712), (.int v713)]) (rest := []) rfl rfl rfl (Nat.le_of_eq rfl) (q := 218) rfl ?_
      intro T886 X887 e888
      refine k_if_eq_n K X887 at_218 hc834 (q := 221) rfl ?_
      refine k_iconst K X887 at_221 (v := (1 : Int32)) rfl (q := 222) rfl ?_
      refine k_goto K X887 at_222 (by decide) (q := 226) rfl ?_
      exact k_retz K X887 e888 at_226 (Nat.le_trans (by decide) hkc) (Nat.le_trans (by decide) hkn) (hQ _ _ _ ⟨(by show some (Value.int (1 : Int32)) = some (Value.int (F_law q0 p1 p2 p3 p4)); simp only [F_law, hv_v472, hv_v711, hv_v712, hv_v713, hv_v729, if_neg hs473, if_neg hs551, if_pos (rfl : (2 : Int32) = (2 : Int32)), if_neg hc834, if_true]), N880⟩)
    · intro hc834
      refine k_iconst K X832 at_135 (v := (0 : Int32)) rfl (q := 136) rfl ?_
      exact k_retz K X832 e833 at_136 (Nat.le_trans (by decide) hkc) (Nat.le_trans (by decide) hkn) (hQ _ _ _ ⟨(by show some (Value.int (0 : Int32)) = some (Value.int (F_law q0 p1 p2 p3 p4)); simp only [F_law, hv_v472, hv_v711, hv_v712, hv_v713, hv_v729, if_neg hs473, if_neg hs551, if_pos (rfl : (2 : Int32) = (2 : Int32)), if_pos hc834, if_true]), N828⟩)
  by_cases hs889 : v472 = (3 : Int32)
  · subst hs889
    refine k_iloadN K X0 at_8 rfl (q := 9) rfl ?_
    refine k_i2b K X0 at_9 (q := 10) rfl ?_
    obtain ⟨v890, hv_v890⟩ : ∃ z : Int32, (i2b p2) = z := ⟨_, rfl⟩
    refine k_istore K X0 at_10 hv_v890 (Ls' := #[.val (.long q0), .second, .val (.int p1), .val (.int p2), .val (.int p3), .val (.int p4), .val (.int (3 : Int32)), .val (.int v890), .unset, .unset, .unset, .unset, .unset, .unset, .unset]) rfl (q := 12) rfl ?_
    refine k_iload K X0 at_12 rfl (q := 14) rfl ?_
    refine k_i2b K X0 at_14 (q := 15) rfl ?_
    obtain ⟨v891, hv_v891⟩ : ∃ z : Int32, (i2b p3) = z := ⟨_, rfl⟩
    refine k_istore K X0 at_15 hv_v891 (Ls' := #[.val (.long q0), .second, .val (.int p1), .val (.int p2), .val (.int p3), .val (.int p4), .val (.int (3 : Int32)), .val (.int v890), .val (.int v891), .unset, .unset, .unset, .unset, .unset, .unset]) rfl (q := 17) rfl ?_
    refine k_iload K X0 at_17 rfl (q := 19) rfl ?_
    refine k_i2b K X0 at_19 (q := 20) rfl ?_
    obtain ⟨v892, hv_v892⟩ : ∃ z : Int32, (i2b p4) = z := ⟨_, rfl⟩
    refine k_istore K X0 at_20 hv_v892 (Ls' := #[.val (.long q0), .second, .val (.int p1), .val (.int p2), .val (.int p3), .val (.int p4), .val (.int (3 : Int32)), .val (.int v890), .val (.int v891), .val (.int v892), .unset, .unset, .unset, .unset, .unset]) rfl (q := 22) rfl ?_
    refine k_iload K X0 at_22 rfl (q := 24) rfl ?_
    refine k_iload K X0 at_24 rfl (q := 26) rfl ?_
    refine k_iload K X0 at_26 rfl (q := 28) rfl ?_
    refine k_iload K X0 at_28 rfl (q := 30) rfl ?_
    refine k_static K X0 e0 at_30 (wd hw 0 rfl) (wd hw 1 rfl) (wd hw 2 rfl) (wd hw 3 rfl) (by decide) (rm1_3 l Z az hw [] v890 v891 v892 h0 n0 Z0) (W := 0) (by decide) (by decide) (by decide) (by decide) rfl pd_0 (argsL := [(.int (3 : Int32)), (.int v890), (.int v891), (.int v892)]) (rest := []) rfl rfl rfl (Nat.le_of_eq rfl) (q := 33) rfl ?_
    rintro _ T893 L894 X895 ⟨b899, ge900, bn901, rfl, N896, K897, f902, f903⟩
    have bn904 : h0.size ≤ b899 := Nat.le_trans K0.1 bn901
    have N905 := Fr.app N0 N896
    have K906 := Keep.trans K0 K897 all0
    have Z907 := Nat.le_trans Z0 K897.1
    obtain ⟨v908, hv_v908⟩ : ∃ z : Int32, (nar .byte v890) = z := ⟨_, rfl⟩
    rw [hv_v908] at f903
    obtain ⟨v909, hv_v909⟩ : ∃ z : Int32, (nar .byte v891) = z := ⟨_, rfl⟩
    rw [hv_v909] at f903
    refine k_astore K X895 at_33 rfl (Ls' := #[.val (.long q0), .second, .val (.int p1), .val (.int p2), .val (.int p3), .val (.int p4), .val (.int (3 : Int32)), .val (.int v890), .val (.int v891), .val (.int v892), .val (.ref b899), .unset, .unset, .unset, .unset]) rfl (q := 35) rfl ?_
    refine k_new K X895 rfl at_35 (wd hw 5 rfl) (wd hw 6 rfl) (wd hw 7 rfl) (by decide) (by decide) (q := 38) rfl ?_
    intro T910 h911 b912 X913 e914 g915 E916 A917 D918
    have ne919 : b899 ≠ b912 := Nat.ne_of_lt (Nat.lt_of_lt_of_eq (f902).lt g915.symm)
    have ge920 : n0 ≤ b912 := Nat.le_trans Z907 (Nat.le_of_eq g915.symm)
    have bn921 : h0.size ≤ b912 := Nat.le_trans K906.1 (Nat.le_of_eq g915.symm)
    have f922 := Exa.ext E916 f902
    have f923 := Ary.ext f903 E916
    have K924 := Keep.ext K906 E916
    have Z925 := Nat.le_trans Z907 E916.1
    have f926 : Fld Z h911 b912 "com/example/adiq/adiq/client/Message" "offset" "J" (.long (0 : Int64)) := D918 (Or.inr (wd hw 15 rfl)) (ty := .long) (by decide)
    have f927 : Fld Z h911 b912 "com/example/adiq/adiq/client/Message" "key" "[B" .null := D918 (Or.inr (wd hw 17 rfl)) (ty := (.array .byte)) (by decide)
    have f928 : Fld Z h911 b912 "com/example/adiq/adiq/client/Message" "payload" "[B" .null := D918 (Or.inr (wd hw 19 rfl)) (ty := (.array .byte)) (by decide)
    refine k_dup K X913 at_38 rfl (q := 39) rfl ?_
    refine k_lloadN K X913 at_39 rfl (q := 40) rfl ?_
    refine k_aload K X913 at_40 rfl rfl (q := 42) rfl ?_
    refine k_iconst K X913 at_42 (v := (1 : Int32)) rfl (q := 43) rfl ?_
    refine k_newarrayE K X913 e914 at_43 (ty := .byte) rfl (ad := "[B") (by decide) (wd hw 4 rfl) (n := 1) (cap := 1) (by decide) (by decide) (by decide) (by decide) (by decide) (q := 45) rfl ?_
    intro T929 h930 b931 X932 e933 g934 E935 A936 E937
    have ne938 : b899 ≠ b931 := Nat.ne_of_lt (Nat.lt_of_lt_of_eq (f922).lt g934.symm)
    have ne939 : b912 ≠ b931 := Nat.ne_of_lt (Nat.lt_of_lt_of_eq (A917).lt g934.symm)
    have ge940 : n0 ≤ b931 := Nat.le_trans Z925 (Nat.le_of_eq g934.symm)
    have bn941 : h0.size ≤ b931 := Nat.le_trans K924.1 (Nat.le_of_eq g934.symm)
    have f942 := Exa.ext E935 f922
    have f943 := Ary.ext f923 E935
    have f944 := Exa.ext E935 A917
    have f945 := Fld.ext E935 f926
    have f946 := Fld.ext E935 f927
    have f947 := Fld.ext E935 f928
    have K948 := Keep.ext K924 E935
    have Z949 := Nat.le_trans Z925 E935.1
    have f950 : Ary Z h930 b931 .byte 1 (fun i => Value.int (List.getD [(0 : Int32)] i 0)) := Ary.eqv A936 (by intro i hi; match i, hi with | 0, _ => rfl | (k + 1), hi => exact absurd hi (by omega))
    refine k_dup K X932 at_45 rfl (q := 46) rfl ?_
    refine k_iconst K X932 at_46 (v := (0 : Int32)) rfl (q := 47) rfl ?_
    refine k_iloadN K X932 at_47 rfl (q := 48) rfl ?_
    refine k_i2b K X932 at_48 (q := 49) rfl ?_
    refine k_bastore K X932 e933 at_49 f950 (i := 0) (by decide) (by decide) (q := 50) rfl ?_
    intro T951 h952 X953 e954 W955 A956
    have f957 : Ary Z h952 b931 .byte 1 (fun i => Value.int (List.getD [(nar .byte (i2b p1))] i 0)) := Ary.eqv A956 (by intro i hi; match i, hi with | 0, _ => rfl | (k + 1), hi => exact absurd hi (by omega))
    have f958 := Exa.wr W955 f942
    have f959 := Ary.other f943 W955 ne938
    have f960 := Exa.wr W955 f944
    have f961 := Fld.other W955 f945 (Or.inl ne939)
    have f962 := Fld.other W955 f946 (Or.inl ne939)
    have f963 := Fld.other W955 f947 (Or.inl ne939)
    have f964 := Exa.wr W955 E937
    have N965 := Fr.snoc X953 N905 ge940
    have K966 := Keep.wr K948 W955 (Or.inr bn941)
    have Z967 := Nat.le_trans Z949 (Nat.le_of_eq (Wr.size W955).symm)
    refine k_special K X953 e954 at_50 rfl (wd hw 8 rfl) (wd hw 9 rfl) (wd hw 7 rfl) (wd hw 10 rfl) (by decide) (rm2 l Z az hw [] b912 q0 b899 b931 (0 : Int64) .null .null h952 n0 Z967 f960 f961 ge920 f962 f963) (W := 1) (by decide) (by decide) (by decide) (by decide) rfl pd_1 (argsL := [(.long q0), (.ref b899), (.ref b931)]) (rest := [(.ref b912)]) rfl rfl rfl (Nat.le_of_eq rfl) (q := 53) rfl ?_
    rintro _ T968 L969 X970 ⟨rfl, N971, K972, f974, f975, f976⟩
    have f977 := Exa.keep f958 K972
    have f978 := Ary.keep f959 K972 (ninS ne919 nin0)
    have f979 := Exa.keep f960 K972
    have f980 := Exa.keep f964 K972
    have f981 := Ary.keep f957 K972 (ninS (Ne.symm ne939) nin0)
    have N982 := Fr.app N965 N971
    have K983 := Keep.trans K966 K972 (allS (Or.inr bn921) all0)
    have Z984 := Nat.le_trans Z967 K972.1
    refine k_astore K X970 at_53 rfl (Ls' := #[.val (.long q0), .second, .val (.int p1), .val (.int p2), .val (.int p3), .val (.int p4), .val (.int (3 : Int32)), .val (.int v890), .val (.int v891), .val (.int v892), .val (.ref b899), .val (.ref b912), .unset, .unset, .unset]) rfl (q := 55) rfl ?_
    refine k_aload K X970 at_55 rfl rfl (q := 57) rfl ?_
    refine k_virtual K X970 rfl at_57 (wd hw 20 rfl) (wd hw 21 rfl) (wd hw 23 rfl) (wd hw 22 rfl) (wd hw 7 rfl) (wd hw 24 rfl) (by decide) f979 (rm4_2 l Z az hw [] b912 b899 v908 v909 T968.heap n0 Z984 f974 f978 f977) (W := 0) (by decide) (by decide) (by decide) (by decide) rfl pd_2 (argsL := []) (rest := []) rfl rfl rfl (Nat.le_of_eq rfl) (q := 60) rfl ?_
    rintro _ T985 L986 X987 ⟨b991, ge992, bn993, rfl, N988, K989, f994, f995⟩
    have ne996 : b899 ≠ b991 := Nat.ne_of_lt (Nat.lt_of_lt_of_le (f977).lt bn993)
    have ne997 : b912 ≠ b991 := Nat.ne_of_lt (Nat.lt_of_lt_of_le (f979).lt bn993)
    have ne998 : b931 ≠ b991 := Nat.ne_of_lt (Nat.lt_of_lt_of_le (f980).lt bn993)
    have bn999 : h0.size ≤ b991 := Nat.le_trans K983.1 bn993
    have f1000 := Exa.keep f977 K989
    have f1001 := Ary.keep f978 K989 nin0
    have f1002 := Exa.keep f979 K989
    have f1003 := Exa.keep f980 K989
    have f1004 := Ary.keep f981 K989 nin0
    have f1005 := Fld.keep f974 K989 nin0
    have f1006 := Fld.keep f975 K989 nin0
    have f1007 := Fld.keep f976 K989 nin0
    have N1008 := Fr.app N982 N988
    have K1009 := Keep.trans K983 K989 all0
    have Z1010 := Nat.le_trans Z984 K989.1
    refine k_astore K X987 at_60 rfl (Ls' := #[.val (.long q0), .second, .val (.int p1), .val (.int p2), .val (.int p3), .val (.int p4), .val (.int (3 : Int32)), .val (.int v890), .val (.int v891), .val (.int v892), .val (.ref b899), .val (.ref b912), .val (.ref b991), .unset, .unset]) rfl (q := 62) rfl ?_
    refine k_aload K X987 at_62 rfl rfl (q := 64) rfl ?_
    refine k_ifnonnull_y K X987 at_64 (by decide) (q := 90) rfl ?_
    refine k_aload K X987 at_90 rfl rfl (q := 92) rfl ?_
    refine k_ifnull_n K X987 at_92 (q := 95) rfl ?_
    refine k_aload K X987 at_95 rfl rfl (q := 97) rfl ?_
    refine k_aload K X987 at_97 rfl rfl (q := 99) rfl ?_
    refine k_acmp K X987 at_99 rfl rfl (same := false) (decide_eq_false fun z => (Ne.symm ne996) (Value.ref.inj z)) (by decide) (q := 104) (by decide) ?_
    refine k_aload K X987 at_104 rfl rfl (q := 106) rfl ?_
    refine k_arraylength K X987 rfl at_106 f1001 (v := (2 : Int32)) rfl (q := 107) rfl ?_
    refine k_istore K X987 at_107 rfl (Ls' := #[.val (.long q0), .second, .val (.int p1), .val (.int p2), .val (.int p3), .val (.int p4), .val (.int (3 : Int32)), .val (.int v890), .val (.int v891), .val (.int v892), .val (.ref b899), .val (.ref b912), .val (.ref b991), .val (.int (2 : Int32)), .unset]) rfl (q := 109) rfl ?_
    refine k_aload K X987 at_109 rfl rfl (q := 111) rfl ?_
    refine k_arraylength K X987 rfl at_111 f994 (v := (2 : Int32)) rfl (q := 112) rfl ?_
    refine k_iload K X987 at_112 rfl (q := 114) rfl ?_
    refine k_icmp_eq_y K X987 at_114 (by decide) (by decide) (q := 119) rfl ?_
    refine k_aload K X987 at_119 rfl rfl (q := 121) rfl ?_
    refine k_iload K X987 at_121 rfl (q := 123) rfl ?_
    refine k_iload K X987 at_123 rfl (q := 125) rfl ?_
    refine k_iload K X987 at_125 rfl (q := 127) rfl ?_
    refine k_iload K X987 at_127 rfl (q := 129) rfl ?_
    refine k_staticP K X987 rfl at_129 (wd hw 34 rfl) (wd hw 35 rfl) (wd hw 2 rfl) (wd hw 36 rfl) (by decide) (rm5_2 l Z az hw [] b991 v890 v891 v892 v908 v909 T985.heap f994) (W := 0) (by decide) (by decide) (by decide) (by decide) rfl pd_3 (argsL := [(.ref b991), (.int (2 : Int32)), (.int v890), (.int v891), (.int v892)]) (rest := []) rfl rfl rfl (Nat.le_of_eq rfl) (q := 132) rfl ?_
    intro T1011 X1012 e1013
    refine k_if_ne K X1012 at_132 (by decide) (q := 137) rfl (q' := 135) rfl ?_ ?_
    · intro hc1014
      refine k_iload K X1012 at_137 rfl (q := 139) rfl ?_
      refine k_if_le_n K X1012 at_139 (by decide) (q := 142) rfl ?_
      refine k_aload K X1012 at_142 rfl rfl (q := 144) rfl ?_
      refine k_iconst K X1012 at_144 (v := (0 : Int32)) rfl (q := 145) rfl ?_
      refine k_aload K X1012 at_145 rfl rfl (q := 147) rfl ?_
      refine k_iconst K X1012 at_147 (v := (0 : Int32)) rfl (q := 148) rfl ?_
      refine k_baload K X1012 e1013 at_148 f994 (i := 0) (v := (.int v908)) (by decide) (by decide) rfl (q := 149) rfl ?_
      refine k_iconst K X1012 at_149 (v := (1 : Int32)) rfl (q := 150) rfl ?_
      refine k_ixor K X1012 at_150 (q := 151) rfl ?_
      refine k_i2b K X1012 at_151 (q := 152) rfl ?_
      refine k_bastore K X1012 e1013 at_152 f994 (i := 0) (by decide) (by decide) (q := 153) rfl ?_
      intro T1015 h1016 X1017 e1018 W1019 A1020
      have f1021 : Ary Z h1016 b991 .byte 2 (fun i => Value.int (List.getD [(nar .byte (i2b (v908 ^^^ (1 : Int32)))), v909] i 0)) := Ary.eqv A1020 (by intro i hi; match i, hi with | 0, _ => rfl | 1, _ => rfl | (k + 2), hi => exact absurd hi (by omega))
      have f1022 := Exa.wr W1019 f1000
      have f1023 := Ary.other f1001 W1019 ne996
      have f1024 := Exa.wr W1019 f1002
      have f1025 := Exa.wr W1019 f1003
      have f1026 := Ary.other f1004 W1019 ne998
      have f1027 := Fld.other W1019 f1005 (Or.inl ne997)
      have f1028 := Fld.other W1019 f1006 (Or.inl ne997)
      have f1029 := Fld.other W1019 f1007 (Or.inl ne997)
      have f1030 := Exa.wr W1019 f995
      have N1031 := Fr.snoc X1017 N1008 ge992
      have K1032 := Keep.wr K1009 W1019 (Or.inr bn999)
      have Z1033 := Nat.le_trans Z1010 (Nat.le_of_eq (Wr.size W1019).symm)
      refine k_aload K X1017 at_153 rfl rfl (q := 155) rfl ?_
      refine k_virtual K X1017 e1018 at_155 (wd hw 20 rfl) (wd hw 21 rfl) (wd hw 23 rfl) (wd hw 22 rfl) (wd hw 7 rfl) (wd hw 24 rfl) (by decide) f1024 (rm4_2 l Z az hw [] b912 b899 v908 v909 h1016 n0 Z1033 f1027 f1023 f1022) (W := 0) (by decide) (by decide) (by decide) (by decide) rfl pd_2 (argsL := []) (rest := []) rfl rfl rfl (Nat.le_of_eq rfl) (q := 158) rfl ?_
      rintro _ T1034 L1035 X1036 ⟨b1040, ge1041, bn1042, rfl, N1037, K1038, f1043, f1044⟩
      have ne1045 : b899 ≠ b1040 := Nat.ne_of_lt (Nat.lt_of_lt_of_le (f1022).lt bn1042)
      have ne1046 : b912 ≠ b1040 := Nat.ne_of_lt (Nat.lt_of_lt_of_le (f1024).lt bn1042)
      have ne1047 : b931 ≠ b1040 := Nat.ne_of_lt (Nat.lt_of_lt_of_le (f1025).lt bn1042)
      have ne1048 : b991 ≠ b1040 := Nat.ne_of_lt (Nat.lt_of_lt_of_le (f1030).lt bn1042)
      have bn1049 : h0.size ≤ b1040 := Nat.le_trans K1032.1 bn1042
      have f1050 := Exa.keep f1022 K1038
      have f1051 := Ary.keep f1023 K1038 nin0
      have f1052 := Exa.keep f1024 K1038
      have f1053 := Exa.keep f1025 K1038
      have f1054 := Ary.keep f1026 K1038 nin0
      have f1055 := Fld.keep f1027 K1038 nin0
      have f1056 := Fld.keep f1028 K1038 nin0
      have f1057 := Fld.keep f1029 K1038 nin0
      have f1058 := Exa.keep f1030 K1038
      have f1059 := Ary.keep f1021 K1038 nin0
      have N1060 := Fr.app N1031 N1037
      have K1061 := Keep.trans K1032 K1038 all0
      have Z1062 := Nat.le_trans Z1033 K1038.1
      refine k_astore K X1036 at_158 rfl (Ls' := #[.val (.long q0), .second, .val (.int p1), .val (.int p2), .val (.int p3), .val (.int p4), .val (.int (3 : Int32)), .val (.int v890), .val (.int v891), .val (.int v892), .val (.ref b899), .val (.ref b912), .val (.ref b991), .val (.int (2 : Int32)), .val (.ref b1040)]) rfl (q := 160) rfl ?_
      refine k_aload K X1036 at_160 rfl rfl (q := 162) rfl ?_
      refine k_ifnull_n K X1036 at_162 (q := 165) rfl ?_
      refine k_aload K X1036 at_165 rfl rfl (q := 167) rfl ?_
      refine k_aload K X1036 at_167 rfl rfl (q := 169) rfl ?_
      refine k_acmp K X1036 at_169 rfl rfl (same := false) (decide_eq_false fun z => (Ne.symm ne1048) (Value.ref.inj z)) (by decide) (q := 172) (by decide) ?_
      refine k_aload K X1036 at_172 rfl rfl (q := 174) rfl ?_
      refine k_aload K X1036 at_174 rfl rfl (q := 176) rfl ?_
      refine k_acmp K X1036 at_176 rfl rfl (same := false) (decide_eq_false fun z => (Ne.symm ne1045) (Value.ref.inj z)) (by decide) (q := 179) (by decide) ?_
      refine k_aload K X1036 at_179 rfl rfl (q := 181) rfl ?_
      refine k_arraylength K X1036 rfl at_181 f1043 (v := (2 : Int32)) rfl (q := 182) rfl ?_
      refine k_iload K X1036 at_182 rfl (q := 184) rfl ?_
      refine k_icmp_eq_y K X1036 at_184 (by decide) (by decide) (q := 189) rfl ?_
      refine k_aload K X1036 at_189 rfl rfl (q := 191) rfl ?_
      refine k_iload K X1036 at_191 rfl (q := 193) rfl ?_
      refine k_iload K X1036 at_193 rfl (q := 195) rfl ?_
      refine k_iload K X1036 at_195 rfl (q := 197) rfl ?_
      refine k_iload K X1036 at_197 rfl (q := 199) rfl ?_
      refine k_staticP K X1036 rfl at_199 (wd hw 34 rfl) (wd hw 35 rfl) (wd hw 2 rfl) (wd hw 36 rfl) (by decide) (rm5_2 l Z az hw [] b1040 v890 v891 v892 v908 v909 T1034.heap f1043) (W := 0) (by decide) (by decide) (by decide) (by decide) rfl pd_3 (argsL := [(.ref b1040), (.int (2 : Int32)), (.int v890), (.int v891), (.int v892)]) (rest := []) rfl rfl rfl (Nat.le_of_eq rfl) (q := 202) rfl ?_
      intro T1063 X1064 e1065
      refine k_if_eq_n K X1064 at_202 hc1014 (q := 205) rfl ?_
      refine k_aload K X1064 at_205 rfl rfl (q := 207) rfl ?_
      refine k_iload K X1064 at_207 rfl (q := 209) rfl ?_
      refine k_iload K X1064 at_209 rfl (q := 211) rfl ?_
      refine k_iload K X1064 at_211 rfl (q := 213) rfl ?_
      refine k_iload K X1064 at_213 rfl (q := 215) rfl ?_
      refine k_staticP K X1064 e1065 at_215 (wd hw 34 rfl) (wd hw 35 rfl) (wd hw 2 rfl) (wd hw 36 rfl) (by decide) (rm5_2 l Z az hw [] b899 v890 v891 v892 v908 v909 T1034.heap f1051) (W := 0) (by decide) (by decide) (by decide) (by decide) rfl pd_3 (argsL := [(.ref b899), (.int (2 : Int32)), (.int v890), (.int v891), (.int v892)]) (rest := []) rfl rfl rfl (Nat.le_of_eq rfl) (q := 218) rfl ?_
      intro T1066 X1067 e1068
      refine k_if_eq_n K X1067 at_218 hc1014 (q := 221) rfl ?_
      refine k_iconst K X1067 at_221 (v := (1 : Int32)) rfl (q := 222) rfl ?_
      refine k_goto K X1067 at_222 (by decide) (q := 226) rfl ?_
      exact k_retz K X1067 e1068 at_226 (Nat.le_trans (by decide) hkc) (Nat.le_trans (by decide) hkn) (hQ _ _ _ ⟨(by show some (Value.int (1 : Int32)) = some (Value.int (F_law q0 p1 p2 p3 p4)); simp only [F_law, hv_v472, hv_v890, hv_v891, hv_v892, hv_v908, hv_v909, if_neg hs473, if_neg hs551, if_neg hs710, if_pos (rfl : (3 : Int32) = (3 : Int32)), if_neg hc1014, if_true]), N1060⟩)
    · intro hc1014
      refine k_iconst K X1012 at_135 (v := (0 : Int32)) rfl (q := 136) rfl ?_
      exact k_retz K X1012 e1013 at_136 (Nat.le_trans (by decide) hkc) (Nat.le_trans (by decide) hkn) (hQ _ _ _ ⟨(by show some (Value.int (0 : Int32)) = some (Value.int (F_law q0 p1 p2 p3 p4)); simp only [F_law, hv_v472, hv_v890, hv_v891, hv_v892, hv_v908, hv_v909, if_neg hs473, if_neg hs551, if_neg hs710, if_pos (rfl : (3 : Int32) = (3 : Int32)), if_pos hc1014, if_true]), N1008⟩)
  by_cases hs1069 : v472 = (4 : Int32)
  · subst hs1069
    refine k_iloadN K X0 at_8 rfl (q := 9) rfl ?_
    refine k_i2b K X0 at_9 (q := 10) rfl ?_
    obtain ⟨v1070, hv_v1070⟩ : ∃ z : Int32, (i2b p2) = z := ⟨_, rfl⟩
    refine k_istore K X0 at_10 hv_v1070 (Ls' := #[.val (.long q0), .second, .val (.int p1), .val (.int p2), .val (.int p3), .val (.int p4), .val (.int (4 : Int32)), .val (.int v1070), .unset, .unset, .unset, .unset, .unset, .unset, .unset]) rfl (q := 12) rfl ?_
    refine k_iload K X0 at_12 rfl (q := 14) rfl ?_
    refine k_i2b K X0 at_14 (q := 15) rfl ?_
    obtain ⟨v1071, hv_v1071⟩ : ∃ z : Int32, (i2b p3) = z := ⟨_, rfl⟩
    refine k_istore K X0 at_15 hv_v1071 (Ls' := #[.val (.long q0), .second, .val (.int p1), .val (.int p2), .val (.int p3), .val (.int p4), .val (.int (4 : Int32)), .val (.int v1070), .val (.int v1071), .unset, .unset, .unset, .unset, .unset, .unset]) rfl (q := 17) rfl ?_
    refine k_iload K X0 at_17 rfl (q := 19) rfl ?_
    refine k_i2b K X0 at_19 (q := 20) rfl ?_
    obtain ⟨v1072, hv_v1072⟩ : ∃ z : Int32, (i2b p4) = z := ⟨_, rfl⟩
    refine k_istore K X0 at_20 hv_v1072 (Ls' := #[.val (.long q0), .second, .val (.int p1), .val (.int p2), .val (.int p3), .val (.int p4), .val (.int (4 : Int32)), .val (.int v1070), .val (.int v1071), .val (.int v1072), .unset, .unset, .unset, .unset, .unset]) rfl (q := 22) rfl ?_
    refine k_iload K X0 at_22 rfl (q := 24) rfl ?_
    refine k_iload K X0 at_24 rfl (q := 26) rfl ?_
    refine k_iload K X0 at_26 rfl (q := 28) rfl ?_
    refine k_iload K X0 at_28 rfl (q := 30) rfl ?_
    refine k_static K X0 e0 at_30 (wd hw 0 rfl) (wd hw 1 rfl) (wd hw 2 rfl) (wd hw 3 rfl) (by decide) (rm1_4 l Z az hw [] v1070 v1071 v1072 h0 n0 Z0) (W := 0) (by decide) (by decide) (by decide) (by decide) rfl pd_0 (argsL := [(.int (4 : Int32)), (.int v1070), (.int v1071), (.int v1072)]) (rest := []) rfl rfl rfl (Nat.le_of_eq rfl) (q := 33) rfl ?_
    rintro _ T1073 L1074 X1075 ⟨b1079, ge1080, bn1081, rfl, N1076, K1077, f1082, f1083⟩
    have bn1084 : h0.size ≤ b1079 := Nat.le_trans K0.1 bn1081
    have N1085 := Fr.app N0 N1076
    have K1086 := Keep.trans K0 K1077 all0
    have Z1087 := Nat.le_trans Z0 K1077.1
    obtain ⟨v1088, hv_v1088⟩ : ∃ z : Int32, (nar .byte v1070) = z := ⟨_, rfl⟩
    rw [hv_v1088] at f1083
    obtain ⟨v1089, hv_v1089⟩ : ∃ z : Int32, (nar .byte v1071) = z := ⟨_, rfl⟩
    rw [hv_v1089] at f1083
    obtain ⟨v1090, hv_v1090⟩ : ∃ z : Int32, (nar .byte v1072) = z := ⟨_, rfl⟩
    rw [hv_v1090] at f1083
    refine k_astore K X1075 at_33 rfl (Ls' := #[.val (.long q0), .second, .val (.int p1), .val (.int p2), .val (.int p3), .val (.int p4), .val (.int (4 : Int32)), .val (.int v1070), .val (.int v1071), .val (.int v1072), .val (.ref b1079), .unset, .unset, .unset, .unset]) rfl (q := 35) rfl ?_
    refine k_new K X1075 rfl at_35 (wd hw 5 rfl) (wd hw 6 rfl) (wd hw 7 rfl) (by decide) (by decide) (q := 38) rfl ?_
    intro T1091 h1092 b1093 X1094 e1095 g1096 E1097 A1098 D1099
    have ne1100 : b1079 ≠ b1093 := Nat.ne_of_lt (Nat.lt_of_lt_of_eq (f1082).lt g1096.symm)
    have ge1101 : n0 ≤ b1093 := Nat.le_trans Z1087 (Nat.le_of_eq g1096.symm)
    have bn1102 : h0.size ≤ b1093 := Nat.le_trans K1086.1 (Nat.le_of_eq g1096.symm)
    have f1103 := Exa.ext E1097 f1082
    have f1104 := Ary.ext f1083 E1097
    have K1105 := Keep.ext K1086 E1097
    have Z1106 := Nat.le_trans Z1087 E1097.1
    have f1107 : Fld Z h1092 b1093 "com/example/adiq/adiq/client/Message" "offset" "J" (.long (0 : Int64)) := D1099 (Or.inr (wd hw 15 rfl)) (ty := .long) (by decide)
    have f1108 : Fld Z h1092 b1093 "com/example/adiq/adiq/client/Message" "key" "[B" .null := D1099 (Or.inr (wd hw 17 rfl)) (ty := (.array .byte)) (by decide)
    have f1109 : Fld Z h1092 b1093 "com/example/adiq/adiq/client/Message" "payload" "[B" .null := D1099 (Or.inr (wd hw 19 rfl)) (ty := (.array .byte)) (by decide)
    refine k_dup K X1094 at_38 rfl (q := 39) rfl ?_
    refine k_lloadN K X1094 at_39 rfl (q := 40) rfl ?_
    refine k_aload K X1094 at_40 rfl rfl (q := 42) rfl ?_
    refine k_iconst K X1094 at_42 (v := (1 : Int32)) rfl (q := 43) rfl ?_
    refine k_newarrayE K X1094 e1095 at_43 (ty := .byte) rfl (ad := "[B") (by decide) (wd hw 4 rfl) (n := 1) (cap := 1) (by decide) (by decide) (by decide) (by decide) (by decide) (q := 45) rfl ?_
    intro T1110 h1111 b1112 X1113 e1114 g1115 E1116 A1117 E1118
    have ne1119 : b1079 ≠ b1112 := Nat.ne_of_lt (Nat.lt_of_lt_of_eq (f1103).lt g1115.symm)
    have ne1120 : b1093 ≠ b1112 := Nat.ne_of_lt (Nat.lt_of_lt_of_eq (A1098).lt g1115.symm)
    have ge1121 : n0 ≤ b1112 := Nat.le_trans Z1106 (Nat.le_of_eq g1115.symm)
    have bn1122 : h0.size ≤ b1112 := Nat.le_trans K1105.1 (Nat.le_of_eq g1115.symm)
    have f1123 := Exa.ext E1116 f1103
    have f1124 := Ary.ext f1104 E1116
    have f1125 := Exa.ext E1116 A1098
    have f1126 := Fld.ext E1116 f1107
    have f1127 := Fld.ext E1116 f1108
    have f1128 := Fld.ext E1116 f1109
    have K1129 := Keep.ext K1105 E1116
    have Z1130 := Nat.le_trans Z1106 E1116.1
    have f1131 : Ary Z h1111 b1112 .byte 1 (fun i => Value.int (List.getD [(0 : Int32)] i 0)) := Ary.eqv A1117 (by intro i hi; match i, hi with | 0, _ => rfl | (k + 1), hi => exact absurd hi (by omega))
    refine k_dup K X1113 at_45 rfl (q := 46) rfl ?_
    refine k_iconst K X1113 at_46 (v := (0 : Int32)) rfl (q := 47) rfl ?_
    refine k_iloadN K X1113 at_47 rfl (q := 48) rfl ?_
    refine k_i2b K X1113 at_48 (q := 49) rfl ?_
    refine k_bastore K X1113 e1114 at_49 f1131 (i := 0) (by decide) (by decide) (q := 50) rfl ?_
    intro T1132 h1133 X1134 e1135 W1136 A1137
    have f1138 : Ary Z h1133 b1112 .byte 1 (fun i => Value.int (List.getD [(nar .byte (i2b p1))] i 0)) := Ary.eqv A1137 (by intro i hi; match i, hi with | 0, _ => rfl | (k + 1), hi => exact absurd hi (by omega))
    have f1139 := Exa.wr W1136 f1123
    have f1140 := Ary.other f1124 W1136 ne1119
    have f1141 := Exa.wr W1136 f1125
    have f1142 := Fld.other W1136 f1126 (Or.inl ne1120)
    have f1143 := Fld.other W1136 f1127 (Or.inl ne1120)
    have f1144 := Fld.other W1136 f1128 (Or.inl ne1120)
    have f1145 := Exa.wr W1136 E1118
    have N1146 := Fr.snoc X1134 N1085 ge1121
    have K1147 := Keep.wr K1129 W1136 (Or.inr bn1122)
    have Z1148 := Nat.le_trans Z1130 (Nat.le_of_eq (Wr.size W1136).symm)
    refine k_special K X1134 e1135 at_50 rfl (wd hw 8 rfl) (wd hw 9 rfl) (wd hw 7 rfl) (wd hw 10 rfl) (by decide) (rm2 l Z az hw [] b1093 q0 b1079 b1112 (0 : Int64) .null .null h1133 n0 Z1148 f1141 f1142 ge1101 f1143 f1144) (W := 1) (by decide) (by decide) (by decide) (by decide) rfl pd_1 (argsL := [(.long q0), (.ref b1079), (.ref b1112)]) (rest := [(.ref b1093)]) rfl rfl rfl (Nat.le_of_eq rfl) (q := 53) rfl ?_
    rintro _ T1149 L1150 X1151 ⟨rfl, N1152, K1153, f1155, f1156, f1157⟩
    have f1158 := Exa.keep f1139 K1153
    have f1159 := Ary.keep f1140 K1153 (ninS ne1100 nin0)
    have f1160 := Exa.keep f1141 K1153
    have f1161 := Exa.keep f1145 K1153
    have f1162 := Ary.keep f1138 K1153 (ninS (Ne.symm ne1120) nin0)
    have N1163 := Fr.app N1146 N1152
    have K1164 := Keep.trans K1147 K1153 (allS (Or.inr bn1102) all0)
    have Z1165 := Nat.le_trans Z1148 K1153.1
    refine k_astore K X1151 at_53 rfl (Ls' := #[.val (.long q0), .second, .val (.int p1), .val (.int p2), .val (.int p3), .val (.int p4), .val (.int (4 : Int32)), .val (.int v1070), .val (.int v1071), .val (.int v1072), .val (.ref b1079), .val (.ref b1093), .unset, .unset, .unset]) rfl (q := 55) rfl ?_
    refine k_aload K X1151 at_55 rfl rfl (q := 57) rfl ?_
    refine k_virtual K X1151 rfl at_57 (wd hw 20 rfl) (wd hw 21 rfl) (wd hw 23 rfl) (wd hw 22 rfl) (wd hw 7 rfl) (wd hw 24 rfl) (by decide) f1160 (rm4_3 l Z az hw [] b1093 b1079 v1088 v1089 v1090 T1149.heap n0 Z1165 f1155 f1159 f1158) (W := 0) (by decide) (by decide) (by decide) (by decide) rfl pd_2 (argsL := []) (rest := []) rfl rfl rfl (Nat.le_of_eq rfl) (q := 60) rfl ?_
    rintro _ T1166 L1167 X1168 ⟨b1172, ge1173, bn1174, rfl, N1169, K1170, f1175, f1176⟩
    have ne1177 : b1079 ≠ b1172 := Nat.ne_of_lt (Nat.lt_of_lt_of_le (f1158).lt bn1174)
    have ne1178 : b1093 ≠ b1172 := Nat.ne_of_lt (Nat.lt_of_lt_of_le (f1160).lt bn1174)
    have ne1179 : b1112 ≠ b1172 := Nat.ne_of_lt (Nat.lt_of_lt_of_le (f1161).lt bn1174)
    have bn1180 : h0.size ≤ b1172 := Nat.le_trans K1164.1 bn1174
    have f1181 := Exa.keep f1158 K1170
    have f1182 := Ary.keep f1159 K1170 nin0
    have f1183 := Exa.keep f1160 K1170
    have f1184 := Exa.keep f1161 K1170
    have f1185 := Ary.keep f1162 K1170 nin0
    have f1186 := Fld.keep f1155 K1170 nin0
    have f1187 := Fld.keep f1156 K1170 nin0
    have f1188 := Fld.keep f1157 K1170 nin0
    have N1189 := Fr.app N1163 N1169
    have K1190 := Keep.trans K1164 K1170 all0
    have Z1191 := Nat.le_trans Z1165 K1170.1
    refine k_astore K X1168 at_60 rfl (Ls' := #[.val (.long q0), .second, .val (.int p1), .val (.int p2), .val (.int p3), .val (.int p4), .val (.int (4 : Int32)), .val (.int v1070), .val (.int v1071), .val (.int v1072), .val (.ref b1079), .val (.ref b1093), .val (.ref b1172), .unset, .unset]) rfl (q := 62) rfl ?_
    refine k_aload K X1168 at_62 rfl rfl (q := 64) rfl ?_
    refine k_ifnonnull_y K X1168 at_64 (by decide) (q := 90) rfl ?_
    refine k_aload K X1168 at_90 rfl rfl (q := 92) rfl ?_
    refine k_ifnull_n K X1168 at_92 (q := 95) rfl ?_
    refine k_aload K X1168 at_95 rfl rfl (q := 97) rfl ?_
    refine k_aload K X1168 at_97 rfl rfl (q := 99) rfl ?_
    refine k_acmp K X1168 at_99 rfl rfl (same := false) (decide_eq_false fun z => (Ne.symm ne1177) (Value.ref.inj z)) (by decide) (q := 104) (by decide) ?_
    refine k_aload K X1168 at_104 rfl rfl (q := 106) rfl ?_
    refine k_arraylength K X1168 rfl at_106 f1182 (v := (3 : Int32)) rfl (q := 107) rfl ?_
    refine k_istore K X1168 at_107 rfl (Ls' := #[.val (.long q0), .second, .val (.int p1), .val (.int p2), .val (.int p3), .val (.int p4), .val (.int (4 : Int32)), .val (.int v1070), .val (.int v1071), .val (.int v1072), .val (.ref b1079), .val (.ref b1093), .val (.ref b1172), .val (.int (3 : Int32)), .unset]) rfl (q := 109) rfl ?_
    refine k_aload K X1168 at_109 rfl rfl (q := 111) rfl ?_
    refine k_arraylength K X1168 rfl at_111 f1175 (v := (3 : Int32)) rfl (q := 112) rfl ?_
    refine k_iload K X1168 at_112 rfl (q := 114) rfl ?_
    refine k_icmp_eq_y K X1168 at_114 (by decide) (by decide) (q := 119) rfl ?_
    refine k_aload K X1168 at_119 rfl rfl (q := 121) rfl ?_
    refine k_iload K X1168 at_121 rfl (q := 123) rfl ?_
    refine k_iload K X1168 at_123 rfl (q := 125) rfl ?_
    refine k_iload K X1168 at_125 rfl (q := 127) rfl ?_
    refine k_iload K X1168 at_127 rfl (q := 129) rfl ?_
    refine k_staticP K X1168 rfl at_129 (wd hw 34 rfl) (wd hw 35 rfl) (wd hw 2 rfl) (wd hw 36 rfl) (by decide) (rm5_3 l Z az hw [] b1172 v1070 v1071 v1072 v1088 v1089 v1090 T1166.heap f1175) (W := 0) (by decide) (by decide) (by decide) (by decide) rfl pd_3 (argsL := [(.ref b1172), (.int (3 : Int32)), (.int v1070), (.int v1071), (.int v1072)]) (rest := []) rfl rfl rfl (Nat.le_of_eq rfl) (q := 132) rfl ?_
    intro T1192 X1193 e1194
    refine k_if_ne K X1193 at_132 (by decide) (q := 137) rfl (q' := 135) rfl ?_ ?_
    · intro hc1195
      refine k_iload K X1193 at_137 rfl (q := 139) rfl ?_
      refine k_if_le_n K X1193 at_139 (by decide) (q := 142) rfl ?_
      refine k_aload K X1193 at_142 rfl rfl (q := 144) rfl ?_
      refine k_iconst K X1193 at_144 (v := (0 : Int32)) rfl (q := 145) rfl ?_
      refine k_aload K X1193 at_145 rfl rfl (q := 147) rfl ?_
      refine k_iconst K X1193 at_147 (v := (0 : Int32)) rfl (q := 148) rfl ?_
      refine k_baload K X1193 e1194 at_148 f1175 (i := 0) (v := (.int v1088)) (by decide) (by decide) rfl (q := 149) rfl ?_
      refine k_iconst K X1193 at_149 (v := (1 : Int32)) rfl (q := 150) rfl ?_
      refine k_ixor K X1193 at_150 (q := 151) rfl ?_
      refine k_i2b K X1193 at_151 (q := 152) rfl ?_
      refine k_bastore K X1193 e1194 at_152 f1175 (i := 0) (by decide) (by decide) (q := 153) rfl ?_
      intro T1196 h1197 X1198 e1199 W1200 A1201
      have f1202 : Ary Z h1197 b1172 .byte 3 (fun i => Value.int (List.getD [(nar .byte (i2b (v1088 ^^^ (1 : Int32)))), v1089, v1090] i 0)) := Ary.eqv A1201 (by intro i hi; match i, hi with | 0, _ => rfl | 1, _ => rfl | 2, _ => rfl | (k + 3), hi => exact absurd hi (by omega))
      have f1203 := Exa.wr W1200 f1181
      have f1204 := Ary.other f1182 W1200 ne1177
      have f1205 := Exa.wr W1200 f1183
      have f1206 := Exa.wr W1200 f1184
      have f1207 := Ary.other f1185 W1200 ne1179
      have f1208 := Fld.other W1200 f1186 (Or.inl ne1178)
      have f1209 := Fld.other W1200 f1187 (Or.inl ne1178)
      have f1210 := Fld.other W1200 f1188 (Or.inl ne1178)
      have f1211 := Exa.wr W1200 f1176
      have N1212 := Fr.snoc X1198 N1189 ge1173
      have K1213 := Keep.wr K1190 W1200 (Or.inr bn1180)
      have Z1214 := Nat.le_trans Z1191 (Nat.le_of_eq (Wr.size W1200).symm)
      refine k_aload K X1198 at_153 rfl rfl (q := 155) rfl ?_
      refine k_virtual K X1198 e1199 at_155 (wd hw 20 rfl) (wd hw 21 rfl) (wd hw 23 rfl) (wd hw 22 rfl) (wd hw 7 rfl) (wd hw 24 rfl) (by decide) f1205 (rm4_3 l Z az hw [] b1093 b1079 v1088 v1089 v1090 h1197 n0 Z1214 f1208 f1204 f1203) (W := 0) (by decide) (by decide) (by decide) (by decide) rfl pd_2 (argsL := []) (rest := []) rfl rfl rfl (Nat.le_of_eq rfl) (q := 158) rfl ?_
      rintro _ T1215 L1216 X1217 ⟨b1221, ge1222, bn1223, rfl, N1218, K1219, f1224, f1225⟩
      have ne1226 : b1079 ≠ b1221 := Nat.ne_of_lt (Nat.lt_of_lt_of_le (f1203).lt bn1223)
      have ne1227 : b1093 ≠ b1221 := Nat.ne_of_lt (Nat.lt_of_lt_of_le (f1205).lt bn1223)
      have ne1228 : b1112 ≠ b1221 := Nat.ne_of_lt (Nat.lt_of_lt_of_le (f1206).lt bn1223)
      have ne1229 : b1172 ≠ b1221 := Nat.ne_of_lt (Nat.lt_of_lt_of_le (f1211).lt bn1223)
      have bn1230 : h0.size ≤ b1221 := Nat.le_trans K1213.1 bn1223
      have f1231 := Exa.keep f1203 K1219
      have f1232 := Ary.keep f1204 K1219 nin0
      have f1233 := Exa.keep f1205 K1219
      have f1234 := Exa.keep f1206 K1219
      have f1235 := Ary.keep f1207 K1219 nin0
      have f1236 := Fld.keep f1208 K1219 nin0
      have f1237 := Fld.keep f1209 K1219 nin0
      have f1238 := Fld.keep f1210 K1219 nin0
      have f1239 := Exa.keep f1211 K1219
      have f1240 := Ary.keep f1202 K1219 nin0
      have N1241 := Fr.app N1212 N1218
      have K1242 := Keep.trans K1213 K1219 all0
      have Z1243 := Nat.le_trans Z1214 K1219.1
      refine k_astore K X1217 at_158 rfl (Ls' := #[.val (.long q0), .second, .val (.int p1), .val (.int p2), .val (.int p3), .val (.int p4), .val (.int (4 : Int32)), .val (.int v1070), .val (.int v1071), .val (.int v1072), .val (.ref b1079), .val (.ref b1093), .val (.ref b1172), .val (.int (3 : Int32)), .val (.ref b1221)]) rfl (q := 160) rfl ?_
      refine k_aload K X1217 at_160 rfl rfl (q := 162) rfl ?_
      refine k_ifnull_n K X1217 at_162 (q := 165) rfl ?_
      refine k_aload K X1217 at_165 rfl rfl (q := 167) rfl ?_
      refine k_aload K X1217 at_167 rfl rfl (q := 169) rfl ?_
      refine k_acmp K X1217 at_169 rfl rfl (same := false) (decide_eq_false fun z => (Ne.symm ne1229) (Value.ref.inj z)) (by decide) (q := 172) (by decide) ?_
      refine k_aload K X1217 at_172 rfl rfl (q := 174) rfl ?_
      refine k_aload K X1217 at_174 rfl rfl (q := 176) rfl ?_
      refine k_acmp K X1217 at_176 rfl rfl (same := false) (decide_eq_false fun z => (Ne.symm ne1226) (Value.ref.inj z)) (by decide) (q := 179) (by decide) ?_
      refine k_aload K X1217 at_179 rfl rfl (q := 181) rfl ?_
      refine k_arraylength K X1217 rfl at_181 f1224 (v := (3 : Int32)) rfl (q := 182) rfl ?_
      refine k_iload K X1217 at_182 rfl (q := 184) rfl ?_
      refine k_icmp_eq_y K X1217 at_184 (by decide) (by decide) (q := 189) rfl ?_
      refine k_aload K X1217 at_189 rfl rfl (q := 191) rfl ?_
      refine k_iload K X1217 at_191 rfl (q := 193) rfl ?_
      refine k_iload K X1217 at_193 rfl (q := 195) rfl ?_
      refine k_iload K X1217 at_195 rfl (q := 197) rfl ?_
      refine k_iload K X1217 at_197 rfl (q := 199) rfl ?_
      refine k_staticP K X1217 rfl at_199 (wd hw 34 rfl) (wd hw 35 rfl) (wd hw 2 rfl) (wd hw 36 rfl) (by decide) (rm5_3 l Z az hw [] b1221 v1070 v1071 v1072 v1088 v1089 v1090 T1215.heap f1224) (W := 0) (by decide) (by decide) (by decide) (by decide) rfl pd_3 (argsL := [(.ref b1221), (.int (3 : Int32)), (.int v1070), (.int v1071), (.int v1072)]) (rest := []) rfl rfl rfl (Nat.le_of_eq rfl) (q := 202) rfl ?_
      intro T1244 X1245 e1246
      refine k_if_eq_n K X1245 at_202 hc1195 (q := 205) rfl ?_
      refine k_aload K X1245 at_205 rfl rfl (q := 207) rfl ?_
      refine k_iload K X1245 at_207 rfl (q := 209) rfl ?_
      refine k_iload K X1245 at_209 rfl (q := 211) rfl ?_
      refine k_iload K X1245 at_211 rfl (q := 213) rfl ?_
      refine k_iload K X1245 at_213 rfl (q := 215) rfl ?_
      refine k_staticP K X1245 e1246 at_215 (wd hw 34 rfl) (wd hw 35 rfl) (wd hw 2 rfl) (wd hw 36 rfl) (by decide) (rm5_3 l Z az hw [] b1079 v1070 v1071 v1072 v1088 v1089 v1090 T1215.heap f1232) (W := 0) (by decide) (by decide) (by decide) (by decide) rfl pd_3 (argsL := [(.ref b1079), (.int (3 : Int32)), (.int v1070), (.int v1071), (.int v1072)]) (rest := []) rfl rfl rfl (Nat.le_of_eq rfl) (q := 218) rfl ?_
      intro T1247 X1248 e1249
      refine k_if_eq_n K X1248 at_218 hc1195 (q := 221) rfl ?_
      refine k_iconst K X1248 at_221 (v := (1 : Int32)) rfl (q := 222) rfl ?_
      refine k_goto K X1248 at_222 (by decide) (q := 226) rfl ?_
      exact k_retz K X1248 e1249 at_226 (Nat.le_trans (by decide) hkc) (Nat.le_trans (by decide) hkn) (hQ _ _ _ ⟨(by show some (Value.int (1 : Int32)) = some (Value.int (F_law q0 p1 p2 p3 p4)); simp only [F_law, hv_v472, hv_v1070, hv_v1071, hv_v1072, hv_v1088, hv_v1089, hv_v1090, if_neg hs473, if_neg hs551, if_neg hs710, if_neg hs889, if_pos (rfl : (4 : Int32) = (4 : Int32)), if_neg hc1195, if_true]), N1241⟩)
    · intro hc1195
      refine k_iconst K X1193 at_135 (v := (0 : Int32)) rfl (q := 136) rfl ?_
      exact k_retz K X1193 e1194 at_136 (Nat.le_trans (by decide) hkc) (Nat.le_trans (by decide) hkn) (hQ _ _ _ ⟨(by show some (Value.int (0 : Int32)) = some (Value.int (F_law q0 p1 p2 p3 p4)); simp only [F_law, hv_v472, hv_v1070, hv_v1071, hv_v1072, hv_v1088, hv_v1089, hv_v1090, if_neg hs473, if_neg hs551, if_neg hs710, if_neg hs889, if_pos (rfl : (4 : Int32) = (4 : Int32)), if_pos hc1195, if_true]), N1189⟩)
  exact absurd hv_v472 (own_sel _ _ hs473 hs551 hs710 hs889 hs1069)
theorem own_bb (x : Int32) : nar .byte (i2b x) = i2b x := by
  rw [own_eqI]
  have h1 : ((i2b x).toInt - x.toInt) % 256 = 0 ∧ -128 ≤ (i2b x).toInt ∧ (i2b x).toInt < 128 := c_i2b x
  have h2 : ((nar .byte (i2b x)).toInt - (i2b x).toInt) % 256 = 0 ∧ -128 ≤ (nar .byte (i2b x)).toInt ∧ (nar .byte (i2b x)).toInt < 128 := c_i2b (i2b x)
  omega
theorem law_eq (q0 : Int64) (p1 p2 p3 p4 : Int32) : F_law q0 p1 p2 p3 p4 = 1 := by
  simp only [F_law, F_sameAs_0, F_sameAs_1, F_sameAs_2, F_sameAs_3, own_bb, if_true]
  split
  · rfl
  · split
    · rfl
    · split
      · first | rfl | decide
      · split
        · first | rfl | decide
        · split
          · first | rfl | decide
          · rfl
set_option maxRecDepth 65536 in
set_option maxHeartbeats 40000000 in
theorem comes_1 {Post : Tables → Env → Array Value → State → Outcome → State → Prop} (hpost : ∀ tb e args s v u, (limb_1_1.after args s (.returned v) u = true ∧ limb_1_2.after args s (.returned v) u = true ∧ True) → FrameEnd s (.returned v) u (Jvm.fieldLocs frame_1_writes args s ++ Jvm.arrayLocs frame_1_arrays args s ++ Jvm.staticLocs frame_1_statics s) 24 128 → Post tb e args s (.returned v) u) :
    ArmFor flags0 classFile x code maxLocals ret World_1 tables_1 room_1 Calls_1 rest_1 Pre_1 Post := by
  intro l hfl _ _ p e ha hc hk s m args below hf hA hF happ hP
  obtain ⟨hcalls, hrest, hpre⟩ := hP
  obtain ⟨-, -, -, hnamed, -, -, -, hat⟩ := (Spec.applies_iff hf).mp happ
  obtain ⟨hg, hn⟩ := and_e (Cond.before_iff.mp (show (Jvm.Cond.and given_1 narrow_1).before args s = true from hpre))
  obtain ⟨gc, g0⟩ := and_e hg
  obtain ⟨ga0, g1⟩ := and_e g0
  obtain ⟨ga1, g2⟩ := and_e g1
  obtain ⟨ga2, g3⟩ := and_e g2
  obtain ⟨ga3, g4⟩ := and_e g3
  obtain ⟨w0, w1, w2, w3, w4, rfl⟩ : ∃ w0 w1 w2 w3 w4 : Value, args = #[w0, w1, w2, w3, w4] := by
    have hs : args.size = 5 := by simpa [Cond.value, given_1] using gc
    obtain ⟨L⟩ := args
    match L, hs with
    | [w0, w1, w2, w3, w4], _ => exact ⟨w0, w1, w2, w3, w4, rfl⟩
  have hw := fun d (hd : d ∈ tables_1) => atoms_spec (ws := Jvm.Cond.code x code maxLocals ret :: tables_1) hat d (List.mem_cons_of_mem _ hd)
  obtain ⟨i0, ei0⟩ := isL_v ga0
  obtain rfl : w0 = (.long i0) := Option.some.inj ei0
  obtain ⟨i1, ei1⟩ := is_v ga1
  obtain rfl : w1 = (.int i1) := Option.some.inj ei1
  obtain ⟨i2, ei2⟩ := is_v ga2
  obtain rfl : w2 = (.int i2) := Option.some.inj ei2
  obtain ⟨i3, ei3⟩ := is_v ga3
  obtain rfl : w3 = (.int i3) := Option.some.inj ei3
  obtain ⟨i4, ei4⟩ := is_v g4
  obtain rfl : w4 = (.int i4) := Option.some.inj ei4
  obtain ⟨n, o, h1, h2, h3, _, L, rfl, ⟨rfl, N⟩, hq⟩ := rm0 l s _ hw tables_1 i0 i1 i2 i3 i4 s.heap s.heap.size (Nat.le_refl _) p e ha hc hk s m _ below hf ((Spec.applies_iff_loose hf).mp happ).1 ⟨rfl, State.Warmed39.refl s, rfl⟩ trivial
  rw [law_eq] at *
  refine ⟨n, _, h1, h2, h3, hpost _ _ _ _ _ _ ⟨Cond.after_iff.mpr rfl, Cond.after_iff.mpr (eq_i res_at (Term.int_eval (1)) rfl), trivial⟩ ⟨hq.1, hq.2.1, (hq.2.2.sift fun y hy => Or.inr (N y hy)).mono (by decide) (by decide)⟩⟩
theorem main_1_1 : Claimed_1_1 := comes_1 fun _ _ _ _ _ _ h hF => ⟨h.1, hF⟩
theorem main_1_2 : Claimed_1_2 := comes_1 fun _ _ _ _ _ _ h hF => ⟨h.2.1, hF⟩
end Jvm.Pilot.@@N@@
namespace Jvm.Pilot.@@N@@
open Jvm Jvm.ClassFile Sem Op Lib Jvm.Free Jvm.Stand Jvm.Pilot.@@N@@.Jvm.D
/-! MADE BY PROGRAM (witnessworld.py) out of the Statement's table words and the real class files: 9 classes; the members and pool entries that the words name. The judged class is class 1, her method 1. -/
namespace start1
open Jvm.ClassFile
def u (s : String) : CpInfo := .utf8 (stringToUtf16 s)
/-- a pool by its gaps: so many unusable entries, then the entry; so many at the end -/
def gap : Nat → List CpInfo → List CpInfo
  | 0, r => r
  | n + 1, r => .unusable :: gap n r
def poolList (es : List (Nat × CpInfo)) (last : Nat) : List CpInfo := es.foldr (fun e r => gap e.1 (e.2 :: r)) (gap last [])
def pool (es : List (Nat × CpInfo)) (last : Nat) : Array CpInfo := ⟨poolList es last⟩
def fileOf (pool : Array CpInfo) (this : Nat) (attrs : Array Attribute := #[]) (ms : Array MethodInfo := #[]) (fl : Nat := 33) (sup : Nat := 0) (ifs : Array Nat := #[]) (fds : Array FieldInfo := #[]) : ClassFile where
  minorVersion := 0
  majorVersion := 65
  constantPool := pool
  accessFlags := fl
  thisClass := this
  superClass := sup
  interfaces := ifs
  fields := fds
  methods := ms
  attributes := attrs
def plain (name : String) (sup : Option ClassId) : Class where
  name := name
  kind := .ordinary
  loader := none
  accessFlags := 33
  super := sup
  interfaces := #[]
  cf := none
  fields := #[]
  methods := #[]
  instanceTypes := #[]
  staticTypes := #[]
  resolved := #[]
  callSites := []
  init := .initialized
  statics := none
  mirror := none

def pool0 : Array CpInfo := pool [(5, u "<init>"), (0, u "()V"), (1, .class_ 10), (1, u "java/lang/Object"), (85, u "clone"), (0, u "()Ljava/lang/Object;")] 26

def k0c0 : Code := { maxStack := 0, maxLocals := 1, code := object_method_1_code, exceptionTable := #[], attributes := #[] }
def k0m0 : Method := { name := "<init>", desc := "()V", sig := { parameters := [], returnType := none }, accessFlags := 1, code := some k0c0 }
def k0m1 : Method := { name := "clone", desc := "()Ljava/lang/Object;", sig := { parameters := [], returnType := some (.object "java/lang/Object") }, accessFlags := 260, code := none }
/-- java/lang/Object -/
def k0 : Class := { plain "java/lang/Object" none with
  accessFlags := 33
  interfaces := #[]
  cf := some (fileOf pool0 8 #[] #[{ accessFlags := 1, nameIndex := 5, descriptorIndex := 6, attributes := #[] }, { accessFlags := 260, nameIndex := 96, descriptorIndex := 97, attributes := #[] }] 33 0 #[] #[])
  fields := #[]
  methods := #[k0m0, k0m1]
  instanceTypes := #[]
  staticTypes := #[]
  resolved := Array.replicate 124 none
  statics := none }

def pool1 : Array CpInfo := pool [(2, .class_ 4), (1, u "java/lang/Object"), (0, u "<init>"), (0, u "()V"), (0, .methodref 8 9), (0, .class_ 10), (0, .nameAndType 11 12), (0, u "com/example/adiq/adiq/client/MessageKeyPinLaw"), (0, u "makeKey"), (0, u "(IBBB)[B"), (0, .class_ 14), (0, u "com/example/adiq/adiq/client/Message"), (0, .methodref 13 16), (0, .nameAndType 5 17), (0, u "(J[B[B)V"), (0, .methodref 13 19), (0, .nameAndType 20 21), (0, u "key"), (0, u "()[B"), (0, .methodref 8 23), (0, .nameAndType 24 25), (0, u "sameAs"), (0, u "([BIBBB)Z"), (2, u "law"), (0, u "(JIIII)Z")] 5

def k1m0 : Method := { name := "<init>", desc := "()V", sig := { parameters := [], returnType := none }, accessFlags := 1, code := none }
def k1c1 : Code := { maxStack := 9, maxLocals := 15, code := code, exceptionTable := #[], attributes := #[] }
def k1m1 : Method := { name := "law", desc := "(JIIII)Z", sig := { parameters := [.long, .int, .int, .int, .int], returnType := some .boolean }, accessFlags := 9, code := some k1c1 }
def k1c2 : Code := { maxStack := 4, maxLocals := 4, code := method_3_code, exceptionTable := #[], attributes := #[] }
def k1m2 : Method := { name := "makeKey", desc := "(IBBB)[B", sig := { parameters := [.int, .byte, .byte, .byte], returnType := some (.array .byte) }, accessFlags := 10, code := some k1c2 }
def k1c3 : Code := { maxStack := 2, maxLocals := 5, code := method_4_code, exceptionTable := #[], attributes := #[] }
def k1m3 : Method := { name := "sameAs", desc := "([BIBBB)Z", sig := { parameters := [(.array .byte), .int, .byte, .byte, .byte], returnType := some .boolean }, accessFlags := 10, code := some k1c3 }
/-- com/example/adiq/adiq/client/MessageKeyPinLaw -/
def k1 : Class := { plain "com/example/adiq/adiq/client/MessageKeyPinLaw" (some 0) with
  accessFlags := 49
  interfaces := #[]
  cf := some (fileOf pool1 8 #[] #[{ accessFlags := 1, nameIndex := 5, descriptorIndex := 6, attributes := #[] }, { accessFlags := 9, nameIndex := 28, descriptorIndex := 29, attributes := #[] }, { accessFlags := 10, nameIndex := 11, descriptorIndex := 12, attributes := #[] }, { accessFlags := 10, nameIndex := 24, descriptorIndex := 25, attributes := #[] }] 49 2 #[] #[])
  fields := #[]
  methods := #[k1m0, k1m1, k1m2, k1m3]
  instanceTypes := #[]
  staticTypes := #[]
  resolved := Array.replicate 35 none
  statics := none }

def pool2 : Array CpInfo := pool [(1, .methodref 2 3), (0, .class_ 4), (0, .nameAndType 5 6), (0, u "java/lang/Object"), (0, u "<init>"), (0, u "()V"), (0, .fieldref 8 9), (0, .class_ 10), (0, .nameAndType 11 12), (0, u "com/example/adiq/adiq/client/Message"), (0, u "offset"), (0, u "J"), (0, .fieldref 8 14), (0, .nameAndType 15 16), (0, u "key"), (0, u "[B"), (0, .fieldref 8 18), (0, .nameAndType 19 16), (0, u "payload"), (0, .methodref 21 22), (0, .class_ 16), (0, .nameAndType 23 24), (0, u "clone"), (0, u "()Ljava/lang/Object;"), (6, u "(J[B[B)V"), (3, u "()[B")] 8

def k2c0 : Code := { maxStack := 3, maxLocals := 5, code := prog_31_method_1_code, exceptionTable := #[], attributes := #[] }
def k2m0 : Method := { name := "<init>", desc := "(J[B[B)V", sig := { parameters := [.long, (.array .byte), (.array .byte)], returnType := none }, accessFlags := 0, code := some k2c0 }
def k2c1 : Code := { maxStack := 1, maxLocals := 1, code := prog_31_method_3_code, exceptionTable := #[], attributes := #[] }
def k2m1 : Method := { name := "key", desc := "()[B", sig := { parameters := [], returnType := some (.array .byte) }, accessFlags := 1, code := some k2c1 }
/-- com/example/adiq/adiq/client/Message -/
def k2 : Class := { plain "com/example/adiq/adiq/client/Message" (some 0) with
  accessFlags := 33
  interfaces := #[]
  cf := some (fileOf pool2 8 #[] #[{ accessFlags := 0, nameIndex := 5, descriptorIndex := 31, attributes := #[] }, { accessFlags := 1, nameIndex := 15, descriptorIndex := 35, attributes := #[] }] 33 2 #[] #[{ accessFlags := 18, nameIndex := 11, descriptorIndex := 12, attributes := #[] }, { accessFlags := 18, nameIndex := 15, descriptorIndex := 16, attributes := #[] }, { accessFlags := 18, nameIndex := 19, descriptorIndex := 16, attributes := #[] }])
  fields := #[{ name := "offset", type := .long, accessFlags := 18, slot := 0, constantValue := 0 }, { name := "key", type := (.array .byte), accessFlags := 18, slot := 1, constantValue := 0 }, { name := "payload", type := (.array .byte), accessFlags := 18, slot := 2, constantValue := 0 }]
  methods := #[k2m0, k2m1]
  instanceTypes := #[.long, (.array .byte), (.array .byte)]
  staticTypes := #[]
  resolved := Array.replicate 44 none
  statics := none }

def pool3 : Array CpInfo := pool [(1, .class_ 2), (0, u "java/lang/Cloneable"), (0, .class_ 4), (0, u "java/lang/Object")] 2

/-- java/lang/Cloneable -/
def k3 : Class := { plain "java/lang/Cloneable" (some 0) with
  accessFlags := 1537
  interfaces := #[]
  cf := some (fileOf pool3 1 #[] #[] 1537 3 #[] #[])
  fields := #[]
  methods := #[]
  instanceTypes := #[]
  staticTypes := #[]
  resolved := Array.replicate 7 none
  statics := none }

def pool4 : Array CpInfo := pool [(1, u "java/io/Serializable"), (0, .class_ 1), (0, u "java/lang/Object"), (0, .class_ 3)] 3

/-- java/io/Serializable -/
def k4 : Class := { plain "java/io/Serializable" (some 0) with
  accessFlags := 1537
  interfaces := #[]
  cf := some (fileOf pool4 2 #[] #[] 1537 4 #[] #[])
  fields := #[]
  methods := #[]
  instanceTypes := #[]
  staticTypes := #[]
  resolved := Array.replicate 8 none
  statics := none }

/-- the primitive byte -/
def k5 : Class := { plain "byte" none with kind := .primitive 'B', accessFlags := 0x411 }
/-- [B -/
def k6 : Class := { plain "[B" (some 0) with kind := .array 5 .byte, interfaces := #[3, 4], accessFlags := 1041 }

/-- the primitive int -/
def k7 : Class := { plain "int" none with kind := .primitive 'I', accessFlags := 0x411 }
/-- [I -/
def k8 : Class := { plain "[I" (some 0) with kind := .array 7 .int, interfaces := #[3, 4], accessFlags := 1041 }

def heap : Heap := #[]
def classes : Array Class := #[k0, k1, k2, k3, k4, k5, k6, k7, k8]
def interned : List (Array UInt16 × Addr) := []
def slotsUsed : Nat := 0
def theMethod : MethodId := ⟨1, 1⟩
def args0 : Array Value := #[.long 5, .int 7, .int 9, .int 11, .int 4]
def aboutOver (below : List Frame) : State where
  vm := { classes := classes, interned := interned.toArray }
  heap := heap
  slotsUsed := slotsUsed
  threads := #[{ frames := .invoking theMethod args0 :: below }]
def below0 : List Frame := [.native { method := ⟨0, 0⟩, args := #[] }]
def about1 : State := aboutOver below0
def p0 : Program := .bare "" "" ""
def e0 : Env := launch0.env 0 0 0
theorem w_frames : about1.frames = Frame.invoking theMethod args0 :: below0 := rfl
set_option maxRecDepth 65536 in
theorem w_args : argsFit about1.vm theMethod args0 = true := by decide +kernel
set_option maxRecDepth 65536 in
theorem w_heap : heapFits about1 = true := by decide +kernel
set_option maxRecDepth 65536 in
theorem w_runnable : about1.curStatus? = some .runnable := by decide +kernel
set_option maxRecDepth 65536 in
theorem w_alone : about1.alone = true := by decide +kernel
set_option maxRecDepth 65536 in
theorem w_named : about1.methodNamed? x = some theMethod := by decide +kernel
set_option maxRecDepth 65536 in
theorem w_hears : about1.hears theMethod below0 = true := by decide +kernel
set_option maxRecDepth 65536 in
theorem w_ripe : about1.ripe theMethod args0 below0 = true := by decide +kernel
theorem w_running : about1.status = .running := rfl
set_option maxRecDepth 65536 in
theorem w_room : about1.hasRoom e0.platform room_1 = true :=
  launch0.hasRoom_least _ room_1 (by decide +kernel) (by decide +kernel) (by decide +kernel) (by decide +kernel) (by decide +kernel) (by decide +kernel)
theorem allAtoms_all (ts : List Jvm.Cond) (a : Array Jvm.Value) (st : Jvm.State) : (allAtoms ts).before a st = ts.all (fun c => c.before a st) := by
  induction ts with
  | nil => rfl
  | cons c t ih =>
    show (Jvm.Cond.and c (allAtoms t)).before a st = _
    rw [Jvm.Cond.before_and, ih, List.all_cons]
def words1 : List Jvm.Cond := Jvm.Cond.code x code maxLocals ret :: tables_1
/-- a 'code' word, met by the world's own term for the bytes: nothing is compared byte by byte -/
theorem code_word {y : MethodName} {bytes : ByteArray} {mx : Nat} {rt : Option FieldType} {a : Array Value} {s : State} {m : MethodId} {meth : Method} {c : Code} (h1 : s.methodNamed? y = some m) (h2 : s.vm.method? m = some meth) (h3 : meth.code = some c) (h4 : c.code = bytes)
    (h5 : (c.maxLocals == mx && c.exceptionTable.isEmpty && decide (c.maxStack ≤ mostOperands) && decide (meth.sig.returnType = rt) && !meth.locks && decide (parseMethodDescriptor y.desc = some meth.sig)) = true) : (Jvm.Cond.code y bytes mx rt).before a s = true := by
  simp only [Bool.and_eq_true, beq_iff_eq, Bool.not_eq_true', decide_eq_true_eq] at h5
  obtain ⟨⟨⟨⟨⟨g1, g2⟩, g3⟩, g4⟩, g5⟩, g6⟩ := h5
  simp [Cond.before, Cond.holds, Cond.value, h1, h2, h3, h4, g1, g2, g3, g4, g5, g6]
def isCode : Jvm.Cond → Bool
  | .code _ _ _ _ => true
  | _ => false
theorem all_split {L : List Jvm.Cond} {P : Jvm.Cond → Bool} (h1 : L.all (fun c => isCode c || P c) = true) (h2 : ∀ c ∈ L.filter isCode, P c = true) : L.all P = true := by
  refine List.all_eq_true.mpr fun c hc => ?_
  have h := List.all_eq_true.mp h1 c hc
  rcases Bool.eq_false_or_eq_true (isCode c) with hi | hi
  · exact h2 c (List.mem_filter.mpr ⟨hc, hi⟩)
  · simpa [hi] using h
set_option maxRecDepth 65536 in
theorem w_c0 : (Jvm.Cond.code x code maxLocals ret).before args0 about1 = true := code_word (m := ⟨1, 1⟩) (meth := k1m1) (c := k1c1) (by decide +kernel) rfl rfl rfl (by decide +kernel)
set_option maxRecDepth 65536 in
theorem w_c1 : (Jvm.Cond.code ({ cls := "com/example/adiq/adiq/client/MessageKeyPinLaw", name := "makeKey", desc := "(IBBB)[B" } : Jvm.MethodName) method_3_code (4 : Nat) (Option.some (Jvm.ClassFile.FieldType.array Jvm.ClassFile.FieldType.byte))).before args0 about1 = true := code_word (m := ⟨1, 2⟩) (meth := k1m2) (c := k1c2) (by decide +kernel) rfl rfl rfl (by decide +kernel)
set_option maxRecDepth 65536 in
theorem w_c2 : (Jvm.Cond.code ({ cls := "com/example/adiq/adiq/client/Message", name := "<init>", desc := "(J[B[B)V" } : Jvm.MethodName) prog_31_method_1_code (5 : Nat) (Option.none : Option Jvm.ClassFile.FieldType)).before args0 about1 = true := code_word (m := ⟨2, 0⟩) (meth := k2m0) (c := k2c0) (by decide +kernel) rfl rfl rfl (by decide +kernel)
set_option maxRecDepth 65536 in
theorem w_c3 : (Jvm.Cond.code ({ cls := "java/lang/Object", name := "<init>", desc := "()V" } : Jvm.MethodName) object_method_1_code (1 : Nat) (Option.none : Option Jvm.ClassFile.FieldType)).before args0 about1 = true := code_word (m := ⟨0, 0⟩) (meth := k0m0) (c := k0c0) (by decide +kernel) rfl rfl rfl (by decide +kernel)
set_option maxRecDepth 65536 in
theorem w_c4 : (Jvm.Cond.code ({ cls := "com/example/adiq/adiq/client/Message", name := "key", desc := "()[B" } : Jvm.MethodName) prog_31_method_3_code (1 : Nat) (Option.some (Jvm.ClassFile.FieldType.array Jvm.ClassFile.FieldType.byte))).before args0 about1 = true := code_word (m := ⟨2, 1⟩) (meth := k2m1) (c := k2c1) (by decide +kernel) rfl rfl rfl (by decide +kernel)
set_option maxRecDepth 65536 in
theorem w_c5 : (Jvm.Cond.code ({ cls := "com/example/adiq/adiq/client/MessageKeyPinLaw", name := "sameAs", desc := "([BIBBB)Z" } : Jvm.MethodName) method_4_code (5 : Nat) (Option.some Jvm.ClassFile.FieldType.boolean)).before args0 about1 = true := code_word (m := ⟨1, 3⟩) (meth := k1m3) (c := k1c3) (by decide +kernel) rfl rfl rfl (by decide +kernel)
def codes1 : List Jvm.Cond := [Jvm.Cond.code x code maxLocals ret, Jvm.Cond.code ({ cls := "com/example/adiq/adiq/client/MessageKeyPinLaw", name := "makeKey", desc := "(IBBB)[B" } : Jvm.MethodName) method_3_code (4 : Nat) (Option.some (Jvm.ClassFile.FieldType.array Jvm.ClassFile.FieldType.byte)), Jvm.Cond.code ({ cls := "com/example/adiq/adiq/client/Message", name := "<init>", desc := "(J[B[B)V" } : Jvm.MethodName) prog_31_method_1_code (5 : Nat) (Option.none : Option Jvm.ClassFile.FieldType), Jvm.Cond.code ({ cls := "java/lang/Object", name := "<init>", desc := "()V" } : Jvm.MethodName) object_method_1_code (1 : Nat) (Option.none : Option Jvm.ClassFile.FieldType), Jvm.Cond.code ({ cls := "com/example/adiq/adiq/client/Message", name := "key", desc := "()[B" } : Jvm.MethodName) prog_31_method_3_code (1 : Nat) (Option.some (Jvm.ClassFile.FieldType.array Jvm.ClassFile.FieldType.byte)), Jvm.Cond.code ({ cls := "com/example/adiq/adiq/client/MessageKeyPinLaw", name := "sameAs", desc := "([BIBBB)Z" } : Jvm.MethodName) method_4_code (5 : Nat) (Option.some Jvm.ClassFile.FieldType.boolean)]
set_option maxRecDepth 65536 in
theorem codes_eq : words1.filter isCode = codes1 := rfl
theorem w_codes : ∀ c ∈ words1.filter isCode, c.before args0 about1 = true := by
  rw [codes_eq]
  intro c hc
  simp only [codes1, List.mem_cons, List.not_mem_nil, or_false] at hc
  rcases hc with rfl | rfl | rfl | rfl | rfl | rfl
  · exact w_c0
  · exact w_c1
  · exact w_c2
  · exact w_c3
  · exact w_c4
  · exact w_c5
set_option maxRecDepth 65536 in
theorem w_t1 : (words1.take 24).all (fun c => isCode c || c.before args0 about1) = true := by decide +kernel
set_option maxRecDepth 65536 in
theorem w_t2 : (words1.drop 24).all (fun c => isCode c || c.before args0 about1) = true := by decide +kernel
theorem w_tables : (allAtoms (Jvm.Cond.code x code maxLocals ret :: tables_1)).before args0 about1 = true := by
  rw [allAtoms_all]
  show words1.all (fun c => c.before args0 about1) = true
  refine all_split ?_ w_codes
  rw [← List.take_append_drop 24 words1, List.all_append, w_t1, w_t2]
  rfl
set_option maxRecDepth 65536 in
theorem w_case : (Jvm.Cond.and given_1 narrow_1).before args0 about1 = true := by decide +kernel
theorem w_applies : (headSpec (Jvm.Cond.code x code maxLocals ret :: tables_1) room_1).applies x e0.platform about1 = true :=
  (Spec.applies_iff w_frames).mpr ⟨w_running, w_runnable, w_alone, w_named, w_hears, w_ripe, w_room, w_tables⟩
theorem atStart : AtStart classFile x code maxLocals ret World_1 tables_1 room_1 Calls_1 rest_1 Pre_1 launch0 p0 e0 about1 theMethod args0 below0 :=
  ⟨lists_1, trivial, launch0.admits_env _ _ _, launch0.least_env, fairChoices_fair.cas, fairChoices_fair.clock, w_frames, w_args, w_heap, w_applies, trivial, trivial, w_case⟩
end start1
theorem witness_1 : WitnessClaimed_1 := ⟨start1.p0, start1.e0, start1.about1, start1.theMethod, start1.args0, start1.below0, start1.atStart⟩
end Jvm.Pilot.@@N@@
