import JvmDerived
import JvmDerived.Pilot.@@N@@Statement
import JvmDerived.Pilot.@@N@@Code
set_option linter.unusedVariables false
set_option linter.unusedSimpArgs false
namespace Jvm.Pilot.@@N@@
open Jvm Jvm.ClassFile Sem Op Lib Jvm.Free Jvm.Stand Jvm.LawKit Jvm.RoadKit Bundle Jvm.Pilot.@@N@@.Jvm.D
section OwnKit
variable {p : Program} {l : Launch} {e : Env} {R : Room} {s : State} {m : MethodId} {args : Array Value} {below : List Frame} {meth : Method} {c : Code} {T T' : State} {locs : List Loc} {cells slots kc kn : Nat} {Q : Option Value → Heap → List Loc → Prop} {f f' : JFrame} {pc q q' : Nat} {Ls Ls' : Array Slot} {st : List Value} {Z : State} {a0 : Array Value} {h : Heap} {by' : ByteArray} {ml : Nat} {own nm : String} {ret : Option FieldType}
/-- from this state, with this frame on top, the body returns as Q says -/
def Run (p : Program) (e : Env) (below : List Frame) (s : State) (kc kn : Nat) (Q : Option Value → Heap → List Loc → Prop) (T : State) (f : JFrame) : Prop :=
  ∃ t o, Steps p.tables e below (T.setTop f) t ∧ t.status = .running ∧ Ended t below o ∧ ∃ v L, o = .returned v ∧ Q v t.heap L ∧ FrameEnd s o t L kc kn
theorem Run.by (st : ∀ t, Steps p.tables e below (T'.setTop f') t → Steps p.tables e below (T.setTop f) t) (k : Run p e below s kc kn Q T' f') : Run p e below s kc kn Q T f := by
  obtain ⟨t, o, h1, r⟩ := k
  exact ⟨t, o, st t h1, r⟩
theorem Run.on (k : Run p e below s kc kn Q T' f') (st : Steps p.tables e below (T.setTop f) (T'.setTop f')) : Run p e below s kc kn Q T f := k.by fun _ h1 => st.trans h1
/-- what a walk knows of its method throughout -/
def Fx (p : Program) (s : State) (m : MethodId) (meth : Method) (c : Code) (by' : ByteArray) (ml : Nat) (own nm : String) (ret : Option FieldType) (Z : State) : Prop :=
  p.tables.exec = Jvm.exec ∧ c.code = by' ∧ c.maxLocals = ml ∧ s.vm.findClass own = some m.cls ∧ Z.Warmed39 s.vm ∧ meth.sig.returnType = ret ∧ meth.locks = false ∧ meth.name = nm
theorem k_iloadN (K : Fx p s m meth c by' ml own nm ret Z) (X : Stand p l e R s m args below meth c T locs cells slots) {k' : Fin 4} {v : Int32} (hd : decode by' pc = .ok (.iload_n k', 1)) (hl : Ls[k'.val]? = some (.val (.int v))) (hq : pc + 1 = q) (k : Run p e below s kc kn Q T (mkF m q Ls (.int v :: st))) : Run p e below s kc kn Q T (mkF m pc Ls st) := by
  subst hq; exact k.by fun t => XS.iloadN X.here K.1 rfl (hb K.2.1 hd) hl
theorem k_iload (K : Fx p s m meth c by' ml own nm ret Z) (X : Stand p l e R s m args below meth c T locs cells slots) {k' : Nat} {v : Int32} (hd : decode by' pc = .ok (.iload k', 2)) (hl : Ls[k']? = some (.val (.int v))) (hq : pc + 2 = q) (k : Run p e below s kc kn Q T (mkF m q Ls (.int v :: st))) : Run p e below s kc kn Q T (mkF m pc Ls st) := by
  subst hq; exact k.by fun t => XS.iload X.here K.1 rfl (hb K.2.1 hd) hl
theorem k_aloadN (K : Fx p s m meth c by' ml own nm ret Z) (X : Stand p l e R s m args below meth c T locs cells slots) {k' : Fin 4} {v : Value} (hd : decode by' pc = .ok (.aload_n k', 1)) (hl : Ls[k'.val]? = some (.val v)) (hv : v.isRef = true) (hq : pc + 1 = q) (k : Run p e below s kc kn Q T (mkF m q Ls (v :: st))) : Run p e below s kc kn Q T (mkF m pc Ls st) := by
  subst hq; exact k.by fun t => XS.aloadN X.here K.1 rfl (hb K.2.1 hd) hl hv
theorem k_aload (K : Fx p s m meth c by' ml own nm ret Z) (X : Stand p l e R s m args below meth c T locs cells slots) {k' : Nat} {v : Value} (hd : decode by' pc = .ok (.aload k', 2)) (hl : Ls[k']? = some (.val v)) (hv : v.isRef = true) (hq : pc + 2 = q) (k : Run p e below s kc kn Q T (mkF m q Ls (v :: st))) : Run p e below s kc kn Q T (mkF m pc Ls st) := by
  subst hq; exact k.by fun t => XS.aload X.here K.1 rfl (hb K.2.1 hd) hl hv
theorem k_istore (K : Fx p s m meth c by' ml own nm ret Z) (X : Stand p l e R s m args below meth c T locs cells slots) {k' : Nat} {v x : Int32} (hd : decode by' pc = .ok (.istore k', 2)) (hv : x = v) (hl : storeLocals Ls k' (.int v) = some Ls') (hq : pc + 2 = q) (k : Run p e below s kc kn Q T (mkF m q Ls' st)) : Run p e below s kc kn Q T (mkF m pc Ls (.int x :: st)) := by
  subst hq hv; exact k.by fun t => XS.istore X.here K.1 rfl (hb K.2.1 hd) rfl hl
theorem k_astore (K : Fx p s m meth c by' ml own nm ret Z) (X : Stand p l e R s m args below meth c T locs cells slots) {k' : Nat} {v : Value} (hd : decode by' pc = .ok (.astore k', 2)) (hv : v.isRef = true) (hl : storeLocals Ls k' v = some Ls') (hq : pc + 2 = q) (k : Run p e below s kc kn Q T (mkF m q Ls' st)) : Run p e below s kc kn Q T (mkF m pc Ls (v :: st)) := by
  subst hq; exact k.by fun t => XS.astore X.here K.1 rfl (hb K.2.1 hd) rfl hv hl
theorem k_iconst (K : Fx p s m meth c by' ml own nm ret Z) (X : Stand p l e R s m args below meth c T locs cells slots) {i : Int} {v : Int32} (hd : decode by' pc = .ok (.iconst i, 1)) (hv : Int32.ofInt i = v) (hq : pc + 1 = q) (k : Run p e below s kc kn Q T (mkF m q Ls (.int v :: st))) : Run p e below s kc kn Q T (mkF m pc Ls st) := by
  subst hq hv; exact k.by fun t => XS.iconst X.here K.1 rfl (hb K.2.1 hd)
theorem k_iand (K : Fx p s m meth c by' ml own nm ret Z) (X : Stand p l e R s m args below meth c T locs cells slots) {x y : Int32} (hd : decode by' pc = .ok (.iand, 1)) (hq : pc + 1 = q) (k : Run p e below s kc kn Q T (mkF m q Ls (.int (x &&& y) :: st))) : Run p e below s kc kn Q T (mkF m pc Ls (.int y :: .int x :: st)) := by
  subst hq; exact k.by fun t => XS.iand X.here K.1 rfl (hb K.2.1 hd) rfl
theorem k_dup (K : Fx p s m meth c by' ml own nm ret Z) (X : Stand p l e R s m args below meth c T locs cells slots) {v : Value} (hd : decode by' pc = .ok (.dup, 1)) (hc : v.category = 1) (hq : pc + 1 = q) (k : Run p e below s kc kn Q T (mkF m q Ls (v :: v :: st))) : Run p e below s kc kn Q T (mkF m pc Ls (v :: st)) := by
  subst hq; exact k.by fun t => XS.dup X.here K.1 rfl (hb K.2.1 hd) rfl hc
theorem k_goto (K : Fx p s m meth c by' ml own nm ret Z) (X : Stand p l e R s m args below meth c T locs cells slots) {o : Int} (hd : decode by' pc = .ok (.goto o, 3)) (ho : 0 ≤ (pc : Int) + o) (hq : ((pc : Int) + o).toNat = q) (k : Run p e below s kc kn Q T (mkF m q Ls st)) : Run p e below s kc kn Q T (mkF m pc Ls st) := k.by fun t => XS.goto X.here K.1 rfl rfl (hb K.2.1 hd) ho hq
theorem k_if_eq_y (K : Fx p s m meth c by' ml own nm ret Z) (X : Stand p l e R s m args below meth c T locs cells slots) {x : Int32} {o : Int} (hd : decode by' pc = .ok (.ifCond .eq o, 3)) (hc : x = 0) (ho : 0 ≤ (pc : Int) + o) (hq : ((pc : Int) + o).toNat = q) (k : Run p e below s kc kn Q T (mkF m q Ls st)) : Run p e below s kc kn Q T (mkF m pc Ls (.int x :: st)) := k.by fun t => XS.ifYes X.here K.1 rfl rfl (hb K.2.1 hd) rfl ((if0 _ _).trans (teq hc).1) ho hq
theorem k_if_eq_n (K : Fx p s m meth c by' ml own nm ret Z) (X : Stand p l e R s m args below meth c T locs cells slots) {x : Int32} {o : Int} (hd : decode by' pc = .ok (.ifCond .eq o, 3)) (hc : ¬ x = 0) (hq : pc + 3 = q) (k : Run p e below s kc kn Q T (mkF m q Ls st)) : Run p e below s kc kn Q T (mkF m pc Ls (.int x :: st)) := by
  subst hq; exact k.by fun t => XS.ifNo X.here K.1 rfl (hb K.2.1 hd) rfl ((if0 _ _).trans (feq hc).1)
theorem k_if_eq (K : Fx p s m meth c by' ml own nm ret Z) (X : Stand p l e R s m args below meth c T locs cells slots) {x : Int32} {o : Int} (hd : decode by' pc = .ok (.ifCond .eq o, 3)) (ho : 0 ≤ (pc : Int) + o) (hq : ((pc : Int) + o).toNat = q) (hq' : pc + 3 = q') (ky : x = 0 → Run p e below s kc kn Q T (mkF m q Ls st)) (kno : ¬ x = 0 → Run p e below s kc kn Q T (mkF m q' Ls st)) : Run p e below s kc kn Q T (mkF m pc Ls (.int x :: st)) := by
  by_cases hc : x = 0
  · exact k_if_eq_y K X hd hc ho hq (ky hc)
  · exact k_if_eq_n K X hd hc hq' (kno hc)
theorem k_if_ne_y (K : Fx p s m meth c by' ml own nm ret Z) (X : Stand p l e R s m args below meth c T locs cells slots) {x : Int32} {o : Int} (hd : decode by' pc = .ok (.ifCond .ne o, 3)) (hc : ¬ x = 0) (ho : 0 ≤ (pc : Int) + o) (hq : ((pc : Int) + o).toNat = q) (k : Run p e below s kc kn Q T (mkF m q Ls st)) : Run p e below s kc kn Q T (mkF m pc Ls (.int x :: st)) := k.by fun t => XS.ifYes X.here K.1 rfl rfl (hb K.2.1 hd) rfl ((if0 _ _).trans (feq hc).2) ho hq
theorem k_if_ne_n (K : Fx p s m meth c by' ml own nm ret Z) (X : Stand p l e R s m args below meth c T locs cells slots) {x : Int32} {o : Int} (hd : decode by' pc = .ok (.ifCond .ne o, 3)) (hc : x = 0) (hq : pc + 3 = q) (k : Run p e below s kc kn Q T (mkF m q Ls st)) : Run p e below s kc kn Q T (mkF m pc Ls (.int x :: st)) := by
  subst hq; exact k.by fun t => XS.ifNo X.here K.1 rfl (hb K.2.1 hd) rfl ((if0 _ _).trans (teq hc).2)
theorem k_if_ne (K : Fx p s m meth c by' ml own nm ret Z) (X : Stand p l e R s m args below meth c T locs cells slots) {x : Int32} {o : Int} (hd : decode by' pc = .ok (.ifCond .ne o, 3)) (ho : 0 ≤ (pc : Int) + o) (hq : ((pc : Int) + o).toNat = q) (hq' : pc + 3 = q') (ky : ¬ x = 0 → Run p e below s kc kn Q T (mkF m q Ls st)) (kno : x = 0 → Run p e below s kc kn Q T (mkF m q' Ls st)) : Run p e below s kc kn Q T (mkF m pc Ls (.int x :: st)) := by
  by_cases hc : x = 0
  · exact k_if_ne_n K X hd hc hq' (kno hc)
  · exact k_if_ne_y K X hd hc ho hq (ky hc)
theorem k_icmp_ne_y (K : Fx p s m meth c by' ml own nm ret Z) (X : Stand p l e R s m args below meth c T locs cells slots) {x y : Int32} {o : Int} (hd : decode by' pc = .ok (.if_icmp .ne o, 3)) (hc : ¬ x = y) (ho : 0 ≤ (pc : Int) + o) (hq : ((pc : Int) + o).toNat = q) (k : Run p e below s kc kn Q T (mkF m q Ls st)) : Run p e below s kc kn Q T (mkF m pc Ls (.int y :: .int x :: st)) := k.by fun t => XS.icmpYes X.here K.1 rfl rfl (hb K.2.1 hd) rfl (feq hc).2 ho hq
theorem k_icmp_ne_n (K : Fx p s m meth c by' ml own nm ret Z) (X : Stand p l e R s m args below meth c T locs cells slots) {x y : Int32} {o : Int} (hd : decode by' pc = .ok (.if_icmp .ne o, 3)) (hc : x = y) (hq : pc + 3 = q) (k : Run p e below s kc kn Q T (mkF m q Ls st)) : Run p e below s kc kn Q T (mkF m pc Ls (.int y :: .int x :: st)) := by
  subst hq; exact k.by fun t => XS.icmpNo X.here K.1 rfl (hb K.2.1 hd) rfl (teq hc).2
theorem k_icmp_ne (K : Fx p s m meth c by' ml own nm ret Z) (X : Stand p l e R s m args below meth c T locs cells slots) {x y : Int32} {o : Int} (hd : decode by' pc = .ok (.if_icmp .ne o, 3)) (ho : 0 ≤ (pc : Int) + o) (hq : ((pc : Int) + o).toNat = q) (hq' : pc + 3 = q') (ky : ¬ x = y → Run p e below s kc kn Q T (mkF m q Ls st)) (kno : x = y → Run p e below s kc kn Q T (mkF m q' Ls st)) : Run p e below s kc kn Q T (mkF m pc Ls (.int y :: .int x :: st)) := by
  by_cases hc : x = y
  · exact k_icmp_ne_n K X hd hc hq' (kno hc)
  · exact k_icmp_ne_y K X hd hc ho hq (ky hc)
theorem k_icmp_lt_y (K : Fx p s m meth c by' ml own nm ret Z) (X : Stand p l e R s m args below meth c T locs cells slots) {x y : Int32} {o : Int} (hd : decode by' pc = .ok (.if_icmp .lt o, 3)) (hc : x < y) (ho : 0 ≤ (pc : Int) + o) (hq : ((pc : Int) + o).toNat = q) (k : Run p e below s kc kn Q T (mkF m q Ls st)) : Run p e below s kc kn Q T (mkF m pc Ls (.int y :: .int x :: st)) := k.by fun t => XS.icmpYes X.here K.1 rfl rfl (hb K.2.1 hd) rfl (tlt hc).1 ho hq
theorem k_icmp_lt_n (K : Fx p s m meth c by' ml own nm ret Z) (X : Stand p l e R s m args below meth c T locs cells slots) {x y : Int32} {o : Int} (hd : decode by' pc = .ok (.if_icmp .lt o, 3)) (hc : ¬ x < y) (hq : pc + 3 = q) (k : Run p e below s kc kn Q T (mkF m q Ls st)) : Run p e below s kc kn Q T (mkF m pc Ls (.int y :: .int x :: st)) := by
  subst hq; exact k.by fun t => XS.icmpNo X.here K.1 rfl (hb K.2.1 hd) rfl (flt hc).1
theorem k_icmp_lt (K : Fx p s m meth c by' ml own nm ret Z) (X : Stand p l e R s m args below meth c T locs cells slots) {x y : Int32} {o : Int} (hd : decode by' pc = .ok (.if_icmp .lt o, 3)) (ho : 0 ≤ (pc : Int) + o) (hq : ((pc : Int) + o).toNat = q) (hq' : pc + 3 = q') (ky : x < y → Run p e below s kc kn Q T (mkF m q Ls st)) (kno : ¬ x < y → Run p e below s kc kn Q T (mkF m q' Ls st)) : Run p e below s kc kn Q T (mkF m pc Ls (.int y :: .int x :: st)) := by
  by_cases hc : x < y
  · exact k_icmp_lt_y K X hd hc ho hq (ky hc)
  · exact k_icmp_lt_n K X hd hc hq' (kno hc)
theorem k_icmp_ge_y (K : Fx p s m meth c by' ml own nm ret Z) (X : Stand p l e R s m args below meth c T locs cells slots) {x y : Int32} {o : Int} (hd : decode by' pc = .ok (.if_icmp .ge o, 3)) (hc : ¬ x < y) (ho : 0 ≤ (pc : Int) + o) (hq : ((pc : Int) + o).toNat = q) (k : Run p e below s kc kn Q T (mkF m q Ls st)) : Run p e below s kc kn Q T (mkF m pc Ls (.int y :: .int x :: st)) := k.by fun t => XS.icmpYes X.here K.1 rfl rfl (hb K.2.1 hd) rfl (flt hc).2.1 ho hq
theorem k_icmp_ge_n (K : Fx p s m meth c by' ml own nm ret Z) (X : Stand p l e R s m args below meth c T locs cells slots) {x y : Int32} {o : Int} (hd : decode by' pc = .ok (.if_icmp .ge o, 3)) (hc : x < y) (hq : pc + 3 = q) (k : Run p e below s kc kn Q T (mkF m q Ls st)) : Run p e below s kc kn Q T (mkF m pc Ls (.int y :: .int x :: st)) := by
  subst hq; exact k.by fun t => XS.icmpNo X.here K.1 rfl (hb K.2.1 hd) rfl (tlt hc).2.1
theorem k_icmp_ge (K : Fx p s m meth c by' ml own nm ret Z) (X : Stand p l e R s m args below meth c T locs cells slots) {x y : Int32} {o : Int} (hd : decode by' pc = .ok (.if_icmp .ge o, 3)) (ho : 0 ≤ (pc : Int) + o) (hq : ((pc : Int) + o).toNat = q) (hq' : pc + 3 = q') (ky : ¬ x < y → Run p e below s kc kn Q T (mkF m q Ls st)) (kno : x < y → Run p e below s kc kn Q T (mkF m q' Ls st)) : Run p e below s kc kn Q T (mkF m pc Ls (.int y :: .int x :: st)) := by
  by_cases hc : x < y
  · exact k_icmp_ge_n K X hd hc hq' (kno hc)
  · exact k_icmp_ge_y K X hd hc ho hq (ky hc)
theorem k_retz (K : Fx p s m meth c by' ml own nm (some .boolean) Z) (X : Stand p l e R s m args below meth c T locs cells slots) {x : Int32} (eT : T.heap = h) (hd : decode by' pc = .ok (.ireturn, 1)) (hc : cells ≤ kc) (hn : slots ≤ kn) (hQ : Q (some (.int (nar .boolean x))) h locs) : Run p e below s kc kn Q T (mkF m pc Ls [.int x]) := by
  subst eT
  have hlk := K.2.2.2.2.2.2.1
  obtain ⟨fs, hr, hrun, hended, hW, hsame⟩ := X.leave (v := (some (.int (nar .boolean x)))) (fun z => by rw [K.2.2.2.2.2.1] at z; cases z)
  exact ⟨_, _, retN X K.1 K.2.2.2.2.2.1 (by simp) (hb K.2.1 hd) hr, hrun, hended, _, _, rfl, hQ, ⟨_, rfl⟩, hW, hsame.mono hc hn⟩
theorem k_retv (K : Fx p s m meth c by' ml own nm none Z) (X : Stand p l e R s m args below meth c T locs cells slots)  (eT : T.heap = h) (hd : decode by' pc = .ok (.return_, 1)) (hc : cells ≤ kc) (hn : slots ≤ kn) (hQ : Q none h locs) : Run p e below s kc kn Q T (mkF m pc Ls []) := by
  subst eT
  have hlk := K.2.2.2.2.2.2.1
  obtain ⟨fs, hr, hrun, hended, hW, hsame⟩ := X.leave (v := none) (fun _ => rfl)
  exact ⟨_, _, X.returnOut K.1 K.2.2.2.2.2.1 (hb K.2.1 hd) hr, hrun, hended, _, _, rfl, hQ, ⟨_, rfl⟩, hW, hsame.mono hc hn⟩
/-- a contract: with these arguments over this heap the body returns as Q says, within the room -/
abbrev Met (l : Launch) (y : MethodName) (bytes : ByteArray) (maxL : Nat) (ret : Option FieldType) (ws : List Jvm.Cond) (rm : Room) (Z : State) (as' : Array Value) (h0 : Heap) (Q : Option Value → Heap → List Loc → Prop) : Prop :=
  MetFree l y (head1 (Jvm.Cond.code y bytes maxL ret :: ws) rm) (fun a U => a = as' ∧ Z.Warmed39 U.vm ∧ U.heap = h0) (fun _ _ _ _ _ => True) (fun _ U o U' => ∃ v L, o = .returned v ∧ Q v U'.heap L ∧ FrameEnd U o U' L rm.cells rm.slots)
theorem enter {y : MethodName} {bytes : ByteArray} {maxL : Nat} {ws : List Jvm.Cond} {rm : Room} {as' : Array Value} {h0 : Heap} (hpl : plainFor y = true) (hef : ∀ m, entryFrame m as' maxL = mkF m 0 Ls [])
    (body : ∀ p e s m below meth c T kc kn Q', rm.cells ≤ kc → rm.slots ≤ kn → (∀ v h L, Q v h L → Q' v h L) → Fx p s m meth c bytes maxL y.cls y.name ret Z → Stand p l e rm s m as' below meth c T [] 0 0 → T.heap = h0 → Run p e below s kc kn Q' T (mkF m 0 Ls [])) : Met l y bytes maxL ret ws rm Z as' h0 Q := by
  refine MetFree.of_bodySF hpl hisR ?_
  intro p e s m args below meth c s₁ Bd hml0 hP hK
  obtain ⟨rfl, hZ, hh⟩ := hP
  obtain ⟨t, o, h1, h2, h3, v, L, h4, h5, h6⟩ := body p e s m below meth c s₁ _ _ Q (Nat.le_refl _) (Nat.le_refl _) (fun _ _ _ z => z) ⟨Bd.exec, Bd.bytes, hml0, findClass_of_methodNamed Bd.named, hZ, Bd.returns, BodyLoose.notSynchronized Bd, (name_of_methodNamed Bd.named Bd.method).1⟩ (Stand.of_body Bd) (by rw [← hh, Bd.state]; rfl)
  exact ⟨t, o, castTop (hef m) h1, h2, h3, v, L, h4, h5, h6⟩
theorem k_special (K : Fx p s m meth c by' ml own nm ret Z) (X : Stand p l e R s m args below meth c T locs cells slots) (eT : T.heap = h) {y : MethodName} {bytes : ByteArray} {maxL i W : Nat} {rm : Room} {as' : Array Value} {Q' : Option Value → Heap → List Loc → Prop} {a : Addr}
    (hd : decode by' pc = .ok (.invokespecial i, 3)) (hy1 : y.name = "<init>") (w1 : (Cond.methodLink own i y).before a0 Z = true) (w2 : (Cond.instanceMethod y).before a0 Z = true) (w3 : (Cond.initialized y.cls).before a0 Z = true) (w4 : (Cond.code y bytes maxL none).before a0 Z = true) (hy : y.cls ≠ "java/lang/invoke/MethodHandle" ∧ y.cls ≠ "java/lang/invoke/VarHandle")
    (hM : Met l y bytes maxL none [] rm Z as' h Q') (hf : rm.frames + 1 ≤ R.frames) (hl : W + (maxL + 11) + rm.locals ≤ R.locals) (hc : cells + rm.cells ≤ R.cells) (hn : slots + rm.slots ≤ R.slots) (hsz : Ls.size = ml)
    {sig : MethodDescriptor} (hdesc : parseMethodDescriptor y.desc = some sig) {argsL rest : List Value} (ha : as' = (.ref a :: argsL).toArray) (hlen : argsL.length = sig.parameters.length) (hst : st = argsL.reverse ++ .ref a :: rest) (hW : (rest.map fun v => v.category).sum ≤ W) (hq : pc + 3 = q)
    (k : ∀ v T' L, Stand p l e R s m args below meth c T' (locs ++ L) (cells + rm.cells) (slots + rm.slots) → Q' v T'.heap L → Run p e below s kc kn Q T' (mkF m q Ls (v.toList ++ rest))) : Run p e below s kc kn Q T (mkF m pc Ls st) := by
  have hZ := K.2.2.2.2.1
  subst hq
  obtain ⟨v, _, ⟨T2, L2, k2, n2⟩, -, X2, ⟨Lc, hQ2, l2, y2, z2⟩, st2⟩ := X.specialBack K.1 (y := y) hy1 K.2.2.2.1 (mvT hZ w1) (mvT hZ w2) (mvT hZ w4) hy (backOf (W := W) hM hZ w4 w3 hf hl) (g := mkF m pc Ls st) rfl (by rw [K.2.2.1]; exact hsz) (Steps.refl _) (a := a) (argsL := argsL) (rest := rest) (fun sg hs => by cases hdesc.symm.trans hs; exact hlen) hst (by show 2 * 0 + _ ≤ _; omega) (hb K.2.1 hd) (fun _ _ => ⟨ha.symm, eT, hc, hn⟩)
  dsimp only [Pt.U, Pt.locs, Pt.cells, Pt.slots] at X2 l2 y2 z2 st2 hQ2
  subst l2 y2 z2
  exact (k v T2 Lc X2 hQ2).on st2
theorem k_virtual (K : Fx p s m meth c by' ml own nm ret Z) (X : Stand p l e R s m args below meth c T locs cells slots) (eT : T.heap = h) {y : MethodName} {bytes : ByteArray} {maxL i W : Nat} {rt : Option FieldType} {rm : Room} {as' : Array Value} {Q' : Option Value → Heap → List Loc → Prop} {a : Addr}
    (hd : decode by' pc = .ok (.invokevirtual i, 3)) (w1 : (Cond.methodLink own i y).before a0 Z = true) (w2 : (Cond.declares y).before a0 Z = true) (w5 : (Cond.selects y.cls y y).before a0 Z = true) (w6 : (Cond.instanceMethod y).before a0 Z = true) (w3 : (Cond.initialized y.cls).before a0 Z = true) (w4 : (Cond.code y bytes maxL rt).before a0 Z = true) (hy : y.cls ≠ "java/lang/invoke/MethodHandle" ∧ y.cls ≠ "java/lang/invoke/VarHandle")
    (hE : Exa Z h a y.cls) (hM : Met l y bytes maxL rt [] rm Z as' h Q') (hf : rm.frames + 1 ≤ R.frames) (hl : W + (maxL + 11) + rm.locals ≤ R.locals) (hc : cells + rm.cells ≤ R.cells) (hn : slots + rm.slots ≤ R.slots) (hsz : Ls.size = ml)
    {sig : MethodDescriptor} (hdesc : parseMethodDescriptor y.desc = some sig) {argsL rest : List Value} (ha : as' = (.ref a :: argsL).toArray) (hlen : argsL.length = sig.parameters.length) (hst : st = argsL.reverse ++ .ref a :: rest) (hW : (rest.map fun v => v.category).sum ≤ W) (hq : pc + 3 = q)
    (k : ∀ v T' L, Stand p l e R s m args below meth c T' (locs ++ L) (cells + rm.cells) (slots + rm.slots) → Q' v T'.heap L → Run p e below s kc kn Q T' (mkF m q Ls (v.toList ++ rest))) : Run p e below s kc kn Q T (mkF m pc Ls st) := by
  have hZ := K.2.2.2.2.1
  subst hq
  obtain ⟨cq, kq, qa, qb, qc⟩ := isOf hZ eT hE
  obtain ⟨v, _, ⟨T2, L2, k2, n2⟩, -, X2, ⟨Lc, hQ2, l2, y2, z2⟩, st2⟩ := X.virtualBack K.1 (y := y) (z := y) K.2.2.2.1 (mvT hZ w1) (mvT hZ w2) (notFace_of_selects (args := #[]) (mvT hZ w5)) (mvT hZ w5) (mvT hZ w6) hy (backOf (W := W) hM hZ w4 w3 hf hl) qa qc (g := mkF m pc Ls st) rfl (by rw [K.2.2.1]; exact hsz) (Steps.refl _) (argsL := argsL) (rest := rest) (fun sg hs => by cases hdesc.symm.trans hs; exact hlen) hst (by show 2 * 0 + _ ≤ _; omega) (hb K.2.1 hd) (fun _ _ => ⟨ha.symm, eT, hc, hn⟩)
  dsimp only [Pt.U, Pt.locs, Pt.cells, Pt.slots] at X2 l2 y2 z2 st2 hQ2
  subst l2 y2 z2
  exact (k v T2 Lc X2 hQ2).on st2
theorem k_initO (K : Fx p s m meth c by' ml own nm ret Z) (X : Stand p l e R s m args below meth c T locs cells slots) (eT : T.heap = h) {i W : Nat} {a : Addr} (hd : decode by' pc = .ok (.invokespecial i, 3)) (w1 : (Cond.methodLink own i Lib.objectInit).before a0 Z = true) (w2 : (Cond.instanceMethod Lib.objectInit).before a0 Z = true) (w3 : (Cond.code Lib.objectInit ⟨#[0xb1]⟩ 1 none).before a0 Z = true)
    (hsz : Ls.size = ml) (hf : 1 ≤ R.frames) (hW : (st.map fun v => v.category).sum ≤ W) (hl : W + 12 ≤ R.locals) (hq : pc + 3 = q)
    (k : ∀ T', Stand p l e R s m args below meth c T' locs cells slots → T'.heap = h → Run p e below s kc kn Q T' (mkF m q Ls st)) : Run p e below s kc kn Q T (mkF m pc Ls (.ref a :: st)) := by
  subst hq
  obtain ⟨T2, X2, e2, st2⟩ := initO X K.1 K.2.2.2.2.1 K.2.2.2.1 w1 w2 w3 eT (g := mkF m pc Ls (.ref a :: st)) rfl (by rw [K.2.2.1]; exact hsz) rfl (hb K.2.1 hd) hf (W := W) (by show 2 * 0 + _ ≤ _; omega) hl
  exact (k T2 X2 e2).by st2
theorem k_new (K : Fx p s m meth c by' ml own nm ret Z) (X : Stand p l e R s m args below meth c T locs cells slots) (eT : T.heap = h) {i n : Nat} {C : String} (hd : decode by' pc = .ok (.new i, 3)) (w1 : (Cond.classLink own i C).before a0 Z = true) (w2 : (Cond.instantiable C n).before a0 Z = true) (w3 : (Cond.initialized C).before a0 Z = true) (hc : cells + 1 ≤ R.cells) (hn : slots + n ≤ R.slots) (hq : pc + 3 = q)
    (k : ∀ T' h' a, Stand p l e R s m args below meth c T' locs (cells + 1) (slots + n) → T'.heap = h' → a = h.size → Ext h h' → Exa Z h' a C → (∀ {O fn d : String} {ty : FieldType}, Laid Z a0 C O fn d → parseFieldDescriptor d = some ty → Fld Z h' a O fn d (defaultValue ty)) → Run p e below s kc kn Q T' (mkF m q Ls (.ref a :: st))) : Run p e below s kc kn Q T (mkF m pc Ls st) := by
  subst hq
  obtain ⟨T2, h2, X2, e2, E2, A2, D2, -, st2⟩ := newO X K.1 K.2.2.2.2.1 K.2.2.2.1 w1 w2 w3 eT (g := mkF m pc Ls st) rfl (hb K.2.1 hd) hc hn
  exact (k T2 h2 h.size X2 e2 rfl E2 A2 D2).by st2
theorem k_getfield (K : Fx p s m meth c by' ml own nm ret Z) (X : Stand p l e R s m args below meth c T locs cells slots) (eT : T.heap = h) {i : Nat} {O fn d : String} {a : Addr} {v : Value} (hd : decode by' pc = .ok (.getfield i, 3)) (w : (Cond.fieldLink own i O fn d).before a0 Z = true) (F : Fld Z h a O fn d v) (hq : pc + 3 = q)
    (k : ∀ T', Stand p l e R s m args below meth c T' locs cells slots → T'.heap = h → Run p e below s kc kn Q T' (mkF m q Ls (v :: st))) : Run p e below s kc kn Q T (mkF m pc Ls (.ref a :: st)) := by
  subst hq
  obtain ⟨T2, X2, e2, st2⟩ := getF X K.1 K.2.2.2.2.1 K.2.2.2.1 (host := "") (Or.inl w) Via.refl eT F (g := mkF m pc Ls (.ref a :: st)) rfl rfl (hb K.2.1 hd)
  exact (k T2 X2 e2).by st2
theorem k_putfield (K : Fx p s m meth c by' ml own nm ret Z) (X : Stand p l e R s m args below meth c T locs cells slots) (eT : T.heap = h) {i n : Nat} {O C fn d : String} {ty : FieldType} {a : Addr} {v old : Value} (hd : decode by' pc = .ok (.putfield i, 3)) (w : (Cond.fieldLink own i O fn d).before a0 Z = true) (F : Fld Z h a O fn d old) (E : Exa Z h a C) (L : (Cond.lays C O fn d).before a0 Z = true ∨ ((Cond.laysFinal C O fn d).before a0 Z = true ∧ own = O ∧ nm = "<init>")) (wi : (Cond.instantiable C n).before a0 Z = true)
    (hty : parseFieldDescriptor d = some ty) (hnar : narrow ty v = v) (hfit : fits ty v = true) (hq : pc + 3 = q)
    (k : ∀ T' h', Stand p l e R s m args below meth c T' (locs ++ [⟨a, Jvm.RoadKit.slotOf Z O fn d⟩]) cells slots → T'.heap = h' → Wr h h' a (Jvm.RoadKit.slotOf Z O fn d) v → Run p e below s kc kn Q T' (mkF m q Ls st)) : Run p e below s kc kn Q T (mkF m pc Ls (v :: .ref a :: st)) := by
  subst hq
  obtain ⟨T2, h2, X2, e2, W2, st2⟩ := putF X K.1 K.2.2.2.2.1 K.2.2.2.1 (host := "") (Or.inl w) Via.refl eT F E (L.imp id fun z => ⟨z.1, z.2.1, K.2.2.2.2.2.2.2.trans z.2.2⟩) wi hty hnar hfit (g := mkF m pc Ls (v :: .ref a :: st)) rfl rfl (hb K.2.1 hd)
  exact (k T2 h2 X2 e2 W2).by st2
theorem k_putfieldN (K : Fx p s m meth c by' ml own nm ret Z) (X : Stand p l e R s m args below meth c T locs cells slots) (eT : T.heap = h) {i n : Nat} {O C fn d : String} {ty : FieldType} {a : Addr} {v v' old : Value} (hd : decode by' pc = .ok (.putfield i, 3)) (w : (Cond.fieldLink own i O fn d).before a0 Z = true) (F : Fld Z h a O fn d old) (E : Exa Z h a C) (L : (Cond.lays C O fn d).before a0 Z = true ∨ ((Cond.laysFinal C O fn d).before a0 Z = true ∧ own = O ∧ nm = "<init>")) (wi : (Cond.instantiable C n).before a0 Z = true)
    (hty : parseFieldDescriptor d = some ty) (hnar : narrow ty v = v') (hfit : fits ty v' = true) (hq : pc + 3 = q)
    (k : ∀ T' h', Stand p l e R s m args below meth c T' (locs ++ [⟨a, Jvm.RoadKit.slotOf Z O fn d⟩]) cells slots → T'.heap = h' → Wr h h' a (Jvm.RoadKit.slotOf Z O fn d) v' → Run p e below s kc kn Q T' (mkF m q Ls st)) : Run p e below s kc kn Q T (mkF m pc Ls (v :: .ref a :: st)) := by
  subst hq
  obtain ⟨T2, h2, X2, e2, W2, st2⟩ := putFN X K.1 K.2.2.2.2.1 K.2.2.2.1 w Via.refl eT F E (L.imp id fun z => ⟨z.1, z.2.1, K.2.2.2.2.2.2.2.trans z.2.2⟩) wi hty hnar hfit (g := mkF m pc Ls (v :: .ref a :: st)) rfl rfl (hb K.2.1 hd)
  exact (k T2 h2 X2 e2 W2).by st2
/-- an instance method that leaves the heap as it was -/
theorem k_virtualP (K : Fx p s m meth c by' ml own nm ret Z) (X : Stand p l e R s m args below meth c T locs cells slots) (eT : T.heap = h) {y : MethodName} {bytes : ByteArray} {maxL i W fr lo : Nat} {rt : Option FieldType} {as' : Array Value} {w : Value} {a : Addr}
    (hd : decode by' pc = .ok (.invokevirtual i, 3)) (w1 : (Cond.methodLink own i y).before a0 Z = true) (w2 : (Cond.declares y).before a0 Z = true) (w5 : (Cond.selects y.cls y y).before a0 Z = true) (w6 : (Cond.instanceMethod y).before a0 Z = true) (w3 : (Cond.initialized y.cls).before a0 Z = true) (w4 : (Cond.code y bytes maxL rt).before a0 Z = true) (hy : y.cls ≠ "java/lang/invoke/MethodHandle" ∧ y.cls ≠ "java/lang/invoke/VarHandle")
    (hE : Exa Z h a y.cls) (hM : Met l y bytes maxL rt [] { frames := fr, cells := 0, slots := 0, locals := lo } Z as' h (fun v h' L => v = some w ∧ h' = h ∧ L = [])) (hf : fr + 1 ≤ R.frames) (hl : W + (maxL + 11) + lo ≤ R.locals) (hc : cells ≤ R.cells) (hn : slots ≤ R.slots) (hsz : Ls.size = ml)
    {sig : MethodDescriptor} (hdesc : parseMethodDescriptor y.desc = some sig) {argsL rest : List Value} (ha : as' = (.ref a :: argsL).toArray) (hlen : argsL.length = sig.parameters.length) (hst : st = argsL.reverse ++ .ref a :: rest) (hW : (rest.map fun v => v.category).sum ≤ W) (hq : pc + 3 = q)
    (k : ∀ T', Stand p l e R s m args below meth c T' locs cells slots → T'.heap = h → Run p e below s kc kn Q T' (mkF m q Ls (w :: rest))) : Run p e below s kc kn Q T (mkF m pc Ls st) := by
  refine k_virtual K X eT hd w1 w2 w5 w6 w3 w4 hy hE hM hf hl hc hn hsz hdesc ha hlen hst hW hq ?_
  rintro v T' L X' ⟨rfl, h2, rfl⟩
  rw [List.append_nil] at X'
  exact k T' X' h2
/-- a constructor that does nothing to the heap -/
theorem k_specialP (K : Fx p s m meth c by' ml own nm ret Z) (X : Stand p l e R s m args below meth c T locs cells slots) (eT : T.heap = h) {y : MethodName} {bytes : ByteArray} {maxL i W fr lo : Nat} {as' : Array Value} {a : Addr}
    (hd : decode by' pc = .ok (.invokespecial i, 3)) (hy1 : y.name = "<init>") (w1 : (Cond.methodLink own i y).before a0 Z = true) (w2 : (Cond.instanceMethod y).before a0 Z = true) (w3 : (Cond.initialized y.cls).before a0 Z = true) (w4 : (Cond.code y bytes maxL none).before a0 Z = true) (hy : y.cls ≠ "java/lang/invoke/MethodHandle" ∧ y.cls ≠ "java/lang/invoke/VarHandle")
    (hM : Met l y bytes maxL none [] { frames := fr, cells := 0, slots := 0, locals := lo } Z as' h (fun v h' L => v = none ∧ h' = h ∧ L = [])) (hf : fr + 1 ≤ R.frames) (hl : W + (maxL + 11) + lo ≤ R.locals) (hc : cells ≤ R.cells) (hn : slots ≤ R.slots) (hsz : Ls.size = ml)
    {sig : MethodDescriptor} (hdesc : parseMethodDescriptor y.desc = some sig) {argsL rest : List Value} (ha : as' = (.ref a :: argsL).toArray) (hlen : argsL.length = sig.parameters.length) (hst : st = argsL.reverse ++ .ref a :: rest) (hW : (rest.map fun v => v.category).sum ≤ W) (hq : pc + 3 = q)
    (k : ∀ T', Stand p l e R s m args below meth c T' locs cells slots → T'.heap = h → Run p e below s kc kn Q T' (mkF m q Ls rest)) : Run p e below s kc kn Q T (mkF m pc Ls st) := by
  refine k_special K X eT hd hy1 w1 w2 w3 w4 hy hM hf hl hc hn hsz hdesc ha hlen hst hW hq ?_
  rintro v T' L X' ⟨rfl, h2, rfl⟩
  rw [List.append_nil] at X'
  exact k T' X' h2
/-- an array of n places; place i holds g i -/
def Ary (Z : State) (h : Heap) (a : Addr) (ty : FieldType) (n : Nat) (g : Nat → Value) : Prop := ∃ c : Cell, Arr Z h a c ty ∧ c.slots.size = n ∧ n < 2147483648 ∧ (∀ i, i < n → c.slots[i]? = some (g i)) ∧ ∀ i, i < n → fits ty (g i) = true
theorem Ary.lt {a : Addr} {ty : FieldType} {n : Nat} {g : Nat → Value} (F : Ary Z h a ty n g) : a < h.size := by obtain ⟨c, A, -⟩ := F; exact A.lt
theorem Ary.ext {h' : Heap} {a : Addr} {ty : FieldType} {n : Nat} {g : Nat → Value} (F : Ary Z h a ty n g) (E : Ext h h') : Ary Z h' a ty n g := by obtain ⟨c, A, r⟩ := F; exact ⟨c, A.ext E, r⟩
theorem Ary.other {h' : Heap} {a b : Addr} {ty : FieldType} {n sl : Nat} {v : Value} {g : Nat → Value} (F : Ary Z h b ty n g) (W : Wr h h' a sl v) (q : b ≠ a) : Ary Z h' b ty n g := by obtain ⟨c, A, r⟩ := F; exact ⟨c, A.other W q, r⟩
theorem Ary.keep {h' : Heap} {a : Addr} {ty : FieldType} {n : Nat} {g : Nat → Value} {ws : List Addr} (F : Ary Z h a ty n g) (K : Keep h h' ws) (q : a ∉ ws) : Ary Z h' a ty n g := by obtain ⟨c, A, r⟩ := F; exact ⟨c, ⟨K.2.1 a c A.1 q, A.2⟩, r⟩
/-- the int j is the place i -/
def Ix (j : Int32) (i : Nat) : Prop := ¬ j < 0 ∧ j.toNatClampNeg = i
theorem Ix.of {j : Int32} {i : Nat} (h : j.toInt = i) : Ix j i := by
  refine ⟨?_, ?_⟩
  · rw [Int32.lt_iff_toInt_lt, h]; have : (0 : Int32).toInt = 0 := rfl
    omega
  · simp only [Int32.toNatClampNeg, h]; omega
end OwnKit

theorem wd {Z : State} {az : Array Value} (hw : ∀ d ∈ tables_1, d.before az Z = true) (k : Nat) {d : Jvm.Cond} (h : tables_1[k]? = some d) : d.before az Z = true := hw _ (List.mem_of_getElem? h)
theorem d2_0 : decode jdk_30_method_1_code 0 = .ok (.aload_n 0, 1) := by decide +kernel
theorem d2_1 : decode jdk_30_method_1_code 1 = .ok (.invokespecial 1, 3) := by decide +kernel
theorem d2_4 : decode jdk_30_method_1_code 4 = .ok (.return_, 1) := by decide +kernel
theorem ef_2 (a0 : Addr) : ∀ m : MethodId, entryFrame m #[(.ref a0)] 1 = mkF m 0 #[.val (.ref a0)] [] := by intro m; first | (simp [entryFrame, mkF, argsToLocals, Value.category]; done) | rfl
theorem pn_0 : plainName "java/lang/Record" = true := by first | (simp [plainName, overriddenIn]; done) | decide +kernel
set_option maxRecDepth 65536 in
set_option maxHeartbeats 40000000 in
theorem rm2 (l : Launch) (Z : State) (az : Array Value) (hw : ∀ d ∈ tables_1, d.before az Z = true) (ws : List Jvm.Cond) (a0 : Addr) (h0 : Heap) :
    Met l (⟨"java/lang/Record", "<init>", "()V"⟩ : MethodName) jdk_30_method_1_code 1 none ws ({ frames := 1, cells := 0, slots := 0, locals := 12 } : Room) Z #[(.ref a0)] h0 (fun v h' L => v = none ∧ h' = h0 ∧ L = []) := by
  refine enter (plainFor_of_name pn_0) (ef_2 a0) ?_
  intro p e s m below meth c T0 kc kn Q hkc hkn hQ K' X0 e0
  have K : Fx p s m meth c jdk_30_method_1_code 1 "java/lang/Record" "<init>" none Z := K'
  refine k_aloadN K X0 d2_0 rfl rfl (q := 1) rfl ?_
  refine k_initO K X0 e0 d2_1 (wd hw 11 rfl) (wd hw 12 rfl) (wd hw 13 rfl) rfl (by decide) (W := 0) (Nat.le_of_eq rfl) (by decide) (q := 4) rfl ?_
  intro T1 X2 e3
  exact k_retv K X2 e3 d2_4 (Nat.le_trans (by decide) hkc) (Nat.le_trans (by decide) hkn) (hQ _ _ _ ⟨rfl, rfl, rfl⟩)
theorem d1_0 : decode prog_43_method_1_code 0 = .ok (.aload_n 0, 1) := by decide +kernel
theorem d1_1 : decode prog_43_method_1_code 1 = .ok (.invokespecial 1, 3) := by decide +kernel
theorem pd_0 : parseMethodDescriptor "()V" = some ⟨[], none⟩ := by decide +kernel
theorem d1_4 : decode prog_43_method_1_code 4 = .ok (.aload_n 0, 1) := by decide +kernel
theorem d1_5 : decode prog_43_method_1_code 5 = .ok (.iload_n 1, 1) := by decide +kernel
theorem d1_6 : decode prog_43_method_1_code 6 = .ok (.putfield 7, 3) := by decide +kernel
theorem d1_9 : decode prog_43_method_1_code 9 = .ok (.aload_n 0, 1) := by decide +kernel
theorem d1_10 : decode prog_43_method_1_code 10 = .ok (.iload_n 2, 1) := by decide +kernel
theorem d1_11 : decode prog_43_method_1_code 11 = .ok (.putfield 13, 3) := by decide +kernel
theorem d1_14 : decode prog_43_method_1_code 14 = .ok (.aload_n 0, 1) := by decide +kernel
theorem d1_15 : decode prog_43_method_1_code 15 = .ok (.iload_n 3, 1) := by decide +kernel
theorem d1_16 : decode prog_43_method_1_code 16 = .ok (.putfield 16, 3) := by decide +kernel
theorem d1_19 : decode prog_43_method_1_code 19 = .ok (.return_, 1) := by decide +kernel
theorem ef_1 (a0 : Addr) (p1 : Int32) (p2 : Int32) (p3 : Int32) : ∀ m : MethodId, entryFrame m #[(.ref a0), (.int p1), (.int p2), (.int p3)] 4 = mkF m 0 #[.val (.ref a0), .val (.int p1), .val (.int p2), .val (.int p3)] [] := by intro m; first | (simp [entryFrame, mkF, argsToLocals, Value.category]; done) | rfl
theorem pn_1 : plainName "com/example/wherefore/wherefore/document/SignatureBlock$Search" = true := by first | (simp [plainName, overriddenIn]; done) | decide +kernel
set_option maxRecDepth 65536 in
set_option maxHeartbeats 40000000 in
theorem rm1 (l : Launch) (Z : State) (az : Array Value) (hw : ∀ d ∈ tables_1, d.before az Z = true) (ws : List Jvm.Cond) (a0 : Addr) (p1 : Int32) (p2 : Int32) (p3 : Int32) (w_a0_from : Int32) (w_a0_to : Int32) (w_a0_worded : Int32) (h0 : Heap) (n0 : Nat) (Z0 : n0 ≤ h0.size) (E_a0 : Exa Z h0 a0 "com/example/wherefore/wherefore/document/SignatureBlock$Search") (F_a0_from : Fld Z h0 a0 "com/example/wherefore/wherefore/document/SignatureBlock$Search" "from" "I" (.int w_a0_from)) (g_a0 : n0 ≤ a0) (F_a0_to : Fld Z h0 a0 "com/example/wherefore/wherefore/document/SignatureBlock$Search" "to" "I" (.int w_a0_to)) (F_a0_worded : Fld Z h0 a0 "com/example/wherefore/wherefore/document/SignatureBlock$Search" "worded" "Z" (.int w_a0_worded)) :
    Met l (⟨"com/example/wherefore/wherefore/document/SignatureBlock$Search", "<init>", "(IIZ)V"⟩ : MethodName) prog_43_method_1_code 4 none ws ({ frames := 2, cells := 0, slots := 0, locals := 24 } : Room) Z #[(.ref a0), (.int p1), (.int p2), (.int p3)] h0 (fun v h' L => v = none ∧ Fr n0 L ∧ Keep h0 h' [a0] ∧ Fld Z h' a0 "com/example/wherefore/wherefore/document/SignatureBlock$Search" "from" "I" (.int p1) ∧ Fld Z h' a0 "com/example/wherefore/wherefore/document/SignatureBlock$Search" "to" "I" (.int p2) ∧ Fld Z h' a0 "com/example/wherefore/wherefore/document/SignatureBlock$Search" "worded" "Z" (.int (nar .boolean p3))) := by
  refine enter (plainFor_of_name pn_1) (ef_1 a0 p1 p2 p3) ?_
  intro p e s m below meth c T0 kc kn Q hkc hkn hQ K' X0 e0
  have K : Fx p s m meth c prog_43_method_1_code 4 "com/example/wherefore/wherefore/document/SignatureBlock$Search" "<init>" none Z := K'
  have N0 := Fr.nil n0
  have K0 : Keep h0 h0 [a0] := Keep.refl _ _
  refine k_aloadN K X0 d1_0 rfl rfl (q := 1) rfl ?_
  refine k_specialP K X0 e0 d1_1 rfl (wd hw 6 rfl) (wd hw 7 rfl) (wd hw 9 rfl) (wd hw 10 rfl) (by decide) (rm2 l Z az hw [] a0 h0) (W := 0) (by decide) (by decide) (by decide) (by decide) rfl pd_0 (argsL := []) (rest := []) rfl rfl rfl (Nat.le_of_eq rfl) (q := 4) rfl ?_
  intro T51 X52 e53
  refine k_aloadN K X52 d1_4 rfl rfl (q := 5) rfl ?_
  refine k_iloadN K X52 d1_5 rfl (q := 6) rfl ?_
  refine k_putfield K X52 e53 d1_6 (wd hw 14 rfl) F_a0_from E_a0 (Or.inr ⟨(wd hw 15 rfl), rfl, rfl⟩) (wd hw 1 rfl) (ty := .int) (by decide) rfl rfl (q := 9) rfl ?_
  intro T54 h55 X56 e57 W58
  have f59 := Fld.same W58 F_a0_from
  have f60 := Exa.wr W58 E_a0
  have f61 := Fld.other W58 F_a0_to (Or.inr (slot_ne (Or.inr (wd hw 17 rfl)) (Or.inr (wd hw 15 rfl)) (by decide) (t := .int) (t' := .int) (by decide) (by decide)))
  have f62 := Fld.other W58 F_a0_worded (Or.inr (slot_ne (Or.inr (wd hw 19 rfl)) (Or.inr (wd hw 15 rfl)) (by decide) (t := .boolean) (t' := .int) (by decide) (by decide)))
  have N63 := Fr.snoc X56 N0 g_a0
  have K64 := Keep.wr K0 W58 (Or.inl (List.mem_of_getElem? (i := 0) rfl))
  have Z65 := Nat.le_trans Z0 (Nat.le_of_eq (Wr.size W58).symm)
  refine k_aloadN K X56 d1_9 rfl rfl (q := 10) rfl ?_
  refine k_iloadN K X56 d1_10 rfl (q := 11) rfl ?_
  refine k_putfield K X56 e57 d1_11 (wd hw 16 rfl) f61 f60 (Or.inr ⟨(wd hw 17 rfl), rfl, rfl⟩) (wd hw 1 rfl) (ty := .int) (by decide) rfl rfl (q := 14) rfl ?_
  intro T66 h67 X68 e69 W70
  have f71 := Fld.same W70 f61
  have f72 := Exa.wr W70 f60
  have f73 := Fld.other W70 f62 (Or.inr (slot_ne (Or.inr (wd hw 19 rfl)) (Or.inr (wd hw 17 rfl)) (by decide) (t := .boolean) (t' := .int) (by decide) (by decide)))
  have f74 := Fld.other W70 f59 (Or.inr (slot_ne (Or.inr (wd hw 15 rfl)) (Or.inr (wd hw 17 rfl)) (by decide) (t := .int) (t' := .int) (by decide) (by decide)))
  have N75 := Fr.snoc X68 N63 g_a0
  have K76 := Keep.wr K64 W70 (Or.inl (List.mem_of_getElem? (i := 0) rfl))
  have Z77 := Nat.le_trans Z65 (Nat.le_of_eq (Wr.size W70).symm)
  refine k_aloadN K X68 d1_14 rfl rfl (q := 15) rfl ?_
  refine k_iloadN K X68 d1_15 rfl (q := 16) rfl ?_
  refine k_putfieldN K X68 e69 d1_16 (wd hw 18 rfl) f73 f72 (Or.inr ⟨(wd hw 19 rfl), rfl, rfl⟩) (wd hw 1 rfl) (ty := .boolean) (v' := (.int (nar .boolean p3))) (by decide) rfl (fits_nar_bool _) (q := 19) rfl ?_
  intro T78 h79 X80 e81 W82
  have f83 := Fld.same W82 f73
  have f84 := Exa.wr W82 f72
  have f85 := Fld.other W82 f74 (Or.inr (slot_ne (Or.inr (wd hw 15 rfl)) (Or.inr (wd hw 19 rfl)) (by decide) (t := .int) (t' := .boolean) (by decide) (by decide)))
  have f86 := Fld.other W82 f71 (Or.inr (slot_ne (Or.inr (wd hw 17 rfl)) (Or.inr (wd hw 19 rfl)) (by decide) (t := .int) (t' := .boolean) (by decide) (by decide)))
  have N87 := Fr.snoc X80 N75 g_a0
  have K88 := Keep.wr K76 W82 (Or.inl (List.mem_of_getElem? (i := 0) rfl))
  have Z89 := Nat.le_trans Z77 (Nat.le_of_eq (Wr.size W82).symm)
  exact k_retv K X80 e81 d1_19 (Nat.le_trans (by decide) hkc) (Nat.le_trans (by decide) hkn) (hQ _ _ _ ⟨rfl, N87, K88, f85, f86, f83⟩)
theorem d4_0 : decode prog_43_method_2_code 0 = .ok (.iload_n 1, 1) := by decide +kernel
theorem d4_1 : decode prog_43_method_2_code 1 = .ok (.aload_n 0, 1) := by decide +kernel
theorem d4_2 : decode prog_43_method_2_code 2 = .ok (.getfield 7, 3) := by decide +kernel
theorem d4_5 : decode prog_43_method_2_code 5 = .ok (.if_icmp .lt 22, 3) := by decide +kernel
theorem d4_28 : decode prog_43_method_2_code 28 = .ok (.ireturn, 1) := by decide +kernel
theorem d4_27 : decode prog_43_method_2_code 27 = .ok (.iconst 0, 1) := by decide +kernel
theorem d4_8 : decode prog_43_method_2_code 8 = .ok (.iload_n 1, 1) := by decide +kernel
theorem d4_9 : decode prog_43_method_2_code 9 = .ok (.aload_n 0, 1) := by decide +kernel
theorem d4_10 : decode prog_43_method_2_code 10 = .ok (.getfield 13, 3) := by decide +kernel
theorem d4_13 : decode prog_43_method_2_code 13 = .ok (.if_icmp .lt 10, 3) := by decide +kernel
theorem d4_23 : decode prog_43_method_2_code 23 = .ok (.iconst 1, 1) := by decide +kernel
theorem d4_24 : decode prog_43_method_2_code 24 = .ok (.goto 4, 3) := by decide +kernel
theorem d4_16 : decode prog_43_method_2_code 16 = .ok (.aload_n 0, 1) := by decide +kernel
theorem d4_17 : decode prog_43_method_2_code 17 = .ok (.getfield 16, 3) := by decide +kernel
theorem d4_20 : decode prog_43_method_2_code 20 = .ok (.ifCond .ne 7, 3) := by decide +kernel
theorem ef_4 (a0 : Addr) (p1 : Int32) : ∀ m : MethodId, entryFrame m #[(.ref a0), (.int p1)] 2 = mkF m 0 #[.val (.ref a0), .val (.int p1)] [] := by intro m; first | (simp [entryFrame, mkF, argsToLocals, Value.category]; done) | rfl
def F_mayBeginInside (p1 : Int32) (w_a0_from : Int32) (w_a0_to : Int32) (w_a0_worded : Int32) : Int32 :=
  let d114 : Int32 := (if p1 < w_a0_from then (0 : Int32) else (if p1 < w_a0_to then (1 : Int32) else (if w_a0_worded = (0 : Int32) then (1 : Int32) else (0 : Int32))))
  (nar .boolean d114)
set_option maxRecDepth 65536 in
set_option maxHeartbeats 40000000 in
theorem rm4 (l : Launch) (Z : State) (az : Array Value) (hw : ∀ d ∈ tables_1, d.before az Z = true) (ws : List Jvm.Cond) (a0 : Addr) (p1 : Int32) (w_a0_from : Int32) (w_a0_to : Int32) (w_a0_worded : Int32) (h0 : Heap) (F_a0_from : Fld Z h0 a0 "com/example/wherefore/wherefore/document/SignatureBlock$Search" "from" "I" (.int w_a0_from)) (F_a0_to : Fld Z h0 a0 "com/example/wherefore/wherefore/document/SignatureBlock$Search" "to" "I" (.int w_a0_to)) (F_a0_worded : Fld Z h0 a0 "com/example/wherefore/wherefore/document/SignatureBlock$Search" "worded" "Z" (.int w_a0_worded)) :
    Met l (⟨"com/example/wherefore/wherefore/document/SignatureBlock$Search", "mayBeginInside", "(I)Z"⟩ : MethodName) prog_43_method_2_code 2 (some .boolean) ws ({ frames := 0, cells := 0, slots := 0, locals := 0 } : Room) Z #[(.ref a0), (.int p1)] h0 (fun v h' L => v = some (Value.int (F_mayBeginInside p1 w_a0_from w_a0_to w_a0_worded)) ∧ h' = h0 ∧ L = []) := by
  refine enter (plainFor_of_name pn_1) (ef_4 a0 p1) ?_
  intro p e s m below meth c T0 kc kn Q hkc hkn hQ K' X0 e0
  have K : Fx p s m meth c prog_43_method_2_code 2 "com/example/wherefore/wherefore/document/SignatureBlock$Search" "mayBeginInside" (some .boolean) Z := K'
  refine k_iloadN K X0 d4_0 rfl (q := 1) rfl ?_
  refine k_aloadN K X0 d4_1 rfl rfl (q := 2) rfl ?_
  refine k_getfield K X0 e0 d4_2 (wd hw 14 rfl) F_a0_from (q := 5) rfl ?_
  intro T102 X103 e104
  have J115 : ∀ (T116 : State), Stand p l e ({ frames := 0, cells := 0, slots := 0, locals := 0 } : Room) s m #[(.ref a0), (.int p1)] below meth c T116 [] 0 0 → T116.heap = h0 → ∀ (d114 : Int32), (if p1 < w_a0_from then (0 : Int32) else (if p1 < w_a0_to then (1 : Int32) else (if w_a0_worded = (0 : Int32) then (1 : Int32) else (0 : Int32)))) = d114 → Run p e below s kc kn Q T116 (mkF m 28 #[.val (.ref a0), .val (.int p1)] [(.int d114)]) := by
    intro T116 X117 e118 d114 hv_d114
    exact k_retz K X117 e118 d4_28 (Nat.le_trans (by decide) hkc) (Nat.le_trans (by decide) hkn) (hQ _ _ _ ⟨(by show some (Value.int (nar .boolean d114)) = some (Value.int (F_mayBeginInside p1 w_a0_from w_a0_to w_a0_worded)); simp only [F_mayBeginInside, hv_d114]), rfl, rfl⟩)
  refine k_icmp_lt K X103 d4_5 (by decide) (q := 27) rfl (q' := 8) rfl ?_ ?_
  · intro hc119
    refine k_iconst K X103 d4_27 (v := (0 : Int32)) rfl (q := 28) rfl ?_
    exact J115 T102 X103 e104 _ (by first | rfl | (simp only [if_pos hc119]))
  · intro hc119
    refine k_iloadN K X103 d4_8 rfl (q := 9) rfl ?_
    refine k_aloadN K X103 d4_9 rfl rfl (q := 10) rfl ?_
    refine k_getfield K X103 e104 d4_10 (wd hw 16 rfl) F_a0_to (q := 13) rfl ?_
    intro T120 X121 e122
    refine k_icmp_lt K X121 d4_13 (by decide) (q := 23) rfl (q' := 16) rfl ?_ ?_
    · intro hc123
      refine k_iconst K X121 d4_23 (v := (1 : Int32)) rfl (q := 24) rfl ?_
      refine k_goto K X121 d4_24 (by decide) (q := 28) rfl ?_
      exact J115 T120 X121 e122 _ (by first | rfl | (simp only [if_neg hc119, if_pos hc123]))
    · intro hc123
      refine k_aloadN K X121 d4_16 rfl rfl (q := 17) rfl ?_
      refine k_getfield K X121 e122 d4_17 (wd hw 18 rfl) F_a0_worded (q := 20) rfl ?_
      intro T124 X125 e126
      refine k_if_ne K X125 d4_20 (by decide) (q := 27) rfl (q' := 23) rfl ?_ ?_
      · intro hc127
        refine k_iconst K X125 d4_27 (v := (0 : Int32)) rfl (q := 28) rfl ?_
        exact J115 T124 X125 e126 _ (by first | rfl | (simp only [if_neg hc119, if_neg hc123, if_neg hc127]))
      · intro hc127
        refine k_iconst K X125 d4_23 (v := (1 : Int32)) rfl (q := 24) rfl ?_
        refine k_goto K X125 d4_24 (by decide) (q := 28) rfl ?_
        exact J115 T124 X125 e126 _ (by first | rfl | (simp only [if_neg hc119, if_neg hc123, if_pos hc127]))
theorem pd_1 : parseMethodDescriptor "(IIZ)V" = some ⟨[.int, .int, .boolean], none⟩ := by decide +kernel
theorem pd_2 : parseMethodDescriptor "(I)Z" = some ⟨[.int], some .boolean⟩ := by decide +kernel
theorem ef_0 (p0 : Int32) (p1 : Int32) (p2 : Int32) (p3 : Int32) : ∀ m : MethodId, entryFrame m #[(.int p0), (.int p1), (.int p2), (.int p3)] maxLocals = mkF m 0 #[.val (.int p0), .val (.int p1), .val (.int p2), .val (.int p3), .unset, .unset, .unset, .unset] [] := by intro m; first | (simp [entryFrame, mkF, argsToLocals, Value.category, maxLocals]; done) | rfl
theorem pn_2 : plainName "com/example/wherefore/wherefore/document/SignatureBlockMayBeginInsidePinLaw" = true := by first | (simp [plainName, overriddenIn]; done) | decide +kernel
def F_law (p0 : Int32) (p1 : Int32) (p2 : Int32) (p3 : Int32) : Int32 :=
  let d129 : Int32 := (if (p3 &&& (1 : Int32)) = (0 : Int32) then (0 : Int32) else (1 : Int32))
  let v160 : Int32 := (nar .boolean d129)
  let v164 : Int32 := (F_mayBeginInside p2 p0 p1 v160)
  let d169 : Int32 := (if p2 < p0 then (0 : Int32) else (if p2 < p1 then (1 : Int32) else (if d129 = (0 : Int32) then (1 : Int32) else (0 : Int32))))
  let d172 : Int32 := (if v164 = d169 then (1 : Int32) else (0 : Int32))
  (nar .boolean d172)
set_option maxRecDepth 65536 in
set_option maxHeartbeats 40000000 in
theorem rm0 (l : Launch) (Z : State) (az : Array Value) (hw : ∀ d ∈ tables_1, d.before az Z = true) (ws : List Jvm.Cond) (p0 : Int32) (p1 : Int32) (p2 : Int32) (p3 : Int32) (h0 : Heap) (n0 : Nat) (Z0 : n0 ≤ h0.size) :
    Met l x code maxLocals ret ws room_1 Z #[(.int p0), (.int p1), (.int p2), (.int p3)] h0 (fun v h' L => v = some (Value.int (F_law p0 p1 p2 p3)) ∧ Fr n0 L) := by
  refine enter (plainFor_of_name pn_2) (ef_0 p0 p1 p2 p3) ?_
  intro p e s m below meth c T0 kc kn Q hkc hkn hQ K' X0 e0
  have K : Fx p s m meth c code 8 "com/example/wherefore/wherefore/document/SignatureBlockMayBeginInsidePinLaw" "law" (some .boolean) Z := K'
  have N0 := Fr.nil n0
  have K0 : Keep h0 h0 [] := Keep.refl _ _
  refine k_iloadN K X0 at_0 rfl (q := 1) rfl ?_
  refine k_iconst K X0 at_1 (v := (1 : Int32)) rfl (q := 2) rfl ?_
  refine k_iand K X0 at_2 (q := 3) rfl ?_
  have J130 : ∀ (d129 : Int32), (if (p3 &&& (1 : Int32)) = (0 : Int32) then (0 : Int32) else (1 : Int32)) = d129 → Run p e below s kc kn Q T0 (mkF m 11 #[.val (.int p0), .val (.int p1), .val (.int p2), .val (.int p3), .unset, .unset, .unset, .unset] [(.int d129)]) := by
    intro d129 hv_d129
    refine k_istore K X0 at_11 rfl (Ls' := #[.val (.int p0), .val (.int p1), .val (.int p2), .val (.int p3), .val (.int d129), .unset, .unset, .unset]) rfl (q := 13) rfl ?_
    refine k_new K X0 e0 at_13 (wd hw 0 rfl) (wd hw 1 rfl) (wd hw 2 rfl) (by decide) (by decide) (q := 16) rfl ?_
    intro T131 h132 b133 X134 e135 g136 E137 A138 D139
    have ge140 : n0 ≤ b133 := Nat.le_trans Z0 (Nat.le_of_eq g136.symm)
    have bn141 : h0.size ≤ b133 := Nat.le_trans K0.1 (Nat.le_of_eq g136.symm)
    have K142 := Keep.ext K0 E137
    have Z143 := Nat.le_trans Z0 E137.1
    have f144 : Fld Z h132 b133 "com/example/wherefore/wherefore/document/SignatureBlock$Search" "from" "I" (.int (0 : Int32)) := D139 (Or.inr (wd hw 15 rfl)) (ty := .int) (by decide)
    have f145 : Fld Z h132 b133 "com/example/wherefore/wherefore/document/SignatureBlock$Search" "to" "I" (.int (0 : Int32)) := D139 (Or.inr (wd hw 17 rfl)) (ty := .int) (by decide)
    have f146 : Fld Z h132 b133 "com/example/wherefore/wherefore/document/SignatureBlock$Search" "worded" "Z" (.int (0 : Int32)) := D139 (Or.inr (wd hw 19 rfl)) (ty := .boolean) (by decide)
    refine k_dup K X134 at_16 rfl (q := 17) rfl ?_
    refine k_iloadN K X134 at_17 rfl (q := 18) rfl ?_
    refine k_iloadN K X134 at_18 rfl (q := 19) rfl ?_
    refine k_iload K X134 at_19 rfl (q := 21) rfl ?_
    refine k_special K X134 e135 at_21 rfl (wd hw 3 rfl) (wd hw 4 rfl) (wd hw 2 rfl) (wd hw 5 rfl) (by decide) (rm1 l Z az hw [] b133 p0 p1 d129 (0 : Int32) (0 : Int32) (0 : Int32) h132 n0 Z143 A138 f144 ge140 f145 f146) (W := 1) (by decide) (by decide) (by decide) (by decide) rfl pd_1 (argsL := [(.int p0), (.int p1), (.int d129)]) (rest := [(.ref b133)]) rfl rfl rfl (Nat.le_of_eq rfl) (q := 24) rfl ?_
    rintro _ T147 L148 X149 ⟨rfl, N150, K151, f153, f154, f155⟩
    have f156 := Exa.keep A138 K151
    have N157 := Fr.app N0 N150
    have K158 := Keep.trans K142 K151 (allS (Or.inr bn141) all0)
    have Z159 := Nat.le_trans Z143 K151.1
    obtain ⟨v160, hv_v160⟩ : ∃ z : Int32, (nar .boolean d129) = z := ⟨_, rfl⟩
    rw [hv_v160] at f155
    refine k_astore K X149 at_24 rfl (Ls' := #[.val (.int p0), .val (.int p1), .val (.int p2), .val (.int p3), .val (.int d129), .val (.ref b133), .unset, .unset]) rfl (q := 26) rfl ?_
    refine k_aload K X149 at_26 rfl rfl (q := 28) rfl ?_
    refine k_iloadN K X149 at_28 rfl (q := 29) rfl ?_
    refine k_virtualP K X149 rfl at_29 (wd hw 20 rfl) (wd hw 21 rfl) (wd hw 23 rfl) (wd hw 22 rfl) (wd hw 2 rfl) (wd hw 24 rfl) (by decide) f156 (rm4 l Z az hw [] b133 p2 p0 p1 v160 T147.heap f153 f154 f155) (W := 0) (by decide) (by decide) (by decide) (by decide) rfl pd_2 (argsL := [(.int p2)]) (rest := []) rfl rfl rfl (Nat.le_of_eq rfl) (q := 32) rfl ?_
    intro T161 X162 e163
    obtain ⟨v164, hv_v164⟩ : ∃ z : Int32, (F_mayBeginInside p2 p0 p1 v160) = z := ⟨_, rfl⟩
    refine k_istore K X162 at_32 hv_v164 (Ls' := #[.val (.int p0), .val (.int p1), .val (.int p2), .val (.int p3), .val (.int d129), .val (.ref b133), .val (.int v164), .unset]) rfl (q := 34) rfl ?_
    refine k_iloadN K X162 at_34 rfl (q := 35) rfl ?_
    refine k_iloadN K X162 at_35 rfl (q := 36) rfl ?_
    have J170 : ∀ (d169 : Int32), (if p2 < p0 then (0 : Int32) else (if p2 < p1 then (1 : Int32) else (if d129 = (0 : Int32) then (1 : Int32) else (0 : Int32)))) = d169 → Run p e below s kc kn Q T161 (mkF m 68 #[.val (.int p0), .val (.int p1), .val (.int p2), .val (.int p3), .val (.int d129), .val (.ref b133), .val (.int v164), .val (.int d169)] []) := by
      intro d169 hv_d169
      refine k_iload K X162 at_68 rfl (q := 70) rfl ?_
      refine k_iload K X162 at_70 rfl (q := 72) rfl ?_
      have J173 : ∀ (d172 : Int32), (if v164 = d169 then (1 : Int32) else (0 : Int32)) = d172 → Run p e below s kc kn Q T161 (mkF m 80 #[.val (.int p0), .val (.int p1), .val (.int p2), .val (.int p3), .val (.int d129), .val (.ref b133), .val (.int v164), .val (.int d169)] [(.int d172)]) := by
        intro d172 hv_d172
        exact k_retz K X162 e163 at_80 (Nat.le_trans (by decide) hkc) (Nat.le_trans (by decide) hkn) (hQ _ _ _ ⟨(by show some (Value.int (nar .boolean d172)) = some (Value.int (F_law p0 p1 p2 p3)); simp only [F_law, hv_d129, hv_v160, hv_v164, hv_d169, hv_d172]), N157⟩)
      refine k_icmp_ne K X162 at_72 (by decide) (q := 79) rfl (q' := 75) rfl ?_ ?_
      · intro hc174
        refine k_iconst K X162 at_79 (v := (0 : Int32)) rfl (q := 80) rfl ?_
        exact J173 _ (by first | rfl | (simp only [if_neg hc174]))
      · intro hc174
        refine k_iconst K X162 at_75 (v := (1 : Int32)) rfl (q := 76) rfl ?_
        refine k_goto K X162 at_76 (by decide) (q := 80) rfl ?_
        exact J173 _ (by first | rfl | (simp only [if_pos hc174]))
    refine k_icmp_ge K X162 at_36 (by decide) (q := 45) rfl (q' := 39) rfl ?_ ?_
    · intro hc175
      refine k_iloadN K X162 at_45 rfl (q := 46) rfl ?_
      refine k_iloadN K X162 at_46 rfl (q := 47) rfl ?_
      refine k_icmp_ge K X162 at_47 (by decide) (q := 56) rfl (q' := 50) rfl ?_ ?_
      · intro hc176
        refine k_iload K X162 at_56 rfl (q := 58) rfl ?_
        have J179 : ∀ (d178 : Int32), (if d129 = (0 : Int32) then (1 : Int32) else (0 : Int32)) = d178 → Run p e below s kc kn Q T161 (mkF m 66 #[.val (.int p0), .val (.int p1), .val (.int p2), .val (.int p3), .val (.int d129), .val (.ref b133), .val (.int v164), .unset] [(.int d178)]) := by
          intro d178 hv_d178
          refine k_istore K X162 at_66 rfl (Ls' := #[.val (.int p0), .val (.int p1), .val (.int p2), .val (.int p3), .val (.int d129), .val (.ref b133), .val (.int v164), .val (.int d178)]) rfl (q := 68) rfl ?_
          exact J170 _ (by subst hv_d178; first | rfl | (simp only [if_neg hc175, if_neg hc176]))
        refine k_if_ne K X162 at_58 (by decide) (q := 65) rfl (q' := 61) rfl ?_ ?_
        · intro hc180
          refine k_iconst K X162 at_65 (v := (0 : Int32)) rfl (q := 66) rfl ?_
          exact J179 _ (by first | rfl | (simp only [if_neg hc180]))
        · intro hc180
          refine k_iconst K X162 at_61 (v := (1 : Int32)) rfl (q := 62) rfl ?_
          refine k_goto K X162 at_62 (by decide) (q := 66) rfl ?_
          exact J179 _ (by first | rfl | (simp only [if_pos hc180]))
      · intro hc176
        refine k_iconst K X162 at_50 (v := (1 : Int32)) rfl (q := 51) rfl ?_
        refine k_istore K X162 at_51 rfl (Ls' := #[.val (.int p0), .val (.int p1), .val (.int p2), .val (.int p3), .val (.int d129), .val (.ref b133), .val (.int v164), .val (.int (1 : Int32))]) rfl (q := 53) rfl ?_
        refine k_goto K X162 at_53 (by decide) (q := 68) rfl ?_
        exact J170 _ (by first | rfl | (simp only [if_neg hc175, if_pos hc176]))
    · intro hc175
      refine k_iconst K X162 at_39 (v := (0 : Int32)) rfl (q := 40) rfl ?_
      refine k_istore K X162 at_40 rfl (Ls' := #[.val (.int p0), .val (.int p1), .val (.int p2), .val (.int p3), .val (.int d129), .val (.ref b133), .val (.int v164), .val (.int (0 : Int32))]) rfl (q := 42) rfl ?_
      refine k_goto K X162 at_42 (by decide) (q := 68) rfl ?_
      exact J170 _ (by first | rfl | (simp only [if_pos hc175]))
  refine k_if_eq K X0 at_3 (by decide) (q := 10) rfl (q' := 6) rfl ?_ ?_
  · intro hc181
    refine k_iconst K X0 at_10 (v := (0 : Int32)) rfl (q := 11) rfl ?_
    exact J130 _ (by first | rfl | (simp only [if_pos hc181]))
  · intro hc181
    refine k_iconst K X0 at_6 (v := (1 : Int32)) rfl (q := 7) rfl ?_
    refine k_goto K X0 at_7 (by decide) (q := 11) rfl ?_
    exact J130 _ (by first | rfl | (simp only [if_neg hc181]))

theorem law_eq (p0 p1 p2 p3 : Int32) : F_law p0 p1 p2 p3 = 1 := by
  simp only [F_law, F_mayBeginInside]
  by_cases k1 : p2 < p0
  · simp only [if_pos k1]; decide
  · by_cases k2 : p2 < p1
    · simp only [if_neg k1, if_pos k2]; decide
    · by_cases k3 : (p3 &&& 1) = 0
      · simp only [if_neg k1, if_neg k2, if_pos k3]; decide
      · simp only [if_neg k1, if_neg k2, if_neg k3]; decide
set_option maxRecDepth 65536 in
set_option maxHeartbeats 40000000 in
theorem comes_1 {Post : Tables → Env → Array Value → State → Outcome → State → Prop} (hpost : ∀ tb e args s v u, (limb_1_1.after args s (.returned v) u = true ∧ limb_1_2.after args s (.returned v) u = true ∧ True) → FrameEnd s (.returned v) u (Jvm.fieldLocs frame_1_writes args s ++ Jvm.arrayLocs frame_1_arrays args s ++ Jvm.staticLocs frame_1_statics s) 16 128 → Post tb e args s (.returned v) u) :
    ArmFor flags0 classFile x code maxLocals ret World_1 tables_1 room_1 Calls_1 rest_1 Pre_1 Post := by
  intro l hfl _ _ p e ha hc hk s m args below hf hA hF happ hP
  obtain ⟨hcalls, hrest, hpre⟩ := hP
  obtain ⟨-, -, -, hnamed, -, -, -, hat⟩ := (Spec.applies_iff hf).mp happ
  obtain ⟨hg, hn⟩ := and_e (Cond.before_iff.mp (show (Jvm.Cond.and given_1 narrow_1).before args s = true from hpre))
  obtain ⟨gc, g0⟩ := and_e hg
  obtain ⟨ga0, g1⟩ := and_e g0
  obtain ⟨ga1, g2⟩ := and_e g1
  obtain ⟨ga2, g3⟩ := and_e g2
  obtain ⟨w0, w1, w2, w3, rfl⟩ : ∃ w0 w1 w2 w3 : Value, args = #[w0, w1, w2, w3] := by
    have hs : args.size = 4 := by simpa [Cond.value, given_1] using gc
    obtain ⟨L⟩ := args
    match L, hs with
    | [w0, w1, w2, w3], _ => exact ⟨w0, w1, w2, w3, rfl⟩
  have hw := fun d (hd : d ∈ tables_1) => atoms_spec (ws := Jvm.Cond.code x code maxLocals ret :: tables_1) hat d (List.mem_cons_of_mem _ hd)
  obtain ⟨i0, ei0⟩ := is_v ga0
  obtain rfl : w0 = (.int i0) := Option.some.inj ei0
  obtain ⟨i1, ei1⟩ := is_v ga1
  obtain rfl : w1 = (.int i1) := Option.some.inj ei1
  obtain ⟨i2, ei2⟩ := is_v ga2
  obtain rfl : w2 = (.int i2) := Option.some.inj ei2
  obtain ⟨i3, ei3⟩ := is_v g3
  obtain rfl : w3 = (.int i3) := Option.some.inj ei3
  obtain ⟨n, o, h1, h2, h3, _, L, rfl, ⟨rfl, N⟩, hq⟩ := rm0 l s _ hw tables_1 i0 i1 i2 i3 s.heap s.heap.size (Nat.le_refl _) p e ha hc hk s m _ below hf ((Spec.applies_iff_loose hf).mp happ).1 ⟨rfl, State.Warmed39.refl s, rfl⟩ trivial
  rw [law_eq] at *
  refine ⟨n, _, h1, h2, h3, hpost _ _ _ _ _ _ ⟨Cond.after_iff.mpr rfl, Cond.after_iff.mpr (eq_i res_at (Term.int_eval (1)) rfl), trivial⟩ ⟨hq.1, hq.2.1, (hq.2.2.sift fun y hy => Or.inr (N y hy)).mono (by decide) (by decide)⟩⟩
theorem main_1_1 : Claimed_1_1 := comes_1 fun _ _ _ _ _ _ h hF => ⟨h.1, hF⟩
theorem main_1_2 : Claimed_1_2 := comes_1 fun _ _ _ _ _ _ h hF => ⟨h.2.1, hF⟩
end Jvm.Pilot.@@N@@
namespace Jvm.Pilot.@@N@@
open Jvm Jvm.ClassFile Sem Op Lib Jvm.Free Jvm.Stand Jvm.Pilot.@@N@@.Jvm.D
/-! MADE BY PROGRAM (witnessworld.py) out of the Statement's table words and the real class files: 10 classes; the members and pool entries that the words name. The judged class is class 1, her method 1. -/
namespace start1
open Jvm.ClassFile
def u (s : String) : CpInfo := .utf8 (stringToUtf16 s)
/-- a pool by its gaps: so many unusable entries, then the entry; so many at the end -/
def gap : Nat → List CpInfo → List CpInfo
  | 0, r => r
  | n + 1, r => .unusable :: gap n r
def poolList (es : List (Nat × CpInfo)) (last : Nat) : List CpInfo := es.foldr (fun e r => gap e.1 (e.2 :: r)) (gap last [])
def pool (es : List (Nat × CpInfo)) (last : Nat) : Array CpInfo := ⟨poolList es last⟩
def fileOf (pool : Array CpInfo) (this : Nat) (attrs : Array Attribute := #[]) (ms : Array MethodInfo := #[]) (fl : Nat := 33) (sup : Nat := 0) (ifs : Array Nat := #[]) (fds : Array FieldInfo := #[]) : ClassFile where
  minorVersion := 0
  majorVersion := 65
  constantPool := pool
  accessFlags := fl
  thisClass := this
  superClass := sup
  interfaces := ifs
  fields := fds
  methods := ms
  attributes := attrs
def plain (name : String) (sup : Option ClassId) : Class where
  name := name
  kind := .ordinary
  loader := none
  accessFlags := 33
  super := sup
  interfaces := #[]
  cf := none
  fields := #[]
  methods := #[]
  instanceTypes := #[]
  staticTypes := #[]
  resolved := #[]
  callSites := []
  init := .initialized
  statics := none
  mirror := none

def pool0 : Array CpInfo := pool [(5, u "<init>"), (0, u "()V"), (1, .class_ 10), (1, u "java/lang/Object")] 113

def k0c0 : Code := { maxStack := 0, maxLocals := 1, code := object_method_1_code, exceptionTable := #[], attributes := #[] }
def k0m0 : Method := { name := "<init>", desc := "()V", sig := { parameters := [], returnType := none }, accessFlags := 1, code := some k0c0 }
/-- java/lang/Object -/
def k0 : Class := { plain "java/lang/Object" none with
  accessFlags := 33
  interfaces := #[]
  cf := some (fileOf pool0 8 #[] #[{ accessFlags := 1, nameIndex := 5, descriptorIndex := 6, attributes := #[] }] 33 0 #[] #[])
  fields := #[]
  methods := #[k0m0]
  instanceTypes := #[]
  staticTypes := #[]
  resolved := Array.replicate 124 none
  statics := none }

def pool1 : Array CpInfo := pool [(2, .class_ 4), (1, u "java/lang/Object"), (0, u "<init>"), (0, u "()V"), (0, .class_ 8), (0, u "com/example/wherefore/wherefore/document/SignatureBlock$Search"), (0, .methodref 7 10), (0, .nameAndType 5 11), (0, u "(IIZ)V"), (0, .methodref 7 13), (0, .nameAndType 14 15), (0, u "mayBeginInside"), (0, u "(I)Z"), (0, .class_ 17), (0, u "com/example/wherefore/wherefore/document/SignatureBlockMayBeginInsidePinLaw"), (2, u "law"), (0, u "(IIII)Z")] 7

def k1m0 : Method := { name := "<init>", desc := "()V", sig := { parameters := [], returnType := none }, accessFlags := 2, code := none }
def k1c1 : Code := { maxStack := 5, maxLocals := 8, code := code, exceptionTable := #[], attributes := #[] }
def k1m1 : Method := { name := "law", desc := "(IIII)Z", sig := { parameters := [.int, .int, .int, .int], returnType := some .boolean }, accessFlags := 9, code := some k1c1 }
/-- com/example/wherefore/wherefore/document/SignatureBlockMayBeginInsidePinLaw -/
def k1 : Class := { plain "com/example/wherefore/wherefore/document/SignatureBlockMayBeginInsidePinLaw" (some 0) with
  accessFlags := 49
  interfaces := #[]
  cf := some (fileOf pool1 16 #[] #[{ accessFlags := 2, nameIndex := 5, descriptorIndex := 6, attributes := #[] }, { accessFlags := 9, nameIndex := 20, descriptorIndex := 21, attributes := #[] }] 49 2 #[] #[])
  fields := #[]
  methods := #[k1m0, k1m1]
  instanceTypes := #[]
  staticTypes := #[]
  resolved := Array.replicate 29 none
  statics := none }

def pool2 : Array CpInfo := pool [(1, .methodref 2 3), (0, .class_ 4), (0, .nameAndType 5 6), (0, u "java/lang/Object"), (0, u "<init>"), (0, u "()V"), (0, .class_ 8), (0, u "java/lang/Record")] 13

def k2c0 : Code := { maxStack := 1, maxLocals := 1, code := jdk_30_method_1_code, exceptionTable := #[], attributes := #[] }
def k2m0 : Method := { name := "<init>", desc := "()V", sig := { parameters := [], returnType := none }, accessFlags := 4, code := some k2c0 }
/-- java/lang/Record -/
def k2 : Class := { plain "java/lang/Record" (some 0) with
  accessFlags := 1057
  interfaces := #[]
  cf := some (fileOf pool2 7 #[] #[{ accessFlags := 4, nameIndex := 5, descriptorIndex := 6, attributes := #[] }] 1057 2 #[] #[])
  fields := #[]
  methods := #[k2m0]
  instanceTypes := #[]
  staticTypes := #[]
  resolved := Array.replicate 22 none
  statics := none }

def pool3 : Array CpInfo := pool [(1, .methodref 2 3), (0, .class_ 4), (0, .nameAndType 5 6), (0, u "java/lang/Record"), (0, u "<init>"), (0, u "()V"), (0, .fieldref 8 9), (0, .class_ 10), (0, .nameAndType 11 12), (0, u "com/example/wherefore/wherefore/document/SignatureBlock$Search"), (0, u "from"), (0, u "I"), (0, .fieldref 8 14), (0, .nameAndType 15 12), (0, u "to"), (0, .fieldref 8 17), (0, .nameAndType 18 19), (0, u "worded"), (0, u "Z"), (12, u "(IIZ)V"), (3, u "mayBeginInside"), (0, u "(I)Z"), (8, .class_ 47), (0, u "com/example/wherefore/wherefore/document/SignatureBlock")] 21

def k3c0 : Code := { maxStack := 2, maxLocals := 4, code := prog_43_method_1_code, exceptionTable := #[], attributes := #[] }
def k3m0 : Method := { name := "<init>", desc := "(IIZ)V", sig := { parameters := [.int, .int, .boolean], returnType := none }, accessFlags := 0, code := some k3c0 }
def k3c1 : Code := { maxStack := 2, maxLocals := 2, code := prog_43_method_2_code, exceptionTable := #[], attributes := #[] }
def k3m1 : Method := { name := "mayBeginInside", desc := "(I)Z", sig := { parameters := [.int], returnType := some .boolean }, accessFlags := 0, code := some k3c1 }
/-- com/example/wherefore/wherefore/document/SignatureBlock$Search -/
def k3 : Class := { plain "com/example/wherefore/wherefore/document/SignatureBlock$Search" (some 2) with
  accessFlags := 48
  interfaces := #[]
  cf := some (fileOf pool3 8 #[.nestHost 46] #[{ accessFlags := 0, nameIndex := 5, descriptorIndex := 32, attributes := #[] }, { accessFlags := 0, nameIndex := 36, descriptorIndex := 37, attributes := #[] }] 48 2 #[] #[{ accessFlags := 18, nameIndex := 11, descriptorIndex := 12, attributes := #[] }, { accessFlags := 18, nameIndex := 15, descriptorIndex := 12, attributes := #[] }, { accessFlags := 18, nameIndex := 18, descriptorIndex := 19, attributes := #[] }])
  fields := #[{ name := "from", type := .int, accessFlags := 18, slot := 0, constantValue := 0 }, { name := "to", type := .int, accessFlags := 18, slot := 1, constantValue := 0 }, { name := "worded", type := .boolean, accessFlags := 18, slot := 2, constantValue := 0 }]
  methods := #[k3m0, k3m1]
  instanceTypes := #[.int, .int, .boolean]
  staticTypes := #[]
  resolved := Array.replicate 69 none
  statics := none }

def pool4 : Array CpInfo := pool [(1, u "java/lang/Cloneable"), (0, .class_ 1), (0, u "java/lang/Object"), (0, .class_ 3)] 3

/-- java/lang/Cloneable -/
def k4 : Class := { plain "java/lang/Cloneable" (some 0) with
  accessFlags := 1537
  interfaces := #[]
  cf := some (fileOf pool4 2 #[] #[] 1537 4 #[] #[])
  fields := #[]
  methods := #[]
  instanceTypes := #[]
  staticTypes := #[]
  resolved := Array.replicate 8 none
  statics := none }

def pool5 : Array CpInfo := pool [(1, u "java/io/Serializable"), (0, .class_ 1), (0, u "java/lang/Object"), (0, .class_ 3)] 3

/-- java/io/Serializable -/
def k5 : Class := { plain "java/io/Serializable" (some 0) with
  accessFlags := 1537
  interfaces := #[]
  cf := some (fileOf pool5 2 #[] #[] 1537 4 #[] #[])
  fields := #[]
  methods := #[]
  instanceTypes := #[]
  staticTypes := #[]
  resolved := Array.replicate 8 none
  statics := none }

/-- the primitive byte -/
def k6 : Class := { plain "byte" none with kind := .primitive 'B', accessFlags := 0x411 }
/-- [B -/
def k7 : Class := { plain "[B" (some 0) with kind := .array 6 .byte, interfaces := #[4, 5], accessFlags := 1041 }

/-- the primitive int -/
def k8 : Class := { plain "int" none with kind := .primitive 'I', accessFlags := 0x411 }
/-- [I -/
def k9 : Class := { plain "[I" (some 0) with kind := .array 8 .int, interfaces := #[4, 5], accessFlags := 1041 }

def heap : Heap := #[]
def classes : Array Class := #[k0, k1, k2, k3, k4, k5, k6, k7, k8, k9]
def interned : List (Array UInt16 × Addr) := []
def slotsUsed : Nat := 0
def theMethod : MethodId := ⟨1, 1⟩
def args0 : Array Value := #[.int 5, .int 7, .int 9, .int 11]
def aboutOver (below : List Frame) : State where
  vm := { classes := classes, interned := interned.toArray }
  heap := heap
  slotsUsed := slotsUsed
  threads := #[{ frames := .invoking theMethod args0 :: below }]
def below0 : List Frame := [.native { method := ⟨0, 0⟩, args := #[] }]
def about1 : State := aboutOver below0
def p0 : Program := .bare "" "" ""
def e0 : Env := launch0.env 0 0 0
theorem w_frames : about1.frames = Frame.invoking theMethod args0 :: below0 := rfl
set_option maxRecDepth 65536 in
theorem w_args : argsFit about1.vm theMethod args0 = true := by decide +kernel
set_option maxRecDepth 65536 in
theorem w_heap : heapFits about1 = true := by decide +kernel
set_option maxRecDepth 65536 in
theorem w_runnable : about1.curStatus? = some .runnable := by decide +kernel
set_option maxRecDepth 65536 in
theorem w_alone : about1.alone = true := by decide +kernel
set_option maxRecDepth 65536 in
theorem w_named : about1.methodNamed? x = some theMethod := by decide +kernel
set_option maxRecDepth 65536 in
theorem w_hears : about1.hears theMethod below0 = true := by decide +kernel
set_option maxRecDepth 65536 in
theorem w_ripe : about1.ripe theMethod args0 below0 = true := by decide +kernel
theorem w_running : about1.status = .running := rfl
set_option maxRecDepth 65536 in
theorem w_room : about1.hasRoom e0.platform room_1 = true :=
  launch0.hasRoom_least _ room_1 (by decide +kernel) (by decide +kernel) (by decide +kernel) (by decide +kernel) (by decide +kernel) (by decide +kernel)
theorem allAtoms_all (ts : List Jvm.Cond) (a : Array Jvm.Value) (st : Jvm.State) : (allAtoms ts).before a st = ts.all (fun c => c.before a st) := by
  induction ts with
  | nil => rfl
  | cons c t ih =>
    show (Jvm.Cond.and c (allAtoms t)).before a st = _
    rw [Jvm.Cond.before_and, ih, List.all_cons]
def words1 : List Jvm.Cond := Jvm.Cond.code x code maxLocals ret :: tables_1
/-- a 'code' word, met by the world's own term for the bytes: nothing is compared byte by byte -/
theorem code_word {y : MethodName} {bytes : ByteArray} {mx : Nat} {rt : Option FieldType} {a : Array Value} {s : State} {m : MethodId} {meth : Method} {c : Code} (h1 : s.methodNamed? y = some m) (h2 : s.vm.method? m = some meth) (h3 : meth.code = some c) (h4 : c.code = bytes)
    (h5 : (c.maxLocals == mx && c.exceptionTable.isEmpty && decide (c.maxStack ≤ mostOperands) && decide (meth.sig.returnType = rt) && !meth.locks && decide (parseMethodDescriptor y.desc = some meth.sig)) = true) : (Jvm.Cond.code y bytes mx rt).before a s = true := by
  simp only [Bool.and_eq_true, beq_iff_eq, Bool.not_eq_true', decide_eq_true_eq] at h5
  obtain ⟨⟨⟨⟨⟨g1, g2⟩, g3⟩, g4⟩, g5⟩, g6⟩ := h5
  simp [Cond.before, Cond.holds, Cond.value, h1, h2, h3, h4, g1, g2, g3, g4, g5, g6]
def isCode : Jvm.Cond → Bool
  | .code _ _ _ _ => true
  | _ => false
theorem all_split {L : List Jvm.Cond} {P : Jvm.Cond → Bool} (h1 : L.all (fun c => isCode c || P c) = true) (h2 : ∀ c ∈ L.filter isCode, P c = true) : L.all P = true := by
  refine List.all_eq_true.mpr fun c hc => ?_
  have h := List.all_eq_true.mp h1 c hc
  rcases Bool.eq_false_or_eq_true (isCode c) with hi | hi
  · exact h2 c (List.mem_filter.mpr ⟨hc, hi⟩)
  · simpa [hi] using h
set_option maxRecDepth 65536 in
theorem w_c0 : (Jvm.Cond.code x code maxLocals ret).before args0 about1 = true := code_word (m := ⟨1, 1⟩) (meth := k1m1) (c := k1c1) (by decide +kernel) rfl rfl rfl (by decide +kernel)
set_option maxRecDepth 65536 in
theorem w_c1 : (Jvm.Cond.code ({ cls := "com/example/wherefore/wherefore/document/SignatureBlock$Search", name := "<init>", desc := "(IIZ)V" } : Jvm.MethodName) prog_43_method_1_code (4 : Nat) (Option.none : Option Jvm.ClassFile.FieldType)).before args0 about1 = true := code_word (m := ⟨3, 0⟩) (meth := k3m0) (c := k3c0) (by decide +kernel) rfl rfl rfl (by decide +kernel)
set_option maxRecDepth 65536 in
theorem w_c2 : (Jvm.Cond.code ({ cls := "java/lang/Record", name := "<init>", desc := "()V" } : Jvm.MethodName) jdk_30_method_1_code (1 : Nat) (Option.none : Option Jvm.ClassFile.FieldType)).before args0 about1 = true := code_word (m := ⟨2, 0⟩) (meth := k2m0) (c := k2c0) (by decide +kernel) rfl rfl rfl (by decide +kernel)
set_option maxRecDepth 65536 in
theorem w_c3 : (Jvm.Cond.code ({ cls := "java/lang/Object", name := "<init>", desc := "()V" } : Jvm.MethodName) object_method_1_code (1 : Nat) (Option.none : Option Jvm.ClassFile.FieldType)).before args0 about1 = true := code_word (m := ⟨0, 0⟩) (meth := k0m0) (c := k0c0) (by decide +kernel) rfl rfl rfl (by decide +kernel)
set_option maxRecDepth 65536 in
theorem w_c4 : (Jvm.Cond.code ({ cls := "com/example/wherefore/wherefore/document/SignatureBlock$Search", name := "mayBeginInside", desc := "(I)Z" } : Jvm.MethodName) prog_43_method_2_code (2 : Nat) (Option.some Jvm.ClassFile.FieldType.boolean)).before args0 about1 = true := code_word (m := ⟨3, 1⟩) (meth := k3m1) (c := k3c1) (by decide +kernel) rfl rfl rfl (by decide +kernel)
def codes1 : List Jvm.Cond := [Jvm.Cond.code x code maxLocals ret, Jvm.Cond.code ({ cls := "com/example/wherefore/wherefore/document/SignatureBlock$Search", name := "<init>", desc := "(IIZ)V" } : Jvm.MethodName) prog_43_method_1_code (4 : Nat) (Option.none : Option Jvm.ClassFile.FieldType), Jvm.Cond.code ({ cls := "java/lang/Record", name := "<init>", desc := "()V" } : Jvm.MethodName) jdk_30_method_1_code (1 : Nat) (Option.none : Option Jvm.ClassFile.FieldType), Jvm.Cond.code ({ cls := "java/lang/Object", name := "<init>", desc := "()V" } : Jvm.MethodName) object_method_1_code (1 : Nat) (Option.none : Option Jvm.ClassFile.FieldType), Jvm.Cond.code ({ cls := "com/example/wherefore/wherefore/document/SignatureBlock$Search", name := "mayBeginInside", desc := "(I)Z" } : Jvm.MethodName) prog_43_method_2_code (2 : Nat) (Option.some Jvm.ClassFile.FieldType.boolean)]
set_option maxRecDepth 65536 in
theorem codes_eq : words1.filter isCode = codes1 := rfl
theorem w_codes : ∀ c ∈ words1.filter isCode, c.before args0 about1 = true := by
  rw [codes_eq]
  intro c hc
  simp only [codes1, List.mem_cons, List.not_mem_nil, or_false] at hc
  rcases hc with rfl | rfl | rfl | rfl | rfl
  · exact w_c0
  · exact w_c1
  · exact w_c2
  · exact w_c3
  · exact w_c4
set_option maxRecDepth 65536 in
theorem w_t1 : (words1.take 24).all (fun c => isCode c || c.before args0 about1) = true := by decide +kernel
set_option maxRecDepth 65536 in
theorem w_t2 : (words1.drop 24).all (fun c => isCode c || c.before args0 about1) = true := by decide +kernel
theorem w_tables : (allAtoms (Jvm.Cond.code x code maxLocals ret :: tables_1)).before args0 about1 = true := by
  rw [allAtoms_all]
  show words1.all (fun c => c.before args0 about1) = true
  refine all_split ?_ w_codes
  rw [← List.take_append_drop 24 words1, List.all_append, w_t1, w_t2]
  rfl
set_option maxRecDepth 65536 in
theorem w_case : (Jvm.Cond.and given_1 narrow_1).before args0 about1 = true := by decide +kernel
theorem w_applies : (headSpec (Jvm.Cond.code x code maxLocals ret :: tables_1) room_1).applies x e0.platform about1 = true :=
  (Spec.applies_iff w_frames).mpr ⟨w_running, w_runnable, w_alone, w_named, w_hears, w_ripe, w_room, w_tables⟩
theorem atStart : AtStart classFile x code maxLocals ret World_1 tables_1 room_1 Calls_1 rest_1 Pre_1 launch0 p0 e0 about1 theMethod args0 below0 :=
  ⟨lists_1, trivial, launch0.admits_env _ _ _, launch0.least_env, fairChoices_fair.cas, fairChoices_fair.clock, w_frames, w_args, w_heap, w_applies, trivial, trivial, w_case⟩
end start1
theorem witness_1 : WitnessClaimed_1 := ⟨start1.p0, start1.e0, start1.about1, start1.theMethod, start1.args0, start1.below0, start1.atStart⟩
end Jvm.Pilot.@@N@@
