import JvmDerived
import JvmDerived.Pilot.@@N@@Statement
import JvmDerived.Pilot.@@N@@Code
set_option linter.unusedVariables false
set_option linter.unusedSimpArgs false
namespace Jvm.Pilot.@@N@@
open Jvm Jvm.ClassFile Sem Op Lib Jvm.Free Jvm.Stand Jvm.LawKit Jvm.RoadKit Bundle Jvm.Pilot.@@N@@.Jvm.D
section OwnKit
variable {p : Program} {l : Launch} {e : Env} {R : Room} {s : State} {m : MethodId} {args : Array Value} {below : List Frame} {meth : Method} {c : Code} {T T' : State} {locs : List Loc} {cells slots kc kn : Nat} {Q : Option Value → Heap → List Loc → Prop} {f f' : JFrame} {pc q q' : Nat} {Ls Ls' : Array Slot} {st : List Value} {Z : State} {a0 : Array Value} {h : Heap} {by' : ByteArray} {ml : Nat} {own nm : String} {ret : Option FieldType}
/-- from this state, with this frame on top, the body returns as Q says -/
def Run (p : Program) (e : Env) (below : List Frame) (s : State) (kc kn : Nat) (Q : Option Value → Heap → List Loc → Prop) (T : State) (f : JFrame) : Prop :=
  ∃ t o, Steps p.tables e below (T.setTop f) t ∧ t.status = .running ∧ Ended t below o ∧ ∃ v L, o = .returned v ∧ Q v t.heap L ∧ FrameEnd s o t L kc kn
theorem Run.by (st : ∀ t, Steps p.tables e below (T'.setTop f') t → Steps p.tables e below (T.setTop f) t) (k : Run p e below s kc kn Q T' f') : Run p e below s kc kn Q T f := by
  obtain ⟨t, o, h1, r⟩ := k
  exact ⟨t, o, st t h1, r⟩
theorem Run.on (k : Run p e below s kc kn Q T' f') (st : Steps p.tables e below (T.setTop f) (T'.setTop f')) : Run p e below s kc kn Q T f := k.by fun _ h1 => st.trans h1
/-- what a walk knows of its method throughout -/
def Fx (p : Program) (s : State) (m : MethodId) (meth : Method) (c : Code) (by' : ByteArray) (ml : Nat) (own nm : String) (ret : Option FieldType) (Z : State) : Prop :=
  p.tables.exec = Jvm.exec ∧ c.code = by' ∧ c.maxLocals = ml ∧ s.vm.findClass own = some m.cls ∧ Z.Warmed39 s.vm ∧ meth.sig.returnType = ret ∧ meth.locks = false ∧ meth.name = nm
def ushrI (x k : Int32) : Int32 := (x.toUInt32 >>> (k &&& 31).toUInt32).toInt32
theorem k_iloadN (K : Fx p s m meth c by' ml own nm ret Z) (X : Stand p l e R s m args below meth c T locs cells slots) {k' : Fin 4} {v : Int32} (hd : decode by' pc = .ok (.iload_n k', 1)) (hl : Ls[k'.val]? = some (.val (.int v))) (hq : pc + 1 = q) (k : Run p e below s kc kn Q T (mkF m q Ls (.int v :: st))) : Run p e below s kc kn Q T (mkF m pc Ls st) := by
  subst hq; exact k.by fun t => XS.iloadN X.here K.1 rfl (hb K.2.1 hd) hl
theorem k_iload (K : Fx p s m meth c by' ml own nm ret Z) (X : Stand p l e R s m args below meth c T locs cells slots) {k' : Nat} {v : Int32} (hd : decode by' pc = .ok (.iload k', 2)) (hl : Ls[k']? = some (.val (.int v))) (hq : pc + 2 = q) (k : Run p e below s kc kn Q T (mkF m q Ls (.int v :: st))) : Run p e below s kc kn Q T (mkF m pc Ls st) := by
  subst hq; exact k.by fun t => XS.iload X.here K.1 rfl (hb K.2.1 hd) hl
theorem k_aloadN (K : Fx p s m meth c by' ml own nm ret Z) (X : Stand p l e R s m args below meth c T locs cells slots) {k' : Fin 4} {v : Value} (hd : decode by' pc = .ok (.aload_n k', 1)) (hl : Ls[k'.val]? = some (.val v)) (hv : v.isRef = true) (hq : pc + 1 = q) (k : Run p e below s kc kn Q T (mkF m q Ls (v :: st))) : Run p e below s kc kn Q T (mkF m pc Ls st) := by
  subst hq; exact k.by fun t => XS.aloadN X.here K.1 rfl (hb K.2.1 hd) hl hv
theorem k_aload (K : Fx p s m meth c by' ml own nm ret Z) (X : Stand p l e R s m args below meth c T locs cells slots) {k' : Nat} {v : Value} (hd : decode by' pc = .ok (.aload k', 2)) (hl : Ls[k']? = some (.val v)) (hv : v.isRef = true) (hq : pc + 2 = q) (k : Run p e below s kc kn Q T (mkF m q Ls (v :: st))) : Run p e below s kc kn Q T (mkF m pc Ls st) := by
  subst hq; exact k.by fun t => XS.aload X.here K.1 rfl (hb K.2.1 hd) hl hv
theorem k_istore (K : Fx p s m meth c by' ml own nm ret Z) (X : Stand p l e R s m args below meth c T locs cells slots) {k' : Nat} {v x : Int32} (hd : decode by' pc = .ok (.istore k', 2)) (hv : x = v) (hl : storeLocals Ls k' (.int v) = some Ls') (hq : pc + 2 = q) (k : Run p e below s kc kn Q T (mkF m q Ls' st)) : Run p e below s kc kn Q T (mkF m pc Ls (.int x :: st)) := by
  subst hq hv; exact k.by fun t => XS.istore X.here K.1 rfl (hb K.2.1 hd) rfl hl
theorem k_astoreN (K : Fx p s m meth c by' ml own nm ret Z) (X : Stand p l e R s m args below meth c T locs cells slots) {k' : Fin 4} {v : Value} (hd : decode by' pc = .ok (.astore_n k', 1)) (hv : v.isRef = true) (hl : storeLocals Ls k'.val v = some Ls') (hq : pc + 1 = q) (k : Run p e below s kc kn Q T (mkF m q Ls' st)) : Run p e below s kc kn Q T (mkF m pc Ls (v :: st)) := by
  subst hq; exact k.by fun t => XS.astoreN X.here K.1 rfl (hb K.2.1 hd) rfl hv hl
theorem k_astore (K : Fx p s m meth c by' ml own nm ret Z) (X : Stand p l e R s m args below meth c T locs cells slots) {k' : Nat} {v : Value} (hd : decode by' pc = .ok (.astore k', 2)) (hv : v.isRef = true) (hl : storeLocals Ls k' v = some Ls') (hq : pc + 2 = q) (k : Run p e below s kc kn Q T (mkF m q Ls' st)) : Run p e below s kc kn Q T (mkF m pc Ls (v :: st)) := by
  subst hq; exact k.by fun t => XS.astore X.here K.1 rfl (hb K.2.1 hd) rfl hv hl
theorem k_iinc (K : Fx p s m meth c by' ml own nm ret Z) (X : Stand p l e R s m args below meth c T locs cells slots) {k' : Nat} {cst : Int} {x v : Int32} (hd : decode by' pc = .ok (.iinc k' cst, 3)) (hg : Ls[k']? = some (.val (.int x))) (hv : x + Int32.ofInt cst = v) (hl : storeLocals Ls k' (.int v) = some Ls') (hq : pc + 3 = q) (k : Run p e below s kc kn Q T (mkF m q Ls' st)) : Run p e below s kc kn Q T (mkF m pc Ls st) := by
  subst hq hv; exact k.by fun t => XS.iinc X.here K.1 rfl (hb K.2.1 hd) hg hl
theorem k_iconst (K : Fx p s m meth c by' ml own nm ret Z) (X : Stand p l e R s m args below meth c T locs cells slots) {i : Int} {v : Int32} (hd : decode by' pc = .ok (.iconst i, 1)) (hv : Int32.ofInt i = v) (hq : pc + 1 = q) (k : Run p e below s kc kn Q T (mkF m q Ls (.int v :: st))) : Run p e below s kc kn Q T (mkF m pc Ls st) := by
  subst hq hv; exact k.by fun t => XS.iconst X.here K.1 rfl (hb K.2.1 hd)
theorem k_bipush (K : Fx p s m meth c by' ml own nm ret Z) (X : Stand p l e R s m args below meth c T locs cells slots) {i : Int} {v : Int32} (hd : decode by' pc = .ok (.bipush i, 2)) (hv : (Int8.ofInt i).toInt32 = v) (hq : pc + 2 = q) (k : Run p e below s kc kn Q T (mkF m q Ls (.int v :: st))) : Run p e below s kc kn Q T (mkF m pc Ls st) := by
  subst hq hv; exact k.by fun t => XS.bipush X.here K.1 rfl (hb K.2.1 hd)
theorem k_iadd (K : Fx p s m meth c by' ml own nm ret Z) (X : Stand p l e R s m args below meth c T locs cells slots) {x y : Int32} (hd : decode by' pc = .ok (.iadd, 1)) (hq : pc + 1 = q) (k : Run p e below s kc kn Q T (mkF m q Ls (.int (x + y) :: st))) : Run p e below s kc kn Q T (mkF m pc Ls (.int y :: .int x :: st)) := by
  subst hq; exact k.by fun t => XS.iadd X.here K.1 rfl (hb K.2.1 hd) rfl
theorem k_iand (K : Fx p s m meth c by' ml own nm ret Z) (X : Stand p l e R s m args below meth c T locs cells slots) {x y : Int32} (hd : decode by' pc = .ok (.iand, 1)) (hq : pc + 1 = q) (k : Run p e below s kc kn Q T (mkF m q Ls (.int (x &&& y) :: st))) : Run p e below s kc kn Q T (mkF m pc Ls (.int y :: .int x :: st)) := by
  subst hq; exact k.by fun t => XS.iand X.here K.1 rfl (hb K.2.1 hd) rfl
theorem k_iushr (K : Fx p s m meth c by' ml own nm ret Z) (X : Stand p l e R s m args below meth c T locs cells slots) {x y : Int32} (hd : decode by' pc = .ok (.iushr, 1)) (hq : pc + 1 = q) (k : Run p e below s kc kn Q T (mkF m q Ls (.int (ushrI x y) :: st))) : Run p e below s kc kn Q T (mkF m pc Ls (.int y :: .int x :: st)) := by
  subst hq; exact k.by fun t => XS.iushr X.here K.1 rfl (hb K.2.1 hd) rfl
theorem k_dup (K : Fx p s m meth c by' ml own nm ret Z) (X : Stand p l e R s m args below meth c T locs cells slots) {v : Value} (hd : decode by' pc = .ok (.dup, 1)) (hc : v.category = 1) (hq : pc + 1 = q) (k : Run p e below s kc kn Q T (mkF m q Ls (v :: v :: st))) : Run p e below s kc kn Q T (mkF m pc Ls (v :: st)) := by
  subst hq; exact k.by fun t => XS.dup X.here K.1 rfl (hb K.2.1 hd) rfl hc
theorem k_dup2 (K : Fx p s m meth c by' ml own nm ret Z) (X : Stand p l e R s m args below meth c T locs cells slots) {v u : Value} (hd : decode by' pc = .ok (.dup2, 1)) (hc : v.category = 1) (hc' : u.category = 1) (hq : pc + 1 = q) (k : Run p e below s kc kn Q T (mkF m q Ls (v :: u :: v :: u :: st))) : Run p e below s kc kn Q T (mkF m pc Ls (v :: u :: st)) := by
  subst hq; exact k.by fun t => XT.dup2 X.here K.1 rfl (hb K.2.1 hd) rfl hc hc'
theorem k_goto (K : Fx p s m meth c by' ml own nm ret Z) (X : Stand p l e R s m args below meth c T locs cells slots) {o : Int} (hd : decode by' pc = .ok (.goto o, 3)) (ho : 0 ≤ (pc : Int) + o) (hq : ((pc : Int) + o).toNat = q) (k : Run p e below s kc kn Q T (mkF m q Ls st)) : Run p e below s kc kn Q T (mkF m pc Ls st) := k.by fun t => XS.goto X.here K.1 rfl rfl (hb K.2.1 hd) ho hq
theorem k_nameI {x v : Int32} (hv : x = v) (k : Run p e below s kc kn Q T (mkF m pc Ls (.int v :: st))) : Run p e below s kc kn Q T (mkF m pc Ls (.int x :: st)) := by
  subst hv; exact k
theorem k_icmp_eq_y (K : Fx p s m meth c by' ml own nm ret Z) (X : Stand p l e R s m args below meth c T locs cells slots) {x y : Int32} {o : Int} (hd : decode by' pc = .ok (.if_icmp .eq o, 3)) (hc : x = y) (ho : 0 ≤ (pc : Int) + o) (hq : ((pc : Int) + o).toNat = q) (k : Run p e below s kc kn Q T (mkF m q Ls st)) : Run p e below s kc kn Q T (mkF m pc Ls (.int y :: .int x :: st)) := k.by fun t => XS.icmpYes X.here K.1 rfl rfl (hb K.2.1 hd) rfl (teq hc).1 ho hq
theorem k_if_ne_n (K : Fx p s m meth c by' ml own nm ret Z) (X : Stand p l e R s m args below meth c T locs cells slots) {x : Int32} {o : Int} (hd : decode by' pc = .ok (.ifCond .ne o, 3)) (hc : x = 0) (hq : pc + 3 = q) (k : Run p e below s kc kn Q T (mkF m q Ls st)) : Run p e below s kc kn Q T (mkF m pc Ls (.int x :: st)) := by
  subst hq; exact k.by fun t => XS.ifNo X.here K.1 rfl (hb K.2.1 hd) rfl ((if0 _ _).trans (teq hc).2)
theorem k_icmp_ne_y (K : Fx p s m meth c by' ml own nm ret Z) (X : Stand p l e R s m args below meth c T locs cells slots) {x y : Int32} {o : Int} (hd : decode by' pc = .ok (.if_icmp .ne o, 3)) (hc : ¬ x = y) (ho : 0 ≤ (pc : Int) + o) (hq : ((pc : Int) + o).toNat = q) (k : Run p e below s kc kn Q T (mkF m q Ls st)) : Run p e below s kc kn Q T (mkF m pc Ls (.int y :: .int x :: st)) := k.by fun t => XS.icmpYes X.here K.1 rfl rfl (hb K.2.1 hd) rfl (feq hc).2 ho hq
theorem k_icmp_ne_n (K : Fx p s m meth c by' ml own nm ret Z) (X : Stand p l e R s m args below meth c T locs cells slots) {x y : Int32} {o : Int} (hd : decode by' pc = .ok (.if_icmp .ne o, 3)) (hc : x = y) (hq : pc + 3 = q) (k : Run p e below s kc kn Q T (mkF m q Ls st)) : Run p e below s kc kn Q T (mkF m pc Ls (.int y :: .int x :: st)) := by
  subst hq; exact k.by fun t => XS.icmpNo X.here K.1 rfl (hb K.2.1 hd) rfl (teq hc).2
theorem k_icmp_ne (K : Fx p s m meth c by' ml own nm ret Z) (X : Stand p l e R s m args below meth c T locs cells slots) {x y : Int32} {o : Int} (hd : decode by' pc = .ok (.if_icmp .ne o, 3)) (ho : 0 ≤ (pc : Int) + o) (hq : ((pc : Int) + o).toNat = q) (hq' : pc + 3 = q') (ky : ¬ x = y → Run p e below s kc kn Q T (mkF m q Ls st)) (kno : x = y → Run p e below s kc kn Q T (mkF m q' Ls st)) : Run p e below s kc kn Q T (mkF m pc Ls (.int y :: .int x :: st)) := by
  by_cases hc : x = y
  · exact k_icmp_ne_n K X hd hc hq' (kno hc)
  · exact k_icmp_ne_y K X hd hc ho hq (ky hc)
theorem k_icmp_ge_y (K : Fx p s m meth c by' ml own nm ret Z) (X : Stand p l e R s m args below meth c T locs cells slots) {x y : Int32} {o : Int} (hd : decode by' pc = .ok (.if_icmp .ge o, 3)) (hc : ¬ x < y) (ho : 0 ≤ (pc : Int) + o) (hq : ((pc : Int) + o).toNat = q) (k : Run p e below s kc kn Q T (mkF m q Ls st)) : Run p e below s kc kn Q T (mkF m pc Ls (.int y :: .int x :: st)) := k.by fun t => XS.icmpYes X.here K.1 rfl rfl (hb K.2.1 hd) rfl (flt hc).2.1 ho hq
theorem k_icmp_ge_n (K : Fx p s m meth c by' ml own nm ret Z) (X : Stand p l e R s m args below meth c T locs cells slots) {x y : Int32} {o : Int} (hd : decode by' pc = .ok (.if_icmp .ge o, 3)) (hc : x < y) (hq : pc + 3 = q) (k : Run p e below s kc kn Q T (mkF m q Ls st)) : Run p e below s kc kn Q T (mkF m pc Ls (.int y :: .int x :: st)) := by
  subst hq; exact k.by fun t => XS.icmpNo X.here K.1 rfl (hb K.2.1 hd) rfl (tlt hc).2.1
theorem k_ifnull_n (K : Fx p s m meth c by' ml own nm ret Z) (X : Stand p l e R s m args below meth c T locs cells slots) {a : Addr} {o : Int} (hd : decode by' pc = .ok (.ifnull o, 3)) (hq : pc + 3 = q) (k : Run p e below s kc kn Q T (mkF m q Ls st)) : Run p e below s kc kn Q T (mkF m pc Ls (.ref a :: st)) := by
  subst hq; exact k.by fun t => XS.ifnullNo X.here K.1 rfl (hb K.2.1 hd) rfl
theorem k_reti (K : Fx p s m meth c by' ml own nm (some .int) Z) (X : Stand p l e R s m args below meth c T locs cells slots) {x : Int32} (eT : T.heap = h) (hd : decode by' pc = .ok (.ireturn, 1)) (hc : cells ≤ kc) (hn : slots ≤ kn) (hQ : Q (some (.int x)) h locs) : Run p e below s kc kn Q T (mkF m pc Ls [.int x]) := by
  subst eT
  have hlk := K.2.2.2.2.2.2.1
  obtain ⟨fs, hr, hrun, hended, hW, hsame⟩ := X.leave (v := (some (.int x))) (fun z => by rw [K.2.2.2.2.2.1] at z; cases z)
  exact ⟨_, _, X.ireturnOut K.1 K.2.2.2.2.2.1 rfl (Or.inl rfl) (hb K.2.1 hd) hr, hrun, hended, _, _, rfl, hQ, ⟨_, rfl⟩, hW, hsame.mono hc hn⟩
theorem k_retz (K : Fx p s m meth c by' ml own nm (some .boolean) Z) (X : Stand p l e R s m args below meth c T locs cells slots) {x : Int32} (eT : T.heap = h) (hd : decode by' pc = .ok (.ireturn, 1)) (hc : cells ≤ kc) (hn : slots ≤ kn) (hQ : Q (some (.int (nar .boolean x))) h locs) : Run p e below s kc kn Q T (mkF m pc Ls [.int x]) := by
  subst eT
  have hlk := K.2.2.2.2.2.2.1
  obtain ⟨fs, hr, hrun, hended, hW, hsame⟩ := X.leave (v := (some (.int (nar .boolean x)))) (fun z => by rw [K.2.2.2.2.2.1] at z; cases z)
  exact ⟨_, _, retN X K.1 K.2.2.2.2.2.1 (by simp) (hb K.2.1 hd) hr, hrun, hended, _, _, rfl, hQ, ⟨_, rfl⟩, hW, hsame.mono hc hn⟩
theorem k_reta {rt : FieldType} (K : Fx p s m meth c by' ml own nm (some rt) Z) (X : Stand p l e R s m args below meth c T locs cells slots) {x : Value} (eT : T.heap = h) (hd : decode by' pc = .ok (.areturn, 1)) (ht : rt.isReference = true) (hx : x.isRef = true) (hc : cells ≤ kc) (hn : slots ≤ kn) (hQ : Q (some x) h locs) : Run p e below s kc kn Q T (mkF m pc Ls [x]) := by
  subst eT
  have hlk := K.2.2.2.2.2.2.1
  obtain ⟨fs, hr, hrun, hended, hW, hsame⟩ := X.leave (v := some x) (fun z => by rw [K.2.2.2.2.2.1] at z; cases z)
  exact ⟨_, _, retOut X K.1 K.2.2.2.2.2.1 (by cases rt <;> first | (cases ht; done) | rfl) (Or.inr (Or.inr (Or.inr (Or.inr ⟨rfl, ht, hx⟩)))) (hb K.2.1 hd) hr, hrun, hended, _, _, rfl, hQ, ⟨_, rfl⟩, hW, hsame.mono hc hn⟩
/-- a contract: with these arguments over this heap the body returns as Q says, within the room -/
abbrev Met (l : Launch) (y : MethodName) (bytes : ByteArray) (maxL : Nat) (ret : Option FieldType) (ws : List Jvm.Cond) (rm : Room) (Z : State) (as' : Array Value) (h0 : Heap) (Q : Option Value → Heap → List Loc → Prop) : Prop :=
  MetFree l y (head1 (Jvm.Cond.code y bytes maxL ret :: ws) rm) (fun a U => a = as' ∧ Z.Warmed39 U.vm ∧ U.heap = h0) (fun _ _ _ _ _ => True) (fun _ U o U' => ∃ v L, o = .returned v ∧ Q v U'.heap L ∧ FrameEnd U o U' L rm.cells rm.slots)
theorem enter {y : MethodName} {bytes : ByteArray} {maxL : Nat} {ws : List Jvm.Cond} {rm : Room} {as' : Array Value} {h0 : Heap} (hpl : plainFor y = true) (hef : ∀ m, entryFrame m as' maxL = mkF m 0 Ls [])
    (body : ∀ p e s m below meth c T kc kn Q', rm.cells ≤ kc → rm.slots ≤ kn → (∀ v h L, Q v h L → Q' v h L) → Fx p s m meth c bytes maxL y.cls y.name ret Z → Stand p l e rm s m as' below meth c T [] 0 0 → T.heap = h0 → Run p e below s kc kn Q' T (mkF m 0 Ls [])) : Met l y bytes maxL ret ws rm Z as' h0 Q := by
  refine MetFree.of_bodySF hpl hisR ?_
  intro p e s m args below meth c s₁ Bd hml0 hP hK
  obtain ⟨rfl, hZ, hh⟩ := hP
  obtain ⟨t, o, h1, h2, h3, v, L, h4, h5, h6⟩ := body p e s m below meth c s₁ _ _ Q (Nat.le_refl _) (Nat.le_refl _) (fun _ _ _ z => z) ⟨Bd.exec, Bd.bytes, hml0, findClass_of_methodNamed Bd.named, hZ, Bd.returns, BodyLoose.notSynchronized Bd, (name_of_methodNamed Bd.named Bd.method).1⟩ (Stand.of_body Bd) (by rw [← hh, Bd.state]; rfl)
  exact ⟨t, o, castTop (hef m) h1, h2, h3, v, L, h4, h5, h6⟩
theorem k_static (K : Fx p s m meth c by' ml own nm ret Z) (X : Stand p l e R s m args below meth c T locs cells slots) (eT : T.heap = h) {y : MethodName} {bytes : ByteArray} {maxL i W : Nat} {rt : Option FieldType} {rm : Room} {as' : Array Value} {Q' : Option Value → Heap → List Loc → Prop}
    (hd : decode by' pc = .ok (.invokestatic i, 3)) (w1 : (Cond.methodLink own i y).before a0 Z = true) (w2 : (Cond.static y).before a0 Z = true) (w3 : (Cond.initialized y.cls).before a0 Z = true) (w4 : (Cond.code y bytes maxL rt).before a0 Z = true) (hy : y.cls ≠ "java/lang/invoke/MethodHandle" ∧ y.cls ≠ "java/lang/invoke/VarHandle")
    (hM : Met l y bytes maxL rt [] rm Z as' h Q') (hf : rm.frames + 1 ≤ R.frames) (hl : W + (maxL + 11) + rm.locals ≤ R.locals) (hc : cells + rm.cells ≤ R.cells) (hn : slots + rm.slots ≤ R.slots) (hsz : Ls.size = ml)
    {sig : MethodDescriptor} (hdesc : parseMethodDescriptor y.desc = some sig) {argsL rest : List Value} (ha : as' = argsL.toArray) (hlen : argsL.length = sig.parameters.length) (hst : st = argsL.reverse ++ rest) (hW : (rest.map fun v => v.category).sum ≤ W) (hq : pc + 3 = q)
    (k : ∀ v T' L, Stand p l e R s m args below meth c T' (locs ++ L) (cells + rm.cells) (slots + rm.slots) → Q' v T'.heap L → Run p e below s kc kn Q T' (mkF m q Ls (v.toList ++ rest))) : Run p e below s kc kn Q T (mkF m pc Ls st) := by
  have hZ := K.2.2.2.2.1
  subst hq
  obtain ⟨v, _, ⟨T2, L2, k2, n2⟩, -, X2, ⟨Lc, hQ2, l2, y2, z2⟩, st2⟩ := Jvm.LawKit.callS X K.1 (y := y) K.2.2.2.1 (mvT hZ w1) (mvT hZ w2) (mvT hZ w3) (mvT hZ w4) hy (backOf (W := W) hM hZ w4 w3 hf hl) (g := mkF m pc Ls st) rfl (by rw [K.2.2.1]; exact hsz) (argsL := argsL) (rest := rest) (fun sg hs => by cases hdesc.symm.trans hs; exact hlen) hst (by show 2 * 0 + _ ≤ _; omega) (hb K.2.1 hd) (fun _ _ => ⟨ha.symm, eT, hc, hn⟩)
  dsimp only [Pt.U, Pt.locs, Pt.cells, Pt.slots] at X2 l2 y2 z2 st2 hQ2
  subst l2 y2 z2
  exact (k v T2 Lc X2 hQ2).by st2
/-- a static callee that leaves the heap as it was -/
theorem k_staticP (K : Fx p s m meth c by' ml own nm ret Z) (X : Stand p l e R s m args below meth c T locs cells slots) (eT : T.heap = h) {y : MethodName} {bytes : ByteArray} {maxL i W fr lo : Nat} {rt : Option FieldType} {as' : Array Value} {w : Value}
    (hd : decode by' pc = .ok (.invokestatic i, 3)) (w1 : (Cond.methodLink own i y).before a0 Z = true) (w2 : (Cond.static y).before a0 Z = true) (w3 : (Cond.initialized y.cls).before a0 Z = true) (w4 : (Cond.code y bytes maxL rt).before a0 Z = true) (hy : y.cls ≠ "java/lang/invoke/MethodHandle" ∧ y.cls ≠ "java/lang/invoke/VarHandle")
    (hM : Met l y bytes maxL rt [] { frames := fr, cells := 0, slots := 0, locals := lo } Z as' h (fun v h' L => v = some w ∧ h' = h ∧ L = [])) (hf : fr + 1 ≤ R.frames) (hl : W + (maxL + 11) + lo ≤ R.locals) (hc : cells ≤ R.cells) (hn : slots ≤ R.slots) (hsz : Ls.size = ml)
    {sig : MethodDescriptor} (hdesc : parseMethodDescriptor y.desc = some sig) {argsL rest : List Value} (ha : as' = argsL.toArray) (hlen : argsL.length = sig.parameters.length) (hst : st = argsL.reverse ++ rest) (hW : (rest.map fun v => v.category).sum ≤ W) (hq : pc + 3 = q)
    (k : ∀ T', Stand p l e R s m args below meth c T' locs cells slots → T'.heap = h → Run p e below s kc kn Q T' (mkF m q Ls (w :: rest))) : Run p e below s kc kn Q T (mkF m pc Ls st) := by
  refine k_static K X eT hd w1 w2 w3 w4 hy hM hf hl hc hn hsz hdesc ha hlen hst hW hq ?_
  rintro v T' L X' ⟨rfl, h2, rfl⟩
  rw [List.append_nil] at X'
  exact k T' X' h2
def upd {α : Type} (g : Nat → α) (i : Nat) (v : α) : Nat → α := fun k => if k = i then v else g k
/-- an array of n places; place i holds g i -/
def Ary (Z : State) (h : Heap) (a : Addr) (ty : FieldType) (n : Nat) (g : Nat → Value) : Prop := ∃ c : Cell, Arr Z h a c ty ∧ c.slots.size = n ∧ n < 2147483648 ∧ (∀ i, i < n → c.slots[i]? = some (g i)) ∧ ∀ i, i < n → fits ty (g i) = true
theorem Ary.lt {a : Addr} {ty : FieldType} {n : Nat} {g : Nat → Value} (F : Ary Z h a ty n g) : a < h.size := by obtain ⟨c, A, -⟩ := F; exact A.lt
theorem Ary.ext {h' : Heap} {a : Addr} {ty : FieldType} {n : Nat} {g : Nat → Value} (F : Ary Z h a ty n g) (E : Ext h h') : Ary Z h' a ty n g := by obtain ⟨c, A, r⟩ := F; exact ⟨c, A.ext E, r⟩
theorem Ary.other {h' : Heap} {a b : Addr} {ty : FieldType} {n sl : Nat} {v : Value} {g : Nat → Value} (F : Ary Z h b ty n g) (W : Wr h h' a sl v) (q : b ≠ a) : Ary Z h' b ty n g := by obtain ⟨c, A, r⟩ := F; exact ⟨c, A.other W q, r⟩
theorem Ary.keep {h' : Heap} {a : Addr} {ty : FieldType} {n : Nat} {g : Nat → Value} {ws : List Addr} (F : Ary Z h a ty n g) (K : Keep h h' ws) (q : a ∉ ws) : Ary Z h' a ty n g := by obtain ⟨c, A, r⟩ := F; exact ⟨c, ⟨K.2.1 a c A.1 q, A.2⟩, r⟩
theorem Ary.eqv {a : Addr} {ty : FieldType} {n : Nat} {g g' : Nat → Value} (F : Ary Z h a ty n g) (q : ∀ i, i < n → g i = g' i) : Ary Z h a ty n g' := by
  obtain ⟨c, A, r1, r2, r3, r4⟩ := F; exact ⟨c, A, r1, r2, fun i hi => by rw [← q i hi]; exact r3 i hi, fun i hi => by rw [← q i hi]; exact r4 i hi⟩
theorem Ary.set {h' : Heap} {a : Addr} {ty : FieldType} {n i : Nat} {v : Value} {g : Nat → Value} (F : Ary Z h a ty n g) (W : Wr h h' a i v) (hv : fits ty v = true) : Ary Z h' a ty n (fun k => if k = i then v else g k) := by
  obtain ⟨c, A, r1, r2, r3, r4⟩ := F
  obtain ⟨c', w1, w2, w3, w4⟩ := W
  cases A.1.symm.trans w1
  refine ⟨_, A.same ⟨c, w1, w2, w3, w4⟩, by rw [sz_set]; exact r1, r2, fun k hk => ?_, fun k hk => ?_⟩
  · show (c.setSlot i v).slots[k]? = some (if k = i then v else g k)
    by_cases q : k = i
    · subst q; simp [Cell.setSlot, w3]
    · rw [if_neg q]
      show (c.slots.setIfInBounds i v)[k]? = _
      rw [Array.getElem?_setIfInBounds_ne (Ne.symm q)]; exact r3 k hk
  · show fits ty (if k = i then v else g k) = true
    by_cases q : k = i
    · rw [if_pos q]; exact hv
    · rw [if_neg q]; exact r4 k hk
/-- the int j is the place i -/
abbrev Ix (j : Int32) (i : Nat) : Prop := ¬ j < 0 ∧ j.toNatClampNeg = i
theorem Ix.of {j : Int32} {i : Nat} (h : j.toInt = i) : Ix j i := by
  refine ⟨?_, ?_⟩
  · rw [Int32.lt_iff_toInt_lt, h]; have : (0 : Int32).toInt = 0 := rfl
    omega
  · simp only [Int32.toNatClampNeg, h]; omega
theorem Ix.inb {j : Int32} {i n : Nat} (hi : Ix j i) (hn : i < n) {cl : Cell} (hs : cl.slots.size = n) : ¬ (j < 0 ∨ cl.slots.size ≤ j.toNatClampNeg) := fun z => z.elim hi.1 fun z => by rw [hs, hi.2] at z; omega
theorem k_iaload (K : Fx p s m meth c by' ml own nm ret Z) (X : Stand p l e R s m args below meth c T locs cells slots) (eT : T.heap = h) {a : Addr} {n i : Nat} {g : Nat → Value} {j : Int32} {v : Value} (hd : decode by' pc = .ok (.iaload, 1)) (A : Ary Z h a .int n g) (hi : Ix j i) (hn : i < n) (hg : g i = v) (hq : pc + 1 = q) (k : Run p e below s kc kn Q T (mkF m q Ls (v :: st))) : Run p e below s kc kn Q T (mkF m pc Ls (.int j :: .ref a :: st)) := by
  subst hq hg
  obtain ⟨c', A, r1, r2, r3, -⟩ := A
  exact k.by fun t => X.iaload K.1 (j := j) (v := g i) (by rw [eT]; exact A.1) (State.isArrayOf_alike K.2.2.2.2.1.alike A.2.1) A.2.2 (hi.inb hn r1) (by rw [hi.2]; exact r3 i hn) (g := mkF m pc Ls (.int j :: .ref a :: st)) rfl rfl (hb K.2.1 hd) t
theorem k_iastore (K : Fx p s m meth c by' ml own nm ret Z) (X : Stand p l e R s m args below meth c T locs cells slots) (eT : T.heap = h) {a : Addr} {n i : Nat} {g : Nat → Value} {j : Int32} {x : Int32} (hd : decode by' pc = .ok (.iastore, 1)) (A : Ary Z h a .int n g) (hi : Ix j i) (hn : i < n) (hq : pc + 1 = q)
    (k : ∀ T' h', Stand p l e R s m args below meth c T' (locs ++ [⟨a, i⟩]) cells slots → T'.heap = h' → Wr h h' a i (.int x) → Ary Z h' a .int n (fun k => if k = i then .int x else g k) → Run p e below s kc kn Q T' (mkF m q Ls st)) : Run p e below s kc kn Q T (mkF m pc Ls (.int x :: .int j :: .ref a :: st)) := by
  subst hq
  have A0 := A
  obtain ⟨c', A, r1, r2, r3, -⟩ := A
  obtain ⟨T2, h2, X2, e2, W2, st2⟩ := stI X K.1 K.2.2.2.2.1 eT A (j := j) (hi.inb hn r1) (g := mkF m pc Ls (.int x :: .int j :: .ref a :: st)) rfl rfl (hb K.2.1 hd)
  rw [hi.2] at X2 W2
  exact (k T2 h2 X2 e2 W2 (A0.set W2 (rfl))).by st2
theorem k_arraylength (K : Fx p s m meth c by' ml own nm ret Z) (X : Stand p l e R s m args below meth c T locs cells slots) (eT : T.heap = h) {a : Addr} {ty : FieldType} {n : Nat} {g : Nat → Value} {v : Int32} (hd : decode by' pc = .ok (.arraylength, 1)) (A : Ary Z h a ty n g) (hv : n.toInt32 = v) (hq : pc + 1 = q) (k : Run p e below s kc kn Q T (mkF m q Ls (.int v :: st))) : Run p e below s kc kn Q T (mkF m pc Ls (.ref a :: st)) := by
  subst hq hv
  obtain ⟨c', A, r1, r2, r3, -⟩ := A
  subst r1
  exact k.by fun t => X.arraylength K.1 (by rw [eT]; exact A.1) (State.isArrayOf_alike K.2.2.2.2.1.alike A.2.1) (g := mkF m pc Ls (.ref a :: st)) rfl rfl (hb K.2.1 hd) t
theorem k_newarrayE (K : Fx p s m meth c by' ml own nm ret Z) (X : Stand p l e R s m args below meth c T locs cells slots) (eT : T.heap = h) {aty : ArrayType} {ty : FieldType} {z : Int32} {n cap : Nat} {ad : String} (hd : decode by' pc = .ok (.newarray aty, 2)) (hty : newarray.typeOf aty = ty) (had : "[" ++ ty.toString = ad) (w : (Cond.arrayClass ty).before a0 Z = true) (hz : Ix z n) (hcap : n ≤ cap) (h8 : cap * 8 ≤ 536870912) (hc : cells + 1 ≤ R.cells) (hn : slots + cap ≤ R.slots) (hq : pc + 2 = q)
    (k : ∀ T' h' a, Stand p l e R s m args below meth c T' locs (cells + 1) (slots + cap) → T'.heap = h' → a = h.size → Ext h h' → Ary Z h' a ty n (fun _ => defaultValue ty) → Exa Z h' a ad → Run p e below s kc kn Q T' (mkF m q Ls (.ref a :: st))) : Run p e below s kc kn Q T (mkF m pc Ls (.int z :: st)) := by
  subst hq hty
  obtain ⟨T2, h2, cA, X2, e2, E2, A2, E3, st2⟩ := newPE X K.1 K.2.2.2.2.1 w eT (g := mkF m pc Ls (.int z :: st)) rfl (hb K.2.1 hd) rfl hz.1 (cap := cap) (by rw [hz.2]; exact hcap) h8 hc hn had
  refine (k T2 h2 h.size X2 e2 rfl E2 ⟨_, A2, (sz_new _ _ _).trans hz.2, by omega, fun i hi => ?_, fun i _ => ?_⟩ E3).by st2
  · rw [← hz.2] at hi; simp [newA, hi]
  · cases aty <;> rfl
theorem k_clone (K : Fx p s m meth c by' ml own nm ret Z) (X : Stand p l e R s m args below meth c T locs cells slots) (eT : T.heap = h) {i W cap n : Nat} {ad : String} {a : Addr} {ty : FieldType} {g : Nat → Value} (hd : decode by' pc = .ok (.invokevirtual i, 3))
    (w1 : (Cond.methodLink own i ⟨ad, "clone", "()Ljava/lang/Object;"⟩).before a0 Z = true) (w2 : (Cond.sameMethod ad "java/lang/Object" "clone" "()Ljava/lang/Object;").before a0 Z = true) (w3 : (Cond.native ⟨"java/lang/Object", "clone", "()Ljava/lang/Object;"⟩).before a0 Z = true) (w4 : (Cond.instanceMethod ⟨"java/lang/Object", "clone", "()Ljava/lang/Object;"⟩).before a0 Z = true) (w5 : (Cond.selects ad ⟨ad, "clone", "()Ljava/lang/Object;"⟩ ⟨"java/lang/Object", "clone", "()Ljava/lang/Object;"⟩).before a0 Z = true) (w6 : (Cond.castable ad "java/lang/Cloneable").before a0 Z = true)
    (A : Ary Z h a ty n g) (E : Exa Z h a ad) (hsz : Ls.size = ml) (hf : 1 ≤ R.frames) (hW : (st.map fun v => v.category).sum ≤ W) (hl : W + 14 ≤ R.locals) (hcap : n ≤ cap) (hc : cells + 1 ≤ R.cells) (hn : slots + cap ≤ R.slots) (hq : pc + 3 = q)
    (k : ∀ T' h' b, Stand p l e R s m args below meth c T' locs (cells + 1) (slots + cap) → T'.heap = h' → b = h.size → Ext h h' → Ary Z h' b ty n g → Exa Z h' b ad → Run p e below s kc kn Q T' (mkF m q Ls (.ref b :: st))) : Run p e below s kc kn Q T (mkF m pc Ls (.ref a :: st)) := by
  subst hq
  obtain ⟨cl, A, r1, r2, r3, r4⟩ := A
  have FC : FitC Z cl := fitC_of A fun i hi v hv => by rw [r1] at hi; rw [r3 i hi] at hv; cases hv; exact r4 i hi
  obtain ⟨T', h', X', e', ex, A', E', st'⟩ := cloneA X K.1 K.2.2.2.2.1 K.2.2.2.1 w1 w2 w3 w4 w5 w6 eT A E FC (g := mkF m pc Ls (.ref a :: st)) rfl (by rw [K.2.2.1]; exact hsz) rfl (hb K.2.1 hd) hf (W := W) (by show 2 * 0 + _ ≤ _; omega) hl (by rw [r1]; exact hcap) hc hn
  exact (k T' h' h.size X' e' rfl ex ⟨cloneOf cl, A', r1, r2, r3, r4⟩ E').by st'
theorem k_checkcast (K : Fx p s m meth c by' ml own nm ret Z) (X : Stand p l e R s m args below meth c T locs cells slots) (eT : T.heap = h) {i : Nat} {C : String} {a : Addr} (hd : decode by' pc = .ok (.checkcast i, 3)) (w : (Cond.classLink own i C).before a0 Z = true) (E : Exa Z h a C) (hq : pc + 3 = q)
    (k : ∀ T', Stand p l e R s m args below meth c T' locs cells slots → T'.heap = h → Run p e below s kc kn Q T' (mkF m q Ls (.ref a :: st))) : Run p e below s kc kn Q T (mkF m pc Ls (.ref a :: st)) := by
  subst hq
  obtain ⟨T2, X2, e2, st2⟩ := castY X K.1 K.2.2.2.2.1 K.2.2.2.1 w eT (Ins.self E) (g := mkF m pc Ls (.ref a :: st)) rfl rfl (hb K.2.1 hd)
  exact (k T2 X2 e2).by st2
theorem k_dup_x2 (K : Fx p s m meth c by' ml own nm ret Z) (X : Stand p l e R s m args below meth c T locs cells slots) {v u w : Value} (hd : decode by' pc = .ok (.dup_x2, 1)) (hc : v.category = 1) (hc' : u.category = 1) (hc'' : w.category = 1) (hq : pc + 1 = q) (k : Run p e below s kc kn Q T (mkF m q Ls (v :: u :: w :: v :: st))) : Run p e below s kc kn Q T (mkF m pc Ls (v :: u :: w :: st)) := by
  subst hq
  refine k.by fun t h1 => ?_
  jvm_step X.here [X.here.top, K.1, (hb K.2.1 hd), hc, hc', hc'']
  exact h1
end OwnKit

theorem wd {Z : State} {az : Array Value} (hw : ∀ d ∈ tables_1, d.before az Z = true) (k : Nat) {d : Jvm.Cond} (h : tables_1[k]? = some d) : d.before az Z = true := hw _ (List.mem_of_getElem? h)
theorem d2_0 : decode method_2_code 0 = .ok (.iload_n 0, 1) := by decide +kernel
theorem d2_1 : decode method_2_code 1 = .ok (.iload_n 1, 1) := by decide +kernel
theorem d2_2 : decode method_2_code 2 = .ok (.if_icmp .ne 7, 3) := by decide +kernel
theorem d2_10 : decode method_2_code 10 = .ok (.ireturn, 1) := by decide +kernel
theorem d2_9 : decode method_2_code 9 = .ok (.iconst 0, 1) := by decide +kernel
theorem d2_5 : decode method_2_code 5 = .ok (.iconst 1, 1) := by decide +kernel
theorem d2_6 : decode method_2_code 6 = .ok (.goto 4, 3) := by decide +kernel
theorem ef_2 (p0 : Int32) (p1 : Int32) : ∀ m : MethodId, entryFrame m #[(.int p0), (.int p1)] 2 = mkF m 0 #[.val (.int p0), .val (.int p1)] [] := by intro m; first | (simp [entryFrame, mkF, argsToLocals, Value.category]; done) | rfl
theorem pn_0 : plainName "com/example/muster/muster/search/GroupingGroupPinLaw" = true := by first | (simp [plainName, overriddenIn]; done) | decide +kernel
def F_eq (p0 : Int32) (p1 : Int32) : Int32 :=
  let d2 : Int32 := (if p0 = p1 then (1 : Int32) else (0 : Int32))
  d2
set_option maxRecDepth 65536 in
set_option maxHeartbeats 40000000 in
theorem rm2 (l : Launch) (Z : State) (az : Array Value) (hw : ∀ d ∈ tables_1, d.before az Z = true) (ws : List Jvm.Cond) (p0 : Int32) (p1 : Int32) (h0 : Heap) :
    Met l (⟨"com/example/muster/muster/search/GroupingGroupPinLaw", "eq", "(II)I"⟩ : MethodName) method_2_code 2 (some .int) ws ({ frames := 0, cells := 0, slots := 0, locals := 0 } : Room) Z #[(.int p0), (.int p1)] h0 (fun v h' L => v = some (Value.int (F_eq p0 p1)) ∧ h' = h0 ∧ L = []) := by
  refine enter (plainFor_of_name pn_0) (ef_2 p0 p1) ?_
  intro p e s m below meth c T0 kc kn Q hkc hkn hQ K' X0 e0
  have K : Fx p s m meth c method_2_code 2 "com/example/muster/muster/search/GroupingGroupPinLaw" "eq" (some .int) Z := K'
  refine k_iloadN K X0 d2_0 rfl (q := 1) rfl ?_
  refine k_iloadN K X0 d2_1 rfl (q := 2) rfl ?_
  have J3 : ∀ (d2 : Int32), (if p0 = p1 then (1 : Int32) else (0 : Int32)) = d2 → Run p e below s kc kn Q T0 (mkF m 10 #[.val (.int p0), .val (.int p1)] [(.int d2)]) := by
    intro d2 hv_d2
    exact k_reti K X0 e0 d2_10 (Nat.le_trans (by decide) hkc) (Nat.le_trans (by decide) hkn) (hQ _ _ _ ⟨(by show some (Value.int d2) = some (Value.int (F_eq p0 p1)); first | (simp only [F_eq, hv_d2]; done) | (subst hv_d2; simp only [F_eq])), rfl, rfl⟩)
  refine k_icmp_ne K X0 d2_2 (by decide) (q := 9) rfl (q' := 5) rfl ?_ ?_
  · intro hc4
    refine k_iconst K X0 d2_9 (v := (0 : Int32)) rfl (q := 10) rfl ?_
    exact J3 _ (by first | (simp only [if_neg hc4]; done) | rfl)
  · intro hc4
    refine k_iconst K X0 d2_5 (v := (1 : Int32)) rfl (q := 6) rfl ?_
    refine k_goto K X0 d2_6 (by decide) (q := 10) rfl ?_
    exact J3 _ (by first | (simp only [if_pos hc4]; done) | rfl)
theorem d1_0 : decode method_3_code 0 = .ok (.iload_n 1, 1) := by decide +kernel
theorem d1_1 : decode method_3_code 1 = .ok (.iload_n 0, 1) := by decide +kernel
theorem d1_2 : decode method_3_code 2 = .ok (.invokestatic 7, 3) := by decide +kernel
theorem pd_0 : parseMethodDescriptor "(II)I" = some ⟨[.int, .int], some .int⟩ := by decide +kernel
theorem d1_5 : decode method_3_code 5 = .ok (.iload_n 2, 1) := by decide +kernel
theorem d1_6 : decode method_3_code 6 = .ok (.iload_n 0, 1) := by decide +kernel
theorem d1_7 : decode method_3_code 7 = .ok (.invokestatic 7, 3) := by decide +kernel
theorem d1_10 : decode method_3_code 10 = .ok (.iadd, 1) := by decide +kernel
theorem d1_11 : decode method_3_code 11 = .ok (.iload_n 3, 1) := by decide +kernel
theorem d1_12 : decode method_3_code 12 = .ok (.iload_n 0, 1) := by decide +kernel
theorem d1_13 : decode method_3_code 13 = .ok (.invokestatic 7, 3) := by decide +kernel
theorem d1_16 : decode method_3_code 16 = .ok (.iadd, 1) := by decide +kernel
theorem d1_17 : decode method_3_code 17 = .ok (.iload 4, 2) := by decide +kernel
theorem d1_19 : decode method_3_code 19 = .ok (.iload_n 0, 1) := by decide +kernel
theorem d1_20 : decode method_3_code 20 = .ok (.invokestatic 7, 3) := by decide +kernel
theorem d1_23 : decode method_3_code 23 = .ok (.iadd, 1) := by decide +kernel
theorem d1_24 : decode method_3_code 24 = .ok (.ireturn, 1) := by decide +kernel
theorem ef_1 (p0 : Int32) (p1 : Int32) (p2 : Int32) (p3 : Int32) (p4 : Int32) : ∀ m : MethodId, entryFrame m #[(.int p0), (.int p1), (.int p2), (.int p3), (.int p4)] 5 = mkF m 0 #[.val (.int p0), .val (.int p1), .val (.int p2), .val (.int p3), .val (.int p4)] [] := by intro m; first | (simp [entryFrame, mkF, argsToLocals, Value.category]; done) | rfl
def F_cnt (p0 : Int32) (p1 : Int32) (p2 : Int32) (p3 : Int32) (p4 : Int32) : Int32 :=
  ((((F_eq p1 p0) + (F_eq p2 p0)) + (F_eq p3 p0)) + (F_eq p4 p0))
set_option maxRecDepth 65536 in
set_option maxHeartbeats 40000000 in
theorem rm1 (l : Launch) (Z : State) (az : Array Value) (hw : ∀ d ∈ tables_1, d.before az Z = true) (ws : List Jvm.Cond) (p0 : Int32) (p1 : Int32) (p2 : Int32) (p3 : Int32) (p4 : Int32) (h0 : Heap) :
    Met l (⟨"com/example/muster/muster/search/GroupingGroupPinLaw", "cnt", "(IIIII)I"⟩ : MethodName) method_3_code 5 (some .int) ws ({ frames := 1, cells := 0, slots := 0, locals := 14 } : Room) Z #[(.int p0), (.int p1), (.int p2), (.int p3), (.int p4)] h0 (fun v h' L => v = some (Value.int (F_cnt p0 p1 p2 p3 p4)) ∧ h' = h0 ∧ L = []) := by
  refine enter (plainFor_of_name pn_0) (ef_1 p0 p1 p2 p3 p4) ?_
  intro p e s m below meth c T0 kc kn Q hkc hkn hQ K' X0 e0
  have K : Fx p s m meth c method_3_code 5 "com/example/muster/muster/search/GroupingGroupPinLaw" "cnt" (some .int) Z := K'
  refine k_iloadN K X0 d1_0 rfl (q := 1) rfl ?_
  refine k_iloadN K X0 d1_1 rfl (q := 2) rfl ?_
  refine k_staticP K X0 e0 d1_2 (wd hw 4 rfl) (wd hw 5 rfl) (wd hw 2 rfl) (wd hw 6 rfl) (by decide) (rm2 l Z az hw [] p1 p0 h0) (W := 0) (by decide) (by decide) (by decide) (by decide) rfl pd_0 (argsL := [(.int p1), (.int p0)]) (rest := []) rfl rfl rfl (Nat.le_of_eq rfl) (q := 5) rfl ?_
  intro T5 X6 e7
  refine k_iloadN K X6 d1_5 rfl (q := 6) rfl ?_
  refine k_iloadN K X6 d1_6 rfl (q := 7) rfl ?_
  refine k_staticP K X6 e7 d1_7 (wd hw 4 rfl) (wd hw 5 rfl) (wd hw 2 rfl) (wd hw 6 rfl) (by decide) (rm2 l Z az hw [] p2 p0 h0) (W := 1) (by decide) (by decide) (by decide) (by decide) rfl pd_0 (argsL := [(.int p2), (.int p0)]) (rest := [(.int (F_eq p1 p0))]) rfl rfl rfl (Nat.le_of_eq rfl) (q := 10) rfl ?_
  intro T8 X9 e10
  refine k_iadd K X9 d1_10 (q := 11) rfl ?_
  refine k_iloadN K X9 d1_11 rfl (q := 12) rfl ?_
  refine k_iloadN K X9 d1_12 rfl (q := 13) rfl ?_
  refine k_staticP K X9 e10 d1_13 (wd hw 4 rfl) (wd hw 5 rfl) (wd hw 2 rfl) (wd hw 6 rfl) (by decide) (rm2 l Z az hw [] p3 p0 h0) (W := 1) (by decide) (by decide) (by decide) (by decide) rfl pd_0 (argsL := [(.int p3), (.int p0)]) (rest := [(.int ((F_eq p1 p0) + (F_eq p2 p0)))]) rfl rfl rfl (Nat.le_of_eq rfl) (q := 16) rfl ?_
  intro T11 X12 e13
  refine k_iadd K X12 d1_16 (q := 17) rfl ?_
  refine k_iload K X12 d1_17 rfl (q := 19) rfl ?_
  refine k_iloadN K X12 d1_19 rfl (q := 20) rfl ?_
  refine k_staticP K X12 e13 d1_20 (wd hw 4 rfl) (wd hw 5 rfl) (wd hw 2 rfl) (wd hw 6 rfl) (by decide) (rm2 l Z az hw [] p4 p0 h0) (W := 1) (by decide) (by decide) (by decide) (by decide) rfl pd_0 (argsL := [(.int p4), (.int p0)]) (rest := [(.int (((F_eq p1 p0) + (F_eq p2 p0)) + (F_eq p3 p0)))]) rfl rfl rfl (Nat.le_of_eq rfl) (q := 23) rfl ?_
  intro T14 X15 e16
  refine k_iadd K X15 d1_23 (q := 24) rfl ?_
  exact k_reti K X15 e16 d1_24 (Nat.le_trans (by decide) hkc) (Nat.le_trans (by decide) hkn) (hQ _ _ _ ⟨(by show some (Value.int ((((F_eq p1 p0) + (F_eq p2 p0)) + (F_eq p3 p0)) + (F_eq p4 p0))) = some (Value.int (F_cnt p0 p1 p2 p3 p4)); first | (simp only [F_cnt]; done) | (simp only [F_cnt])), rfl, rfl⟩)
theorem d3_0 : decode prog_46_method_3_code 0 = .ok (.aload_n 0, 1) := by decide +kernel
theorem d3_1 : decode prog_46_method_3_code 1 = .ok (.invokevirtual 7, 3) := by decide +kernel
theorem d3_4 : decode prog_46_method_3_code 4 = .ok (.checkcast 8, 3) := by decide +kernel
theorem d3_7 : decode prog_46_method_3_code 7 = .ok (.astore_n 3, 1) := by decide +kernel
theorem d3_8 : decode prog_46_method_3_code 8 = .ok (.aload_n 2, 1) := by decide +kernel
theorem d3_9 : decode prog_46_method_3_code 9 = .ok (.arraylength, 1) := by decide +kernel
theorem d3_10 : decode prog_46_method_3_code 10 = .ok (.newarray .int, 2) := by decide +kernel
theorem d3_12 : decode prog_46_method_3_code 12 = .ok (.astore 4, 2) := by decide +kernel
theorem d3_14 : decode prog_46_method_3_code 14 = .ok (.iconst 0, 1) := by decide +kernel
theorem d3_15 : decode prog_46_method_3_code 15 = .ok (.istore 5, 2) := by decide +kernel
theorem d3_17 : decode prog_46_method_3_code 17 = .ok (.iload 5, 2) := by decide +kernel
theorem d3_19 : decode prog_46_method_3_code 19 = .ok (.aload_n 2, 1) := by decide +kernel
theorem d3_20 : decode prog_46_method_3_code 20 = .ok (.arraylength, 1) := by decide +kernel
theorem d3_21 : decode prog_46_method_3_code 21 = .ok (.if_icmp .ge 27, 3) := by decide +kernel
theorem d3_24 : decode prog_46_method_3_code 24 = .ok (.aload 4, 2) := by decide +kernel
theorem d3_26 : decode prog_46_method_3_code 26 = .ok (.aload_n 3, 1) := by decide +kernel
theorem d3_27 : decode prog_46_method_3_code 27 = .ok (.aload_n 1, 1) := by decide +kernel
theorem d3_28 : decode prog_46_method_3_code 28 = .ok (.iload 5, 2) := by decide +kernel
theorem d3_30 : decode prog_46_method_3_code 30 = .ok (.iaload, 1) := by decide +kernel
theorem d3_31 : decode prog_46_method_3_code 31 = .ok (.dup2, 1) := by decide +kernel
theorem d3_32 : decode prog_46_method_3_code 32 = .ok (.iaload, 1) := by decide +kernel
theorem d3_33 : decode prog_46_method_3_code 33 = .ok (.dup_x2, 1) := by decide +kernel
theorem d3_34 : decode prog_46_method_3_code 34 = .ok (.iconst 1, 1) := by decide +kernel
theorem d3_35 : decode prog_46_method_3_code 35 = .ok (.iadd, 1) := by decide +kernel
theorem d3_36 : decode prog_46_method_3_code 36 = .ok (.iastore, 1) := by decide +kernel
theorem d3_37 : decode prog_46_method_3_code 37 = .ok (.aload_n 2, 1) := by decide +kernel
theorem d3_38 : decode prog_46_method_3_code 38 = .ok (.iload 5, 2) := by decide +kernel
theorem d3_40 : decode prog_46_method_3_code 40 = .ok (.iaload, 1) := by decide +kernel
theorem d3_41 : decode prog_46_method_3_code 41 = .ok (.iastore, 1) := by decide +kernel
theorem d3_42 : decode prog_46_method_3_code 42 = .ok (.iinc 5 1, 3) := by decide +kernel
theorem d3_45 : decode prog_46_method_3_code 45 = .ok (.goto (-28), 3) := by decide +kernel
theorem d3_48 : decode prog_46_method_3_code 48 = .ok (.aload 4, 2) := by decide +kernel
theorem d3_50 : decode prog_46_method_3_code 50 = .ok (.areturn, 1) := by decide +kernel
theorem ef_3 (a0 : Addr) (a1 : Addr) (a2 : Addr) : ∀ m : MethodId, entryFrame m #[(.ref a0), (.ref a1), (.ref a2)] 6 = mkF m 0 #[.val (.ref a0), .val (.ref a1), .val (.ref a2), .unset, .unset, .unset] [] := by intro m; first | (simp [entryFrame, mkF, argsToLocals, Value.category]; done) | rfl
theorem pn_1 : plainName "com/example/muster/muster/search/Grouping" = true := by first | (simp [plainName, overriddenIn]; done) | decide +kernel
def F_group_new0_g (s_a0_0 : Int32) (s_a0_1 : Int32) (s_a0_2 : Int32) (s_a0_3 : Int32) (s_a0_4 : Int32) (s_a2_0 : Int32) (s_a2_1 : Int32) (s_a2_2 : Int32) (s_a2_3 : Int32) (s_a1_0 : Int32) (s_a1_1 : Int32) (s_a1_2 : Int32) (s_a1_3 : Int32) : Nat → Int32 :=
  let v126 : Int32 := (List.getD [s_a0_0, s_a0_1, s_a0_2, s_a0_3, s_a0_4] (Int32.toNatClampNeg s_a1_0) 0)
  let v127 : Nat → Int32 := (upd (fun i => List.getD [s_a0_0, s_a0_1, s_a0_2, s_a0_3, s_a0_4] i 0) (Int32.toNatClampNeg s_a1_0) (v126 + (1 : Int32)))
  let v145 : Nat → Int32 := (upd (fun i => List.getD [(0 : Int32), (0 : Int32), (0 : Int32), (0 : Int32)] i 0) (Int32.toNatClampNeg v126) s_a2_0)
  let v163 : Int32 := (v127 (Int32.toNatClampNeg s_a1_1))
  let v164 : Nat → Int32 := (upd v127 (Int32.toNatClampNeg s_a1_1) (v163 + (1 : Int32)))
  let v182 : Nat → Int32 := (upd v145 (Int32.toNatClampNeg v163) s_a2_1)
  let v200 : Int32 := (v164 (Int32.toNatClampNeg s_a1_2))
  let v201 : Nat → Int32 := (upd v164 (Int32.toNatClampNeg s_a1_2) (v200 + (1 : Int32)))
  let v219 : Nat → Int32 := (upd v182 (Int32.toNatClampNeg v200) s_a2_2)
  let v237 : Int32 := (v201 (Int32.toNatClampNeg s_a1_3))
  let v238 : Nat → Int32 := (upd v201 (Int32.toNatClampNeg s_a1_3) (v237 + (1 : Int32)))
  let v256 : Nat → Int32 := (upd v219 (Int32.toNatClampNeg v237) s_a2_3)
  v256
set_option maxRecDepth 65536 in
set_option maxHeartbeats 40000000 in
theorem rm3 (l : Launch) (Z : State) (az : Array Value) (hw : ∀ d ∈ tables_1, d.before az Z = true) (ws : List Jvm.Cond) (a0 : Addr) (a1 : Addr) (a2 : Addr) (s_a0_0 : Int32) (s_a0_1 : Int32) (s_a0_2 : Int32) (s_a0_3 : Int32) (s_a0_4 : Int32) (s_a2_0 : Int32) (s_a2_1 : Int32) (s_a2_2 : Int32) (s_a2_3 : Int32) (s_a1_0 : Int32) (s_a1_1 : Int32) (s_a1_2 : Int32) (s_a1_3 : Int32) (h0 : Heap) (n0 : Nat) (Z0 : n0 ≤ h0.size) (A_a0 : Ary Z h0 a0 .int 5 (fun i => Value.int (List.getD [s_a0_0, s_a0_1, s_a0_2, s_a0_3, s_a0_4] i 0))) (E_a0 : Exa Z h0 a0 "[I") (A_a2 : Ary Z h0 a2 .int 4 (fun i => Value.int (List.getD [s_a2_0, s_a2_1, s_a2_2, s_a2_3] i 0))) (A_a1 : Ary Z h0 a1 .int 4 (fun i => Value.int (List.getD [s_a1_0, s_a1_1, s_a1_2, s_a1_3] i 0))) (ob_0 : ¬ s_a1_0 < (0 : Int32) ∧ Int32.toNatClampNeg s_a1_0 < 5) (ob_1 : ∀ (v126 : Int32), (List.getD [s_a0_0, s_a0_1, s_a0_2, s_a0_3, s_a0_4] (Int32.toNatClampNeg s_a1_0) 0) = v126 → ¬ v126 < (0 : Int32) ∧ Int32.toNatClampNeg v126 < 4) (ob_2 : ¬ s_a1_1 < (0 : Int32) ∧ Int32.toNatClampNeg s_a1_1 < 5) (ob_3 : ∀ (v126 : Int32) (v127 : Nat → Int32) (v163 : Int32), (List.getD [s_a0_0, s_a0_1, s_a0_2, s_a0_3, s_a0_4] (Int32.toNatClampNeg s_a1_0) 0) = v126 → (upd (fun i => List.getD [s_a0_0, s_a0_1, s_a0_2, s_a0_3, s_a0_4] i 0) (Int32.toNatClampNeg s_a1_0) (v126 + (1 : Int32))) = v127 → (v127 (Int32.toNatClampNeg s_a1_1)) = v163 → ¬ v163 < (0 : Int32) ∧ Int32.toNatClampNeg v163 < 4) (ob_4 : ¬ s_a1_2 < (0 : Int32) ∧ Int32.toNatClampNeg s_a1_2 < 5) (ob_5 : ∀ (v126 : Int32) (v127 : Nat → Int32) (v163 : Int32) (v164 : Nat → Int32) (v200 : Int32), (List.getD [s_a0_0, s_a0_1, s_a0_2, s_a0_3, s_a0_4] (Int32.toNatClampNeg s_a1_0) 0) = v126 → (upd (fun i => List.getD [s_a0_0, s_a0_1, s_a0_2, s_a0_3, s_a0_4] i 0) (Int32.toNatClampNeg s_a1_0) (v126 + (1 : Int32))) = v127 → (v127 (Int32.toNatClampNeg s_a1_1)) = v163 → (upd v127 (Int32.toNatClampNeg s_a1_1) (v163 + (1 : Int32))) = v164 → (v164 (Int32.toNatClampNeg s_a1_2)) = v200 → ¬ v200 < (0 : Int32) ∧ Int32.toNatClampNeg v200 < 4) (ob_6 : ¬ s_a1_3 < (0 : Int32) ∧ Int32.toNatClampNeg s_a1_3 < 5) (ob_7 : ∀ (v126 : Int32) (v127 : Nat → Int32) (v163 : Int32) (v164 : Nat → Int32) (v200 : Int32) (v201 : Nat → Int32) (v237 : Int32), (List.getD [s_a0_0, s_a0_1, s_a0_2, s_a0_3, s_a0_4] (Int32.toNatClampNeg s_a1_0) 0) = v126 → (upd (fun i => List.getD [s_a0_0, s_a0_1, s_a0_2, s_a0_3, s_a0_4] i 0) (Int32.toNatClampNeg s_a1_0) (v126 + (1 : Int32))) = v127 → (v127 (Int32.toNatClampNeg s_a1_1)) = v163 → (upd v127 (Int32.toNatClampNeg s_a1_1) (v163 + (1 : Int32))) = v164 → (v164 (Int32.toNatClampNeg s_a1_2)) = v200 → (upd v164 (Int32.toNatClampNeg s_a1_2) (v200 + (1 : Int32))) = v201 → (v201 (Int32.toNatClampNeg s_a1_3)) = v237 → ¬ v237 < (0 : Int32) ∧ Int32.toNatClampNeg v237 < 4) :
    Met l (⟨"com/example/muster/muster/search/Grouping", "group", "([I[I[I)[I"⟩ : MethodName) prog_46_method_3_code 6 (some (.array .int)) ws ({ frames := 1, cells := 2, slots := 9, locals := 14 } : Room) Z #[(.ref a0), (.ref a1), (.ref a2)] h0 (fun v h' L => ∃ b104 : Addr, n0 ≤ b104 ∧ h0.size ≤ b104 ∧ v = some (.ref b104) ∧ Fr n0 L ∧ Keep h0 h' [] ∧ Exa Z h' b104 "[I" ∧ Ary Z h' b104 .int 4 (fun i => Value.int ((F_group_new0_g s_a0_0 s_a0_1 s_a0_2 s_a0_3 s_a0_4 s_a2_0 s_a2_1 s_a2_2 s_a2_3 s_a1_0 s_a1_1 s_a1_2 s_a1_3) i))) := by
  refine enter (plainFor_of_name pn_1) (ef_3 a0 a1 a2) ?_
  intro p e s m below meth c T0 kc kn Q hkc hkn hQ K' X0 e0
  have K : Fx p s m meth c prog_46_method_3_code 6 "com/example/muster/muster/search/Grouping" "group" (some (.array .int)) Z := K'
  have N0 := Fr.nil n0
  have K0 : Keep h0 h0 [] := Keep.refl _ _
  refine k_aloadN K X0 d3_0 rfl rfl (q := 1) rfl ?_
  refine k_clone K X0 e0 d3_1 (wd hw 12 rfl) (wd hw 13 rfl) (wd hw 17 rfl) (wd hw 15 rfl) (wd hw 16 rfl) (wd hw 18 rfl) A_a0 E_a0 rfl (by decide) (W := 0) (Nat.le_of_eq rfl) (by decide) (cap := 5) (by decide) (by decide) (by decide) (q := 4) rfl ?_
  intro T79 h80 b81 X82 e83 g84 E85 A86 E87
  have ne88 : a0 ≠ b81 := Nat.ne_of_lt (Nat.lt_of_lt_of_eq (A_a0).lt g84.symm)
  have ne89 : a2 ≠ b81 := Nat.ne_of_lt (Nat.lt_of_lt_of_eq (A_a2).lt g84.symm)
  have ne90 : a1 ≠ b81 := Nat.ne_of_lt (Nat.lt_of_lt_of_eq (A_a1).lt g84.symm)
  have ge91 : n0 ≤ b81 := Nat.le_trans Z0 (Nat.le_of_eq g84.symm)
  have bn92 : h0.size ≤ b81 := Nat.le_trans K0.1 (Nat.le_of_eq g84.symm)
  have f93 := Ary.ext A_a0 E85
  have f94 := Exa.ext E85 E_a0
  have f95 := Ary.ext A_a2 E85
  have f96 := Ary.ext A_a1 E85
  have K97 := Keep.ext K0 E85
  have Z98 := Nat.le_trans Z0 E85.1
  refine k_checkcast K X82 e83 d3_4 (wd hw 19 rfl) E87 (q := 7) rfl ?_
  intro T99 X100 e101
  refine k_astoreN K X100 d3_7 rfl (Ls' := #[.val (.ref a0), .val (.ref a1), .val (.ref a2), .val (.ref b81), .unset, .unset]) rfl (q := 8) rfl ?_
  refine k_aloadN K X100 d3_8 rfl rfl (q := 9) rfl ?_
  refine k_arraylength K X100 e101 d3_9 f95 (v := (4 : Int32)) rfl (q := 10) rfl ?_
  refine k_newarrayE K X100 e101 d3_10 (ty := .int) rfl (ad := "[I") (by decide) (wd hw 7 rfl) (n := 4) (cap := 4) (by decide) (by decide) (by decide) (by decide) (by decide) (q := 12) rfl ?_
  intro T102 h103 b104 X105 e106 g107 E108 A109 E110
  have ne111 : a0 ≠ b104 := Nat.ne_of_lt (Nat.lt_of_lt_of_eq (f93).lt g107.symm)
  have ne112 : a2 ≠ b104 := Nat.ne_of_lt (Nat.lt_of_lt_of_eq (f95).lt g107.symm)
  have ne113 : a1 ≠ b104 := Nat.ne_of_lt (Nat.lt_of_lt_of_eq (f96).lt g107.symm)
  have ne114 : b81 ≠ b104 := Nat.ne_of_lt (Nat.lt_of_lt_of_eq (A86).lt g107.symm)
  have ge115 : n0 ≤ b104 := Nat.le_trans Z98 (Nat.le_of_eq g107.symm)
  have bn116 : h0.size ≤ b104 := Nat.le_trans K97.1 (Nat.le_of_eq g107.symm)
  have f117 := Ary.ext f93 E108
  have f118 := Exa.ext E108 f94
  have f119 := Ary.ext f95 E108
  have f120 := Ary.ext f96 E108
  have f121 := Ary.ext A86 E108
  have f122 := Exa.ext E108 E87
  have K123 := Keep.ext K97 E108
  have Z124 := Nat.le_trans Z98 E108.1
  have f125 : Ary Z h103 b104 .int 4 (fun i => Value.int (List.getD [(0 : Int32), (0 : Int32), (0 : Int32), (0 : Int32)] i 0)) := Ary.eqv A109 (by intro i hi; match i, hi with | 0, _ => rfl | 1, _ => rfl | 2, _ => rfl | 3, _ => rfl | (k + 4), hi => exact absurd hi (by omega))
  refine k_astore K X105 d3_12 rfl (Ls' := #[.val (.ref a0), .val (.ref a1), .val (.ref a2), .val (.ref b81), .val (.ref b104), .unset]) rfl (q := 14) rfl ?_
  refine k_iconst K X105 d3_14 (v := (0 : Int32)) rfl (q := 15) rfl ?_
  refine k_istore K X105 d3_15 rfl (Ls' := #[.val (.ref a0), .val (.ref a1), .val (.ref a2), .val (.ref b81), .val (.ref b104), .val (.int (0 : Int32))]) rfl (q := 17) rfl ?_
  refine k_iload K X105 d3_17 rfl (q := 19) rfl ?_
  refine k_aloadN K X105 d3_19 rfl rfl (q := 20) rfl ?_
  refine k_arraylength K X105 e106 d3_20 f119 (v := (4 : Int32)) rfl (q := 21) rfl ?_
  refine k_icmp_ge_n K X105 d3_21 (by decide) (q := 24) rfl ?_
  refine k_aload K X105 d3_24 rfl rfl (q := 26) rfl ?_
  refine k_aloadN K X105 d3_26 rfl rfl (q := 27) rfl ?_
  refine k_aloadN K X105 d3_27 rfl rfl (q := 28) rfl ?_
  refine k_iload K X105 d3_28 rfl (q := 30) rfl ?_
  refine k_iaload K X105 e106 d3_30 f120 (i := 0) (v := (.int s_a1_0)) (by decide) (by decide) rfl (q := 31) rfl ?_
  refine k_dup2 K X105 d3_31 rfl rfl (q := 32) rfl ?_
  refine k_iaload K X105 e106 d3_32 f121 (i := (Int32.toNatClampNeg s_a1_0)) (v := (.int (List.getD [s_a0_0, s_a0_1, s_a0_2, s_a0_3, s_a0_4] (Int32.toNatClampNeg s_a1_0) 0))) ⟨((ob_0)).1, rfl⟩ ((ob_0)).2 rfl (q := 33) rfl ?_
  obtain ⟨v126, hv_v126⟩ : ∃ z : Int32, (List.getD [s_a0_0, s_a0_1, s_a0_2, s_a0_3, s_a0_4] (Int32.toNatClampNeg s_a1_0) 0) = z := ⟨_, rfl⟩
  refine k_nameI hv_v126 ?_
  refine k_dup_x2 K X105 d3_33 rfl rfl rfl (q := 34) rfl ?_
  refine k_iconst K X105 d3_34 (v := (1 : Int32)) rfl (q := 35) rfl ?_
  refine k_iadd K X105 d3_35 (q := 36) rfl ?_
  obtain ⟨v127, hv_v127⟩ : ∃ z : Nat → Int32, (upd (fun i => List.getD [s_a0_0, s_a0_1, s_a0_2, s_a0_3, s_a0_4] i 0) (Int32.toNatClampNeg s_a1_0) (v126 + (1 : Int32))) = z := ⟨_, rfl⟩
  refine k_iastore K X105 e106 d3_36 f121 (i := (Int32.toNatClampNeg s_a1_0)) ⟨((ob_0)).1, rfl⟩ ((ob_0)).2 (q := 37) rfl ?_
  intro T128 h129 X130 e131 W132 A133
  have f134 : Ary Z h129 b81 .int 5 (fun i => Value.int (v127 i)) := Ary.eqv A133 (fun k _ => by rw [← hv_v127]; show (if k = (Int32.toNatClampNeg s_a1_0) then _ else _) = _; unfold upd; split <;> rfl)
  have f135 := Ary.other f117 W132 ne88
  have f136 := Exa.wr W132 f118
  have f137 := Ary.other f119 W132 ne89
  have f138 := Ary.other f120 W132 ne90
  have f139 := Exa.wr W132 f122
  have f140 := Exa.wr W132 E110
  have f141 := Ary.other f125 W132 (Ne.symm ne114)
  have N142 := Fr.snoc X130 N0 ge91
  have K143 := Keep.wr K123 W132 (Or.inr bn92)
  have Z144 := Nat.le_trans Z124 (Nat.le_of_eq (Wr.size W132).symm)
  refine k_aloadN K X130 d3_37 rfl rfl (q := 38) rfl ?_
  refine k_iload K X130 d3_38 rfl (q := 40) rfl ?_
  refine k_iaload K X130 e131 d3_40 f137 (i := 0) (v := (.int s_a2_0)) (by decide) (by decide) rfl (q := 41) rfl ?_
  obtain ⟨v145, hv_v145⟩ : ∃ z : Nat → Int32, (upd (fun i => List.getD [(0 : Int32), (0 : Int32), (0 : Int32), (0 : Int32)] i 0) (Int32.toNatClampNeg v126) s_a2_0) = z := ⟨_, rfl⟩
  refine k_iastore K X130 e131 d3_41 f141 (i := (Int32.toNatClampNeg v126)) ⟨((ob_1 v126 hv_v126)).1, rfl⟩ ((ob_1 v126 hv_v126)).2 (q := 42) rfl ?_
  intro T146 h147 X148 e149 W150 A151
  have f152 : Ary Z h147 b104 .int 4 (fun i => Value.int (v145 i)) := Ary.eqv A151 (fun k _ => by rw [← hv_v145]; show (if k = (Int32.toNatClampNeg v126) then _ else _) = _; unfold upd; split <;> rfl)
  have f153 := Ary.other f135 W150 ne111
  have f154 := Exa.wr W150 f136
  have f155 := Ary.other f137 W150 ne112
  have f156 := Ary.other f138 W150 ne113
  have f157 := Exa.wr W150 f139
  have f158 := Exa.wr W150 f140
  have f159 := Ary.other f134 W150 ne114
  have N160 := Fr.snoc X148 N142 ge115
  have K161 := Keep.wr K143 W150 (Or.inr bn116)
  have Z162 := Nat.le_trans Z144 (Nat.le_of_eq (Wr.size W150).symm)
  refine k_iinc K X148 d3_42 rfl (by decide) (Ls' := #[.val (.ref a0), .val (.ref a1), .val (.ref a2), .val (.ref b81), .val (.ref b104), .val (.int (1 : Int32))]) rfl (q := 45) rfl ?_
  refine k_goto K X148 d3_45 (by decide) (q := 17) rfl ?_
  refine k_iload K X148 d3_17 rfl (q := 19) rfl ?_
  refine k_aloadN K X148 d3_19 rfl rfl (q := 20) rfl ?_
  refine k_arraylength K X148 e149 d3_20 f155 (v := (4 : Int32)) rfl (q := 21) rfl ?_
  refine k_icmp_ge_n K X148 d3_21 (by decide) (q := 24) rfl ?_
  refine k_aload K X148 d3_24 rfl rfl (q := 26) rfl ?_
  refine k_aloadN K X148 d3_26 rfl rfl (q := 27) rfl ?_
  refine k_aloadN K X148 d3_27 rfl rfl (q := 28) rfl ?_
  refine k_iload K X148 d3_28 rfl (q := 30) rfl ?_
  refine k_iaload K X148 e149 d3_30 f156 (i := 1) (v := (.int s_a1_1)) (by decide) (by decide) rfl (q := 31) rfl ?_
  refine k_dup2 K X148 d3_31 rfl rfl (q := 32) rfl ?_
  refine k_iaload K X148 e149 d3_32 f159 (i := (Int32.toNatClampNeg s_a1_1)) (v := (.int (v127 (Int32.toNatClampNeg s_a1_1)))) ⟨((ob_2)).1, rfl⟩ ((ob_2)).2 rfl (q := 33) rfl ?_
  obtain ⟨v163, hv_v163⟩ : ∃ z : Int32, (v127 (Int32.toNatClampNeg s_a1_1)) = z := ⟨_, rfl⟩
  refine k_nameI hv_v163 ?_
  refine k_dup_x2 K X148 d3_33 rfl rfl rfl (q := 34) rfl ?_
  refine k_iconst K X148 d3_34 (v := (1 : Int32)) rfl (q := 35) rfl ?_
  refine k_iadd K X148 d3_35 (q := 36) rfl ?_
  obtain ⟨v164, hv_v164⟩ : ∃ z : Nat → Int32, (upd v127 (Int32.toNatClampNeg s_a1_1) (v163 + (1 : Int32))) = z := ⟨_, rfl⟩
  refine k_iastore K X148 e149 d3_36 f159 (i := (Int32.toNatClampNeg s_a1_1)) ⟨((ob_2)).1, rfl⟩ ((ob_2)).2 (q := 37) rfl ?_
  intro T165 h166 X167 e168 W169 A170
  have f171 : Ary Z h166 b81 .int 5 (fun i => Value.int (v164 i)) := Ary.eqv A170 (fun k _ => by rw [← hv_v164]; show (if k = (Int32.toNatClampNeg s_a1_1) then _ else _) = _; unfold upd; split <;> rfl)
  have f172 := Ary.other f153 W169 ne88
  have f173 := Exa.wr W169 f154
  have f174 := Ary.other f155 W169 ne89
  have f175 := Ary.other f156 W169 ne90
  have f176 := Exa.wr W169 f157
  have f177 := Exa.wr W169 f158
  have f178 := Ary.other f152 W169 (Ne.symm ne114)
  have N179 := Fr.snoc X167 N160 ge91
  have K180 := Keep.wr K161 W169 (Or.inr bn92)
  have Z181 := Nat.le_trans Z162 (Nat.le_of_eq (Wr.size W169).symm)
  refine k_aloadN K X167 d3_37 rfl rfl (q := 38) rfl ?_
  refine k_iload K X167 d3_38 rfl (q := 40) rfl ?_
  refine k_iaload K X167 e168 d3_40 f174 (i := 1) (v := (.int s_a2_1)) (by decide) (by decide) rfl (q := 41) rfl ?_
  obtain ⟨v182, hv_v182⟩ : ∃ z : Nat → Int32, (upd v145 (Int32.toNatClampNeg v163) s_a2_1) = z := ⟨_, rfl⟩
  refine k_iastore K X167 e168 d3_41 f178 (i := (Int32.toNatClampNeg v163)) ⟨((ob_3 v126 v127 v163 hv_v126 hv_v127 hv_v163)).1, rfl⟩ ((ob_3 v126 v127 v163 hv_v126 hv_v127 hv_v163)).2 (q := 42) rfl ?_
  intro T183 h184 X185 e186 W187 A188
  have f189 : Ary Z h184 b104 .int 4 (fun i => Value.int (v182 i)) := Ary.eqv A188 (fun k _ => by rw [← hv_v182]; show (if k = (Int32.toNatClampNeg v163) then _ else _) = _; unfold upd; split <;> rfl)
  have f190 := Ary.other f172 W187 ne111
  have f191 := Exa.wr W187 f173
  have f192 := Ary.other f174 W187 ne112
  have f193 := Ary.other f175 W187 ne113
  have f194 := Exa.wr W187 f176
  have f195 := Exa.wr W187 f177
  have f196 := Ary.other f171 W187 ne114
  have N197 := Fr.snoc X185 N179 ge115
  have K198 := Keep.wr K180 W187 (Or.inr bn116)
  have Z199 := Nat.le_trans Z181 (Nat.le_of_eq (Wr.size W187).symm)
  refine k_iinc K X185 d3_42 rfl (by decide) (Ls' := #[.val (.ref a0), .val (.ref a1), .val (.ref a2), .val (.ref b81), .val (.ref b104), .val (.int (2 : Int32))]) rfl (q := 45) rfl ?_
  refine k_goto K X185 d3_45 (by decide) (q := 17) rfl ?_
  refine k_iload K X185 d3_17 rfl (q := 19) rfl ?_
  refine k_aloadN K X185 d3_19 rfl rfl (q := 20) rfl ?_
  refine k_arraylength K X185 e186 d3_20 f192 (v := (4 : Int32)) rfl (q := 21) rfl ?_
  refine k_icmp_ge_n K X185 d3_21 (by decide) (q := 24) rfl ?_
  refine k_aload K X185 d3_24 rfl rfl (q := 26) rfl ?_
  refine k_aloadN K X185 d3_26 rfl rfl (q := 27) rfl ?_
  refine k_aloadN K X185 d3_27 rfl rfl (q := 28) rfl ?_
  refine k_iload K X185 d3_28 rfl (q := 30) rfl ?_
  refine k_iaload K X185 e186 d3_30 f193 (i := 2) (v := (.int s_a1_2)) (by decide) (by decide) rfl (q := 31) rfl ?_
  refine k_dup2 K X185 d3_31 rfl rfl (q := 32) rfl ?_
  refine k_iaload K X185 e186 d3_32 f196 (i := (Int32.toNatClampNeg s_a1_2)) (v := (.int (v164 (Int32.toNatClampNeg s_a1_2)))) ⟨((ob_4)).1, rfl⟩ ((ob_4)).2 rfl (q := 33) rfl ?_
  obtain ⟨v200, hv_v200⟩ : ∃ z : Int32, (v164 (Int32.toNatClampNeg s_a1_2)) = z := ⟨_, rfl⟩
  refine k_nameI hv_v200 ?_
  refine k_dup_x2 K X185 d3_33 rfl rfl rfl (q := 34) rfl ?_
  refine k_iconst K X185 d3_34 (v := (1 : Int32)) rfl (q := 35) rfl ?_
  refine k_iadd K X185 d3_35 (q := 36) rfl ?_
  obtain ⟨v201, hv_v201⟩ : ∃ z : Nat → Int32, (upd v164 (Int32.toNatClampNeg s_a1_2) (v200 + (1 : Int32))) = z := ⟨_, rfl⟩
  refine k_iastore K X185 e186 d3_36 f196 (i := (Int32.toNatClampNeg s_a1_2)) ⟨((ob_4)).1, rfl⟩ ((ob_4)).2 (q := 37) rfl ?_
  intro T202 h203 X204 e205 W206 A207
  have f208 : Ary Z h203 b81 .int 5 (fun i => Value.int (v201 i)) := Ary.eqv A207 (fun k _ => by rw [← hv_v201]; show (if k = (Int32.toNatClampNeg s_a1_2) then _ else _) = _; unfold upd; split <;> rfl)
  have f209 := Ary.other f190 W206 ne88
  have f210 := Exa.wr W206 f191
  have f211 := Ary.other f192 W206 ne89
  have f212 := Ary.other f193 W206 ne90
  have f213 := Exa.wr W206 f194
  have f214 := Exa.wr W206 f195
  have f215 := Ary.other f189 W206 (Ne.symm ne114)
  have N216 := Fr.snoc X204 N197 ge91
  have K217 := Keep.wr K198 W206 (Or.inr bn92)
  have Z218 := Nat.le_trans Z199 (Nat.le_of_eq (Wr.size W206).symm)
  refine k_aloadN K X204 d3_37 rfl rfl (q := 38) rfl ?_
  refine k_iload K X204 d3_38 rfl (q := 40) rfl ?_
  refine k_iaload K X204 e205 d3_40 f211 (i := 2) (v := (.int s_a2_2)) (by decide) (by decide) rfl (q := 41) rfl ?_
  obtain ⟨v219, hv_v219⟩ : ∃ z : Nat → Int32, (upd v182 (Int32.toNatClampNeg v200) s_a2_2) = z := ⟨_, rfl⟩
  refine k_iastore K X204 e205 d3_41 f215 (i := (Int32.toNatClampNeg v200)) ⟨((ob_5 v126 v127 v163 v164 v200 hv_v126 hv_v127 hv_v163 hv_v164 hv_v200)).1, rfl⟩ ((ob_5 v126 v127 v163 v164 v200 hv_v126 hv_v127 hv_v163 hv_v164 hv_v200)).2 (q := 42) rfl ?_
  intro T220 h221 X222 e223 W224 A225
  have f226 : Ary Z h221 b104 .int 4 (fun i => Value.int (v219 i)) := Ary.eqv A225 (fun k _ => by rw [← hv_v219]; show (if k = (Int32.toNatClampNeg v200) then _ else _) = _; unfold upd; split <;> rfl)
  have f227 := Ary.other f209 W224 ne111
  have f228 := Exa.wr W224 f210
  have f229 := Ary.other f211 W224 ne112
  have f230 := Ary.other f212 W224 ne113
  have f231 := Exa.wr W224 f213
  have f232 := Exa.wr W224 f214
  have f233 := Ary.other f208 W224 ne114
  have N234 := Fr.snoc X222 N216 ge115
  have K235 := Keep.wr K217 W224 (Or.inr bn116)
  have Z236 := Nat.le_trans Z218 (Nat.le_of_eq (Wr.size W224).symm)
  refine k_iinc K X222 d3_42 rfl (by decide) (Ls' := #[.val (.ref a0), .val (.ref a1), .val (.ref a2), .val (.ref b81), .val (.ref b104), .val (.int (3 : Int32))]) rfl (q := 45) rfl ?_
  refine k_goto K X222 d3_45 (by decide) (q := 17) rfl ?_
  refine k_iload K X222 d3_17 rfl (q := 19) rfl ?_
  refine k_aloadN K X222 d3_19 rfl rfl (q := 20) rfl ?_
  refine k_arraylength K X222 e223 d3_20 f229 (v := (4 : Int32)) rfl (q := 21) rfl ?_
  refine k_icmp_ge_n K X222 d3_21 (by decide) (q := 24) rfl ?_
  refine k_aload K X222 d3_24 rfl rfl (q := 26) rfl ?_
  refine k_aloadN K X222 d3_26 rfl rfl (q := 27) rfl ?_
  refine k_aloadN K X222 d3_27 rfl rfl (q := 28) rfl ?_
  refine k_iload K X222 d3_28 rfl (q := 30) rfl ?_
  refine k_iaload K X222 e223 d3_30 f230 (i := 3) (v := (.int s_a1_3)) (by decide) (by decide) rfl (q := 31) rfl ?_
  refine k_dup2 K X222 d3_31 rfl rfl (q := 32) rfl ?_
  refine k_iaload K X222 e223 d3_32 f233 (i := (Int32.toNatClampNeg s_a1_3)) (v := (.int (v201 (Int32.toNatClampNeg s_a1_3)))) ⟨((ob_6)).1, rfl⟩ ((ob_6)).2 rfl (q := 33) rfl ?_
  obtain ⟨v237, hv_v237⟩ : ∃ z : Int32, (v201 (Int32.toNatClampNeg s_a1_3)) = z := ⟨_, rfl⟩
  refine k_nameI hv_v237 ?_
  refine k_dup_x2 K X222 d3_33 rfl rfl rfl (q := 34) rfl ?_
  refine k_iconst K X222 d3_34 (v := (1 : Int32)) rfl (q := 35) rfl ?_
  refine k_iadd K X222 d3_35 (q := 36) rfl ?_
  obtain ⟨v238, hv_v238⟩ : ∃ z : Nat → Int32, (upd v201 (Int32.toNatClampNeg s_a1_3) (v237 + (1 : Int32))) = z := ⟨_, rfl⟩
  refine k_iastore K X222 e223 d3_36 f233 (i := (Int32.toNatClampNeg s_a1_3)) ⟨((ob_6)).1, rfl⟩ ((ob_6)).2 (q := 37) rfl ?_
  intro T239 h240 X241 e242 W243 A244
  have f245 : Ary Z h240 b81 .int 5 (fun i => Value.int (v238 i)) := Ary.eqv A244 (fun k _ => by rw [← hv_v238]; show (if k = (Int32.toNatClampNeg s_a1_3) then _ else _) = _; unfold upd; split <;> rfl)
  have f246 := Ary.other f227 W243 ne88
  have f247 := Exa.wr W243 f228
  have f248 := Ary.other f229 W243 ne89
  have f249 := Ary.other f230 W243 ne90
  have f250 := Exa.wr W243 f231
  have f251 := Exa.wr W243 f232
  have f252 := Ary.other f226 W243 (Ne.symm ne114)
  have N253 := Fr.snoc X241 N234 ge91
  have K254 := Keep.wr K235 W243 (Or.inr bn92)
  have Z255 := Nat.le_trans Z236 (Nat.le_of_eq (Wr.size W243).symm)
  refine k_aloadN K X241 d3_37 rfl rfl (q := 38) rfl ?_
  refine k_iload K X241 d3_38 rfl (q := 40) rfl ?_
  refine k_iaload K X241 e242 d3_40 f248 (i := 3) (v := (.int s_a2_3)) (by decide) (by decide) rfl (q := 41) rfl ?_
  obtain ⟨v256, hv_v256⟩ : ∃ z : Nat → Int32, (upd v219 (Int32.toNatClampNeg v237) s_a2_3) = z := ⟨_, rfl⟩
  refine k_iastore K X241 e242 d3_41 f252 (i := (Int32.toNatClampNeg v237)) ⟨((ob_7 v126 v127 v163 v164 v200 v201 v237 hv_v126 hv_v127 hv_v163 hv_v164 hv_v200 hv_v201 hv_v237)).1, rfl⟩ ((ob_7 v126 v127 v163 v164 v200 v201 v237 hv_v126 hv_v127 hv_v163 hv_v164 hv_v200 hv_v201 hv_v237)).2 (q := 42) rfl ?_
  intro T257 h258 X259 e260 W261 A262
  have f263 : Ary Z h258 b104 .int 4 (fun i => Value.int (v256 i)) := Ary.eqv A262 (fun k _ => by rw [← hv_v256]; show (if k = (Int32.toNatClampNeg v237) then _ else _) = _; unfold upd; split <;> rfl)
  have f264 := Ary.other f246 W261 ne111
  have f265 := Exa.wr W261 f247
  have f266 := Ary.other f248 W261 ne112
  have f267 := Ary.other f249 W261 ne113
  have f268 := Exa.wr W261 f250
  have f269 := Exa.wr W261 f251
  have f270 := Ary.other f245 W261 ne114
  have N271 := Fr.snoc X259 N253 ge115
  have K272 := Keep.wr K254 W261 (Or.inr bn116)
  have Z273 := Nat.le_trans Z255 (Nat.le_of_eq (Wr.size W261).symm)
  refine k_iinc K X259 d3_42 rfl (by decide) (Ls' := #[.val (.ref a0), .val (.ref a1), .val (.ref a2), .val (.ref b81), .val (.ref b104), .val (.int (4 : Int32))]) rfl (q := 45) rfl ?_
  refine k_goto K X259 d3_45 (by decide) (q := 17) rfl ?_
  refine k_iload K X259 d3_17 rfl (q := 19) rfl ?_
  refine k_aloadN K X259 d3_19 rfl rfl (q := 20) rfl ?_
  refine k_arraylength K X259 e260 d3_20 f266 (v := (4 : Int32)) rfl (q := 21) rfl ?_
  refine k_icmp_ge_y K X259 d3_21 (by decide) (by decide) (q := 48) rfl ?_
  refine k_aload K X259 d3_48 rfl rfl (q := 50) rfl ?_
  exact k_reta K X259 e260 d3_50 rfl rfl (Nat.le_trans (by decide) hkc) (Nat.le_trans (by decide) hkn) (hQ _ _ _ ⟨b104, ge115, bn116, rfl, N271, K272, f269, (by rw [(show F_group_new0_g s_a0_0 s_a0_1 s_a0_2 s_a0_3 s_a0_4 s_a2_0 s_a2_1 s_a2_2 s_a2_3 s_a1_0 s_a1_1 s_a1_2 s_a1_3 = v256 from by first | (simp only [F_group_new0_g, hv_v126, hv_v127, hv_v145, hv_v163, hv_v164, hv_v182, hv_v200, hv_v201, hv_v219, hv_v237, hv_v238, hv_v256]; done) | (subst hv_v126; subst hv_v127; subst hv_v145; subst hv_v163; subst hv_v164; subst hv_v182; subst hv_v200; subst hv_v201; subst hv_v219; subst hv_v237; subst hv_v238; subst hv_v256; simp only [F_group_new0_g]))]; exact f263)⟩)

def own_Four (x : Int32) : Prop := ∃ k : Fin 4, x = Int32.ofNat k.1
theorem own_m3 (x : Int32) : own_Four (x &&& 3) := by
  have h := c_and x 3 (by decide)
  have e : (3 : Int32).toInt = 3 := rfl
  refine ⟨⟨(x &&& 3).toInt.toNat, by omega⟩, Int32.toInt_inj.mp ?_⟩
  rw [Int32.toInt_ofNat_of_lt (by show (x &&& 3).toInt.toNat < _; omega)]; show (x &&& 3).toInt = ((x &&& 3).toInt.toNat : Int); omega
theorem own_all {P : Int32 → Int32 → Int32 → Int32 → Prop} (h : ∀ a b c d : Fin 4, P (Int32.ofNat a.1) (Int32.ofNat b.1) (Int32.ofNat c.1) (Int32.ofNat d.1)) (x y z w : Int32) (hx : own_Four x) (hy : own_Four y) (hz : own_Four z) (hw : own_Four w) : P x y z w := by
  obtain ⟨a, rfl⟩ := hx
  obtain ⟨b, rfl⟩ := hy
  obtain ⟨c, rfl⟩ := hz
  obtain ⟨d, rfl⟩ := hw
  exact h a b c d
theorem own_one {P : Int32 → Prop} (h : ∀ a : Fin 4, P (Int32.ofNat a.1)) (x : Int32) (hx : own_Four x) : P x := by
  obtain ⟨a, rfl⟩ := hx
  exact h a
theorem pd_1 : parseMethodDescriptor "(IIIII)I" = some ⟨[.int, .int, .int, .int, .int], some .int⟩ := by decide +kernel
theorem pd_2 : parseMethodDescriptor "([I[I[I)[I" = some ⟨[(.array .int), (.array .int), (.array .int)], some (.array .int)⟩ := by decide +kernel
theorem ef_0 (p0 : Int32) (p1 : Int32) (p2 : Int32) (p3 : Int32) (p4 : Int32) : ∀ m : MethodId, entryFrame m #[(.int p0), (.int p1), (.int p2), (.int p3), (.int p4)] maxLocals = mkF m 0 #[.val (.int p0), .val (.int p1), .val (.int p2), .val (.int p3), .val (.int p4), .unset, .unset, .unset, .unset, .unset, .unset, .unset, .unset, .unset, .unset, .unset, .unset, .unset, .unset, .unset, .unset, .unset, .unset] [] := by intro m; first | (simp [entryFrame, mkF, argsToLocals, Value.category, maxLocals]; done) | rfl
def M0_564 (v559 : Int32) (p1 : Int32) (v281 : Int32) (v290 : Int32) (v291 : Int32) (p2 : Int32) (p3 : Int32) (p4 : Int32) (v274 : Int32) (v275 : Int32) (v276 : Int32) (v277 : Int32) (v539 : Int32) (v547 : Int32) (v558 : Int32) : Int32 :=
  (if v559 = p1 then (if ((F_group_new0_g (0 : Int32) v281 v290 v291 (4 : Int32) p1 p2 p3 p4 v274 v275 v276 v277) (Int32.toNatClampNeg v539)) = p2 then (if ((F_group_new0_g (0 : Int32) v281 v290 v291 (4 : Int32) p1 p2 p3 p4 v274 v275 v276 v277) (Int32.toNatClampNeg v547)) = p3 then (if ((F_group_new0_g (0 : Int32) v281 v290 v291 (4 : Int32) p1 p2 p3 p4 v274 v275 v276 v277) (Int32.toNatClampNeg v558)) = p4 then (1 : Int32) else (0 : Int32)) else (0 : Int32)) else (0 : Int32)) else (0 : Int32))
def F_law (p0 : Int32) (p1 : Int32) (p2 : Int32) (p3 : Int32) (p4 : Int32) : Int32 :=
  let v274 : Int32 := (p0 &&& (3 : Int32))
  let v275 : Int32 := ((ushrI p0 (2 : Int32)) &&& (3 : Int32))
  let v276 : Int32 := ((ushrI p0 (4 : Int32)) &&& (3 : Int32))
  let v277 : Int32 := ((ushrI p0 (6 : Int32)) &&& (3 : Int32))
  let v281 : Int32 := (F_cnt (0 : Int32) v274 v275 v276 v277)
  let v285 : Int32 := (F_cnt (1 : Int32) v274 v275 v276 v277)
  let v289 : Int32 := (F_cnt (2 : Int32) v274 v275 v276 v277)
  let v290 : Int32 := (v281 + v285)
  let v291 : Int32 := ((v281 + v285) + v289)
  let v534 : Int32 := (List.getD [(0 : Int32), v281, v290, v291, (4 : Int32)] (Int32.toNatClampNeg v274) 0)
  let v535 : Int32 := (List.getD [(0 : Int32), v281, v290, v291, (4 : Int32)] (Int32.toNatClampNeg v275) 0)
  let v539 : Int32 := (v535 + (F_eq v274 v275))
  let v540 : Int32 := (List.getD [(0 : Int32), v281, v290, v291, (4 : Int32)] (Int32.toNatClampNeg v276) 0)
  let v547 : Int32 := ((v540 + (F_eq v274 v276)) + (F_eq v275 v276))
  let v548 : Int32 := (List.getD [(0 : Int32), v281, v290, v291, (4 : Int32)] (Int32.toNatClampNeg v277) 0)
  let v558 : Int32 := (((v548 + (F_eq v274 v277)) + (F_eq v275 v277)) + (F_eq v276 v277))
  let v559 : Int32 := ((F_group_new0_g (0 : Int32) v281 v290 v291 (4 : Int32) p1 p2 p3 p4 v274 v275 v276 v277) (Int32.toNatClampNeg v534))
  let d565 : Int32 := (M0_564 v559 p1 v281 v290 v291 p2 p3 p4 v274 v275 v276 v277 v539 v547 v558)
  (nar .boolean d565)
theorem own_ob_0 (p0 : Int32) (p1 : Int32) (p2 : Int32) (p3 : Int32) (p4 : Int32) : ∀ (v274 : Int32), (p0 &&& (3 : Int32)) = v274 → (¬ v274 < (0 : Int32) ∧ Int32.toNatClampNeg v274 < 5) := by
  intros; subst_vars
  have h0 := own_m3 p0
  have h1 := own_m3 (ushrI p0 2)
  have h2 := own_m3 (ushrI p0 4)
  have h3 := own_m3 (ushrI p0 6)
  generalize p0 &&& 3 = a at *
  generalize ushrI p0 2 &&& 3 = b at *
  generalize ushrI p0 4 &&& 3 = c at *
  generalize ushrI p0 6 &&& 3 = d at *
  obtain ⟨a, rfl⟩ := h0
  obtain ⟨b, rfl⟩ := h1
  obtain ⟨c, rfl⟩ := h2
  obtain ⟨d, rfl⟩ := h3
  revert a b c d
  decide +kernel
theorem own_ob_1 (p0 : Int32) (p1 : Int32) (p2 : Int32) (p3 : Int32) (p4 : Int32) : ∀ (v274 : Int32) (v275 : Int32) (v276 : Int32) (v277 : Int32) (v281 : Int32) (v285 : Int32) (v289 : Int32) (v290 : Int32) (v291 : Int32), (p0 &&& (3 : Int32)) = v274 → ((ushrI p0 (2 : Int32)) &&& (3 : Int32)) = v275 → ((ushrI p0 (4 : Int32)) &&& (3 : Int32)) = v276 → ((ushrI p0 (6 : Int32)) &&& (3 : Int32)) = v277 → (F_cnt (0 : Int32) v274 v275 v276 v277) = v281 → (F_cnt (1 : Int32) v274 v275 v276 v277) = v285 → (F_cnt (2 : Int32) v274 v275 v276 v277) = v289 → (v281 + v285) = v290 → ((v281 + v285) + v289) = v291 → (∀ (v126 : Int32), (List.getD [(0 : Int32), v281, v290, v291, (4 : Int32)] (Int32.toNatClampNeg v274) 0) = v126 → ¬ v126 < (0 : Int32) ∧ Int32.toNatClampNeg v126 < 4) := by
  intros; subst_vars
  have h0 := own_m3 p0
  have h1 := own_m3 (ushrI p0 2)
  have h2 := own_m3 (ushrI p0 4)
  have h3 := own_m3 (ushrI p0 6)
  generalize p0 &&& 3 = a at *
  generalize ushrI p0 2 &&& 3 = b at *
  generalize ushrI p0 4 &&& 3 = c at *
  generalize ushrI p0 6 &&& 3 = d at *
  obtain ⟨a, rfl⟩ := h0
  obtain ⟨b, rfl⟩ := h1
  obtain ⟨c, rfl⟩ := h2
  obtain ⟨d, rfl⟩ := h3
  revert a b c d
  decide +kernel
theorem own_ob_2 (p0 : Int32) (p1 : Int32) (p2 : Int32) (p3 : Int32) (p4 : Int32) : ∀ (v275 : Int32), ((ushrI p0 (2 : Int32)) &&& (3 : Int32)) = v275 → (¬ v275 < (0 : Int32) ∧ Int32.toNatClampNeg v275 < 5) := by
  intros; subst_vars
  have h0 := own_m3 p0
  have h1 := own_m3 (ushrI p0 2)
  have h2 := own_m3 (ushrI p0 4)
  have h3 := own_m3 (ushrI p0 6)
  generalize p0 &&& 3 = a at *
  generalize ushrI p0 2 &&& 3 = b at *
  generalize ushrI p0 4 &&& 3 = c at *
  generalize ushrI p0 6 &&& 3 = d at *
  obtain ⟨a, rfl⟩ := h0
  obtain ⟨b, rfl⟩ := h1
  obtain ⟨c, rfl⟩ := h2
  obtain ⟨d, rfl⟩ := h3
  revert a b c d
  decide +kernel
theorem own_ob_3 (p0 : Int32) (p1 : Int32) (p2 : Int32) (p3 : Int32) (p4 : Int32) : ∀ (v274 : Int32) (v275 : Int32) (v276 : Int32) (v277 : Int32) (v281 : Int32) (v285 : Int32) (v289 : Int32) (v290 : Int32) (v291 : Int32), (p0 &&& (3 : Int32)) = v274 → ((ushrI p0 (2 : Int32)) &&& (3 : Int32)) = v275 → ((ushrI p0 (4 : Int32)) &&& (3 : Int32)) = v276 → ((ushrI p0 (6 : Int32)) &&& (3 : Int32)) = v277 → (F_cnt (0 : Int32) v274 v275 v276 v277) = v281 → (F_cnt (1 : Int32) v274 v275 v276 v277) = v285 → (F_cnt (2 : Int32) v274 v275 v276 v277) = v289 → (v281 + v285) = v290 → ((v281 + v285) + v289) = v291 → (∀ (v126 : Int32) (v127 : Nat → Int32) (v163 : Int32), (List.getD [(0 : Int32), v281, v290, v291, (4 : Int32)] (Int32.toNatClampNeg v274) 0) = v126 → (upd (fun i => List.getD [(0 : Int32), v281, v290, v291, (4 : Int32)] i 0) (Int32.toNatClampNeg v274) (v126 + (1 : Int32))) = v127 → (v127 (Int32.toNatClampNeg v275)) = v163 → ¬ v163 < (0 : Int32) ∧ Int32.toNatClampNeg v163 < 4) := by
  intros; subst_vars
  have h0 := own_m3 p0
  have h1 := own_m3 (ushrI p0 2)
  have h2 := own_m3 (ushrI p0 4)
  have h3 := own_m3 (ushrI p0 6)
  generalize p0 &&& 3 = a at *
  generalize ushrI p0 2 &&& 3 = b at *
  generalize ushrI p0 4 &&& 3 = c at *
  generalize ushrI p0 6 &&& 3 = d at *
  obtain ⟨a, rfl⟩ := h0
  obtain ⟨b, rfl⟩ := h1
  obtain ⟨c, rfl⟩ := h2
  obtain ⟨d, rfl⟩ := h3
  revert a b c d
  decide +kernel
theorem own_ob_4 (p0 : Int32) (p1 : Int32) (p2 : Int32) (p3 : Int32) (p4 : Int32) : ∀ (v276 : Int32), ((ushrI p0 (4 : Int32)) &&& (3 : Int32)) = v276 → (¬ v276 < (0 : Int32) ∧ Int32.toNatClampNeg v276 < 5) := by
  intros; subst_vars
  have h0 := own_m3 p0
  have h1 := own_m3 (ushrI p0 2)
  have h2 := own_m3 (ushrI p0 4)
  have h3 := own_m3 (ushrI p0 6)
  generalize p0 &&& 3 = a at *
  generalize ushrI p0 2 &&& 3 = b at *
  generalize ushrI p0 4 &&& 3 = c at *
  generalize ushrI p0 6 &&& 3 = d at *
  obtain ⟨a, rfl⟩ := h0
  obtain ⟨b, rfl⟩ := h1
  obtain ⟨c, rfl⟩ := h2
  obtain ⟨d, rfl⟩ := h3
  revert a b c d
  decide +kernel
theorem own_ob_5 (p0 : Int32) (p1 : Int32) (p2 : Int32) (p3 : Int32) (p4 : Int32) : ∀ (v274 : Int32) (v275 : Int32) (v276 : Int32) (v277 : Int32) (v281 : Int32) (v285 : Int32) (v289 : Int32) (v290 : Int32) (v291 : Int32), (p0 &&& (3 : Int32)) = v274 → ((ushrI p0 (2 : Int32)) &&& (3 : Int32)) = v275 → ((ushrI p0 (4 : Int32)) &&& (3 : Int32)) = v276 → ((ushrI p0 (6 : Int32)) &&& (3 : Int32)) = v277 → (F_cnt (0 : Int32) v274 v275 v276 v277) = v281 → (F_cnt (1 : Int32) v274 v275 v276 v277) = v285 → (F_cnt (2 : Int32) v274 v275 v276 v277) = v289 → (v281 + v285) = v290 → ((v281 + v285) + v289) = v291 → (∀ (v126 : Int32) (v127 : Nat → Int32) (v163 : Int32) (v164 : Nat → Int32) (v200 : Int32), (List.getD [(0 : Int32), v281, v290, v291, (4 : Int32)] (Int32.toNatClampNeg v274) 0) = v126 → (upd (fun i => List.getD [(0 : Int32), v281, v290, v291, (4 : Int32)] i 0) (Int32.toNatClampNeg v274) (v126 + (1 : Int32))) = v127 → (v127 (Int32.toNatClampNeg v275)) = v163 → (upd v127 (Int32.toNatClampNeg v275) (v163 + (1 : Int32))) = v164 → (v164 (Int32.toNatClampNeg v276)) = v200 → ¬ v200 < (0 : Int32) ∧ Int32.toNatClampNeg v200 < 4) := by
  intros; subst_vars
  have h0 := own_m3 p0
  have h1 := own_m3 (ushrI p0 2)
  have h2 := own_m3 (ushrI p0 4)
  have h3 := own_m3 (ushrI p0 6)
  generalize p0 &&& 3 = a at *
  generalize ushrI p0 2 &&& 3 = b at *
  generalize ushrI p0 4 &&& 3 = c at *
  generalize ushrI p0 6 &&& 3 = d at *
  obtain ⟨a, rfl⟩ := h0
  obtain ⟨b, rfl⟩ := h1
  obtain ⟨c, rfl⟩ := h2
  obtain ⟨d, rfl⟩ := h3
  revert a b c d
  decide +kernel
theorem own_ob_6 (p0 : Int32) (p1 : Int32) (p2 : Int32) (p3 : Int32) (p4 : Int32) : ∀ (v277 : Int32), ((ushrI p0 (6 : Int32)) &&& (3 : Int32)) = v277 → (¬ v277 < (0 : Int32) ∧ Int32.toNatClampNeg v277 < 5) := by
  intros; subst_vars
  have h0 := own_m3 p0
  have h1 := own_m3 (ushrI p0 2)
  have h2 := own_m3 (ushrI p0 4)
  have h3 := own_m3 (ushrI p0 6)
  generalize p0 &&& 3 = a at *
  generalize ushrI p0 2 &&& 3 = b at *
  generalize ushrI p0 4 &&& 3 = c at *
  generalize ushrI p0 6 &&& 3 = d at *
  obtain ⟨a, rfl⟩ := h0
  obtain ⟨b, rfl⟩ := h1
  obtain ⟨c, rfl⟩ := h2
  obtain ⟨d, rfl⟩ := h3
  revert a b c d
  decide +kernel
theorem own_ob_7 (p0 : Int32) (p1 : Int32) (p2 : Int32) (p3 : Int32) (p4 : Int32) : ∀ (v274 : Int32) (v275 : Int32) (v276 : Int32) (v277 : Int32) (v281 : Int32) (v285 : Int32) (v289 : Int32) (v290 : Int32) (v291 : Int32), (p0 &&& (3 : Int32)) = v274 → ((ushrI p0 (2 : Int32)) &&& (3 : Int32)) = v275 → ((ushrI p0 (4 : Int32)) &&& (3 : Int32)) = v276 → ((ushrI p0 (6 : Int32)) &&& (3 : Int32)) = v277 → (F_cnt (0 : Int32) v274 v275 v276 v277) = v281 → (F_cnt (1 : Int32) v274 v275 v276 v277) = v285 → (F_cnt (2 : Int32) v274 v275 v276 v277) = v289 → (v281 + v285) = v290 → ((v281 + v285) + v289) = v291 → (∀ (v126 : Int32) (v127 : Nat → Int32) (v163 : Int32) (v164 : Nat → Int32) (v200 : Int32) (v201 : Nat → Int32) (v237 : Int32), (List.getD [(0 : Int32), v281, v290, v291, (4 : Int32)] (Int32.toNatClampNeg v274) 0) = v126 → (upd (fun i => List.getD [(0 : Int32), v281, v290, v291, (4 : Int32)] i 0) (Int32.toNatClampNeg v274) (v126 + (1 : Int32))) = v127 → (v127 (Int32.toNatClampNeg v275)) = v163 → (upd v127 (Int32.toNatClampNeg v275) (v163 + (1 : Int32))) = v164 → (v164 (Int32.toNatClampNeg v276)) = v200 → (upd v164 (Int32.toNatClampNeg v276) (v200 + (1 : Int32))) = v201 → (v201 (Int32.toNatClampNeg v277)) = v237 → ¬ v237 < (0 : Int32) ∧ Int32.toNatClampNeg v237 < 4) := by
  intros; subst_vars
  have h0 := own_m3 p0
  have h1 := own_m3 (ushrI p0 2)
  have h2 := own_m3 (ushrI p0 4)
  have h3 := own_m3 (ushrI p0 6)
  generalize p0 &&& 3 = a at *
  generalize ushrI p0 2 &&& 3 = b at *
  generalize ushrI p0 4 &&& 3 = c at *
  generalize ushrI p0 6 &&& 3 = d at *
  obtain ⟨a, rfl⟩ := h0
  obtain ⟨b, rfl⟩ := h1
  obtain ⟨c, rfl⟩ := h2
  obtain ⟨d, rfl⟩ := h3
  revert a b c d
  decide +kernel
theorem own_ob_8 (p0 : Int32) (p1 : Int32) (p2 : Int32) (p3 : Int32) (p4 : Int32) : ∀ (v274 : Int32), (p0 &&& (3 : Int32)) = v274 → ¬ v274 < (0 : Int32) ∧ Int32.toNatClampNeg v274 < 5 := by
  intros; subst_vars
  have h0 := own_m3 p0
  have h1 := own_m3 (ushrI p0 2)
  have h2 := own_m3 (ushrI p0 4)
  have h3 := own_m3 (ushrI p0 6)
  generalize p0 &&& 3 = a at *
  generalize ushrI p0 2 &&& 3 = b at *
  generalize ushrI p0 4 &&& 3 = c at *
  generalize ushrI p0 6 &&& 3 = d at *
  obtain ⟨a, rfl⟩ := h0
  obtain ⟨b, rfl⟩ := h1
  obtain ⟨c, rfl⟩ := h2
  obtain ⟨d, rfl⟩ := h3
  revert a b c d
  decide +kernel
theorem own_ob_9 (p0 : Int32) (p1 : Int32) (p2 : Int32) (p3 : Int32) (p4 : Int32) : ∀ (v275 : Int32), ((ushrI p0 (2 : Int32)) &&& (3 : Int32)) = v275 → ¬ v275 < (0 : Int32) ∧ Int32.toNatClampNeg v275 < 5 := by
  intros; subst_vars
  have h0 := own_m3 p0
  have h1 := own_m3 (ushrI p0 2)
  have h2 := own_m3 (ushrI p0 4)
  have h3 := own_m3 (ushrI p0 6)
  generalize p0 &&& 3 = a at *
  generalize ushrI p0 2 &&& 3 = b at *
  generalize ushrI p0 4 &&& 3 = c at *
  generalize ushrI p0 6 &&& 3 = d at *
  obtain ⟨a, rfl⟩ := h0
  obtain ⟨b, rfl⟩ := h1
  obtain ⟨c, rfl⟩ := h2
  obtain ⟨d, rfl⟩ := h3
  revert a b c d
  decide +kernel
theorem own_ob_10 (p0 : Int32) (p1 : Int32) (p2 : Int32) (p3 : Int32) (p4 : Int32) : ∀ (v276 : Int32), ((ushrI p0 (4 : Int32)) &&& (3 : Int32)) = v276 → ¬ v276 < (0 : Int32) ∧ Int32.toNatClampNeg v276 < 5 := by
  intros; subst_vars
  have h0 := own_m3 p0
  have h1 := own_m3 (ushrI p0 2)
  have h2 := own_m3 (ushrI p0 4)
  have h3 := own_m3 (ushrI p0 6)
  generalize p0 &&& 3 = a at *
  generalize ushrI p0 2 &&& 3 = b at *
  generalize ushrI p0 4 &&& 3 = c at *
  generalize ushrI p0 6 &&& 3 = d at *
  obtain ⟨a, rfl⟩ := h0
  obtain ⟨b, rfl⟩ := h1
  obtain ⟨c, rfl⟩ := h2
  obtain ⟨d, rfl⟩ := h3
  revert a b c d
  decide +kernel
theorem own_ob_11 (p0 : Int32) (p1 : Int32) (p2 : Int32) (p3 : Int32) (p4 : Int32) : ∀ (v277 : Int32), ((ushrI p0 (6 : Int32)) &&& (3 : Int32)) = v277 → ¬ v277 < (0 : Int32) ∧ Int32.toNatClampNeg v277 < 5 := by
  intros; subst_vars
  have h0 := own_m3 p0
  have h1 := own_m3 (ushrI p0 2)
  have h2 := own_m3 (ushrI p0 4)
  have h3 := own_m3 (ushrI p0 6)
  generalize p0 &&& 3 = a at *
  generalize ushrI p0 2 &&& 3 = b at *
  generalize ushrI p0 4 &&& 3 = c at *
  generalize ushrI p0 6 &&& 3 = d at *
  obtain ⟨a, rfl⟩ := h0
  obtain ⟨b, rfl⟩ := h1
  obtain ⟨c, rfl⟩ := h2
  obtain ⟨d, rfl⟩ := h3
  revert a b c d
  decide +kernel
theorem own_ob_12 (p0 : Int32) (p1 : Int32) (p2 : Int32) (p3 : Int32) (p4 : Int32) : ∀ (v274 : Int32) (v275 : Int32) (v276 : Int32) (v277 : Int32) (v281 : Int32) (v285 : Int32) (v289 : Int32) (v290 : Int32) (v291 : Int32) (v534 : Int32), (p0 &&& (3 : Int32)) = v274 → ((ushrI p0 (2 : Int32)) &&& (3 : Int32)) = v275 → ((ushrI p0 (4 : Int32)) &&& (3 : Int32)) = v276 → ((ushrI p0 (6 : Int32)) &&& (3 : Int32)) = v277 → (F_cnt (0 : Int32) v274 v275 v276 v277) = v281 → (F_cnt (1 : Int32) v274 v275 v276 v277) = v285 → (F_cnt (2 : Int32) v274 v275 v276 v277) = v289 → (v281 + v285) = v290 → ((v281 + v285) + v289) = v291 → (List.getD [(0 : Int32), v281, v290, v291, (4 : Int32)] (Int32.toNatClampNeg v274) 0) = v534 → ¬ v534 < (0 : Int32) ∧ Int32.toNatClampNeg v534 < 4 := by
  intros; subst_vars
  have h0 := own_m3 p0
  have h1 := own_m3 (ushrI p0 2)
  have h2 := own_m3 (ushrI p0 4)
  have h3 := own_m3 (ushrI p0 6)
  generalize p0 &&& 3 = a at *
  generalize ushrI p0 2 &&& 3 = b at *
  generalize ushrI p0 4 &&& 3 = c at *
  generalize ushrI p0 6 &&& 3 = d at *
  obtain ⟨a, rfl⟩ := h0
  obtain ⟨b, rfl⟩ := h1
  obtain ⟨c, rfl⟩ := h2
  obtain ⟨d, rfl⟩ := h3
  revert a b c d
  decide +kernel
theorem own_ob_13 (p0 : Int32) (p1 : Int32) (p2 : Int32) (p3 : Int32) (p4 : Int32) : ∀ (v274 : Int32) (v275 : Int32) (v276 : Int32) (v277 : Int32) (v281 : Int32) (v285 : Int32) (v289 : Int32) (v290 : Int32) (v291 : Int32) (v535 : Int32) (v539 : Int32), (p0 &&& (3 : Int32)) = v274 → ((ushrI p0 (2 : Int32)) &&& (3 : Int32)) = v275 → ((ushrI p0 (4 : Int32)) &&& (3 : Int32)) = v276 → ((ushrI p0 (6 : Int32)) &&& (3 : Int32)) = v277 → (F_cnt (0 : Int32) v274 v275 v276 v277) = v281 → (F_cnt (1 : Int32) v274 v275 v276 v277) = v285 → (F_cnt (2 : Int32) v274 v275 v276 v277) = v289 → (v281 + v285) = v290 → ((v281 + v285) + v289) = v291 → (List.getD [(0 : Int32), v281, v290, v291, (4 : Int32)] (Int32.toNatClampNeg v275) 0) = v535 → (v535 + (F_eq v274 v275)) = v539 → ¬ v539 < (0 : Int32) ∧ Int32.toNatClampNeg v539 < 4 := by
  intros; subst_vars
  have h0 := own_m3 p0
  have h1 := own_m3 (ushrI p0 2)
  have h2 := own_m3 (ushrI p0 4)
  have h3 := own_m3 (ushrI p0 6)
  generalize p0 &&& 3 = a at *
  generalize ushrI p0 2 &&& 3 = b at *
  generalize ushrI p0 4 &&& 3 = c at *
  generalize ushrI p0 6 &&& 3 = d at *
  obtain ⟨a, rfl⟩ := h0
  obtain ⟨b, rfl⟩ := h1
  obtain ⟨c, rfl⟩ := h2
  obtain ⟨d, rfl⟩ := h3
  revert a b c d
  decide +kernel
theorem own_ob_14 (p0 : Int32) (p1 : Int32) (p2 : Int32) (p3 : Int32) (p4 : Int32) : ∀ (v274 : Int32) (v275 : Int32) (v276 : Int32) (v277 : Int32) (v281 : Int32) (v285 : Int32) (v289 : Int32) (v290 : Int32) (v291 : Int32) (v540 : Int32) (v547 : Int32), (p0 &&& (3 : Int32)) = v274 → ((ushrI p0 (2 : Int32)) &&& (3 : Int32)) = v275 → ((ushrI p0 (4 : Int32)) &&& (3 : Int32)) = v276 → ((ushrI p0 (6 : Int32)) &&& (3 : Int32)) = v277 → (F_cnt (0 : Int32) v274 v275 v276 v277) = v281 → (F_cnt (1 : Int32) v274 v275 v276 v277) = v285 → (F_cnt (2 : Int32) v274 v275 v276 v277) = v289 → (v281 + v285) = v290 → ((v281 + v285) + v289) = v291 → (List.getD [(0 : Int32), v281, v290, v291, (4 : Int32)] (Int32.toNatClampNeg v276) 0) = v540 → ((v540 + (F_eq v274 v276)) + (F_eq v275 v276)) = v547 → ¬ v547 < (0 : Int32) ∧ Int32.toNatClampNeg v547 < 4 := by
  intros; subst_vars
  have h0 := own_m3 p0
  have h1 := own_m3 (ushrI p0 2)
  have h2 := own_m3 (ushrI p0 4)
  have h3 := own_m3 (ushrI p0 6)
  generalize p0 &&& 3 = a at *
  generalize ushrI p0 2 &&& 3 = b at *
  generalize ushrI p0 4 &&& 3 = c at *
  generalize ushrI p0 6 &&& 3 = d at *
  obtain ⟨a, rfl⟩ := h0
  obtain ⟨b, rfl⟩ := h1
  obtain ⟨c, rfl⟩ := h2
  obtain ⟨d, rfl⟩ := h3
  revert a b c d
  decide +kernel
theorem own_ob_15 (p0 : Int32) (p1 : Int32) (p2 : Int32) (p3 : Int32) (p4 : Int32) : ∀ (v274 : Int32) (v275 : Int32) (v276 : Int32) (v277 : Int32) (v281 : Int32) (v285 : Int32) (v289 : Int32) (v290 : Int32) (v291 : Int32) (v548 : Int32) (v558 : Int32), (p0 &&& (3 : Int32)) = v274 → ((ushrI p0 (2 : Int32)) &&& (3 : Int32)) = v275 → ((ushrI p0 (4 : Int32)) &&& (3 : Int32)) = v276 → ((ushrI p0 (6 : Int32)) &&& (3 : Int32)) = v277 → (F_cnt (0 : Int32) v274 v275 v276 v277) = v281 → (F_cnt (1 : Int32) v274 v275 v276 v277) = v285 → (F_cnt (2 : Int32) v274 v275 v276 v277) = v289 → (v281 + v285) = v290 → ((v281 + v285) + v289) = v291 → (List.getD [(0 : Int32), v281, v290, v291, (4 : Int32)] (Int32.toNatClampNeg v277) 0) = v548 → (((v548 + (F_eq v274 v277)) + (F_eq v275 v277)) + (F_eq v276 v277)) = v558 → ¬ v558 < (0 : Int32) ∧ Int32.toNatClampNeg v558 < 4 := by
  intros; subst_vars
  have h0 := own_m3 p0
  have h1 := own_m3 (ushrI p0 2)
  have h2 := own_m3 (ushrI p0 4)
  have h3 := own_m3 (ushrI p0 6)
  generalize p0 &&& 3 = a at *
  generalize ushrI p0 2 &&& 3 = b at *
  generalize ushrI p0 4 &&& 3 = c at *
  generalize ushrI p0 6 &&& 3 = d at *
  obtain ⟨a, rfl⟩ := h0
  obtain ⟨b, rfl⟩ := h1
  obtain ⟨c, rfl⟩ := h2
  obtain ⟨d, rfl⟩ := h3
  revert a b c d
  decide +kernel
set_option maxRecDepth 65536 in
set_option maxHeartbeats 40000000 in
theorem rm0 (l : Launch) (Z : State) (az : Array Value) (hw : ∀ d ∈ tables_1, d.before az Z = true) (ws : List Jvm.Cond) (p0 : Int32) (p1 : Int32) (p2 : Int32) (p3 : Int32) (p4 : Int32) (h0 : Heap) (n0 : Nat) (Z0 : n0 ≤ h0.size) :
    Met l x code maxLocals ret ws room_1 Z #[(.int p0), (.int p1), (.int p2), (.int p3), (.int p4)] h0 (fun v h' L => v = some (Value.int (F_law p0 p1 p2 p3 p4)) ∧ Fr n0 L) := by
  refine enter (plainFor_of_name pn_0) (ef_0 p0 p1 p2 p3 p4) ?_
  intro p e s m below meth c T0 kc kn Q hkc hkn hQ K' X0 e0
  have K : Fx p s m meth c code 23 "com/example/muster/muster/search/GroupingGroupPinLaw" "law" (some .boolean) Z := K'
  have N0 := Fr.nil n0
  have K0 : Keep h0 h0 [] := Keep.refl _ _
  refine k_iloadN K X0 at_0 rfl (q := 1) rfl ?_
  refine k_iconst K X0 at_1 (v := (3 : Int32)) rfl (q := 2) rfl ?_
  refine k_iand K X0 at_2 (q := 3) rfl ?_
  obtain ⟨v274, hv_v274⟩ : ∃ z : Int32, (p0 &&& (3 : Int32)) = z := ⟨_, rfl⟩
  refine k_istore K X0 at_3 hv_v274 (Ls' := #[.val (.int p0), .val (.int p1), .val (.int p2), .val (.int p3), .val (.int p4), .val (.int v274), .unset, .unset, .unset, .unset, .unset, .unset, .unset, .unset, .unset, .unset, .unset, .unset, .unset, .unset, .unset, .unset, .unset]) rfl (q := 5) rfl ?_
  refine k_iloadN K X0 at_5 rfl (q := 6) rfl ?_
  refine k_iconst K X0 at_6 (v := (2 : Int32)) rfl (q := 7) rfl ?_
  refine k_iushr K X0 at_7 (q := 8) rfl ?_
  refine k_iconst K X0 at_8 (v := (3 : Int32)) rfl (q := 9) rfl ?_
  refine k_iand K X0 at_9 (q := 10) rfl ?_
  obtain ⟨v275, hv_v275⟩ : ∃ z : Int32, ((ushrI p0 (2 : Int32)) &&& (3 : Int32)) = z := ⟨_, rfl⟩
  refine k_istore K X0 at_10 hv_v275 (Ls' := #[.val (.int p0), .val (.int p1), .val (.int p2), .val (.int p3), .val (.int p4), .val (.int v274), .val (.int v275), .unset, .unset, .unset, .unset, .unset, .unset, .unset, .unset, .unset, .unset, .unset, .unset, .unset, .unset, .unset, .unset]) rfl (q := 12) rfl ?_
  refine k_iloadN K X0 at_12 rfl (q := 13) rfl ?_
  refine k_iconst K X0 at_13 (v := (4 : Int32)) rfl (q := 14) rfl ?_
  refine k_iushr K X0 at_14 (q := 15) rfl ?_
  refine k_iconst K X0 at_15 (v := (3 : Int32)) rfl (q := 16) rfl ?_
  refine k_iand K X0 at_16 (q := 17) rfl ?_
  obtain ⟨v276, hv_v276⟩ : ∃ z : Int32, ((ushrI p0 (4 : Int32)) &&& (3 : Int32)) = z := ⟨_, rfl⟩
  refine k_istore K X0 at_17 hv_v276 (Ls' := #[.val (.int p0), .val (.int p1), .val (.int p2), .val (.int p3), .val (.int p4), .val (.int v274), .val (.int v275), .val (.int v276), .unset, .unset, .unset, .unset, .unset, .unset, .unset, .unset, .unset, .unset, .unset, .unset, .unset, .unset, .unset]) rfl (q := 19) rfl ?_
  refine k_iloadN K X0 at_19 rfl (q := 20) rfl ?_
  refine k_bipush K X0 at_20 (v := (6 : Int32)) rfl (q := 22) rfl ?_
  refine k_iushr K X0 at_22 (q := 23) rfl ?_
  refine k_iconst K X0 at_23 (v := (3 : Int32)) rfl (q := 24) rfl ?_
  refine k_iand K X0 at_24 (q := 25) rfl ?_
  obtain ⟨v277, hv_v277⟩ : ∃ z : Int32, ((ushrI p0 (6 : Int32)) &&& (3 : Int32)) = z := ⟨_, rfl⟩
  refine k_istore K X0 at_25 hv_v277 (Ls' := #[.val (.int p0), .val (.int p1), .val (.int p2), .val (.int p3), .val (.int p4), .val (.int v274), .val (.int v275), .val (.int v276), .val (.int v277), .unset, .unset, .unset, .unset, .unset, .unset, .unset, .unset, .unset, .unset, .unset, .unset, .unset, .unset]) rfl (q := 27) rfl ?_
  refine k_iconst K X0 at_27 (v := (0 : Int32)) rfl (q := 28) rfl ?_
  refine k_iload K X0 at_28 rfl (q := 30) rfl ?_
  refine k_iload K X0 at_30 rfl (q := 32) rfl ?_
  refine k_iload K X0 at_32 rfl (q := 34) rfl ?_
  refine k_iload K X0 at_34 rfl (q := 36) rfl ?_
  refine k_staticP K X0 e0 at_36 (wd hw 0 rfl) (wd hw 1 rfl) (wd hw 2 rfl) (wd hw 3 rfl) (by decide) (rm1 l Z az hw [] (0 : Int32) v274 v275 v276 v277 h0) (W := 0) (by decide) (by decide) (by decide) (by decide) rfl pd_1 (argsL := [(.int (0 : Int32)), (.int v274), (.int v275), (.int v276), (.int v277)]) (rest := []) rfl rfl rfl (Nat.le_of_eq rfl) (q := 39) rfl ?_
  intro T278 X279 e280
  obtain ⟨v281, hv_v281⟩ : ∃ z : Int32, (F_cnt (0 : Int32) v274 v275 v276 v277) = z := ⟨_, rfl⟩
  refine k_istore K X279 at_39 hv_v281 (Ls' := #[.val (.int p0), .val (.int p1), .val (.int p2), .val (.int p3), .val (.int p4), .val (.int v274), .val (.int v275), .val (.int v276), .val (.int v277), .val (.int v281), .unset, .unset, .unset, .unset, .unset, .unset, .unset, .unset, .unset, .unset, .unset, .unset, .unset]) rfl (q := 41) rfl ?_
  refine k_iconst K X279 at_41 (v := (1 : Int32)) rfl (q := 42) rfl ?_
  refine k_iload K X279 at_42 rfl (q := 44) rfl ?_
  refine k_iload K X279 at_44 rfl (q := 46) rfl ?_
  refine k_iload K X279 at_46 rfl (q := 48) rfl ?_
  refine k_iload K X279 at_48 rfl (q := 50) rfl ?_
  refine k_staticP K X279 e280 at_50 (wd hw 0 rfl) (wd hw 1 rfl) (wd hw 2 rfl) (wd hw 3 rfl) (by decide) (rm1 l Z az hw [] (1 : Int32) v274 v275 v276 v277 h0) (W := 0) (by decide) (by decide) (by decide) (by decide) rfl pd_1 (argsL := [(.int (1 : Int32)), (.int v274), (.int v275), (.int v276), (.int v277)]) (rest := []) rfl rfl rfl (Nat.le_of_eq rfl) (q := 53) rfl ?_
  intro T282 X283 e284
  obtain ⟨v285, hv_v285⟩ : ∃ z : Int32, (F_cnt (1 : Int32) v274 v275 v276 v277) = z := ⟨_, rfl⟩
  refine k_istore K X283 at_53 hv_v285 (Ls' := #[.val (.int p0), .val (.int p1), .val (.int p2), .val (.int p3), .val (.int p4), .val (.int v274), .val (.int v275), .val (.int v276), .val (.int v277), .val (.int v281), .val (.int v285), .unset, .unset, .unset, .unset, .unset, .unset, .unset, .unset, .unset, .unset, .unset, .unset]) rfl (q := 55) rfl ?_
  refine k_iconst K X283 at_55 (v := (2 : Int32)) rfl (q := 56) rfl ?_
  refine k_iload K X283 at_56 rfl (q := 58) rfl ?_
  refine k_iload K X283 at_58 rfl (q := 60) rfl ?_
  refine k_iload K X283 at_60 rfl (q := 62) rfl ?_
  refine k_iload K X283 at_62 rfl (q := 64) rfl ?_
  refine k_staticP K X283 e284 at_64 (wd hw 0 rfl) (wd hw 1 rfl) (wd hw 2 rfl) (wd hw 3 rfl) (by decide) (rm1 l Z az hw [] (2 : Int32) v274 v275 v276 v277 h0) (W := 0) (by decide) (by decide) (by decide) (by decide) rfl pd_1 (argsL := [(.int (2 : Int32)), (.int v274), (.int v275), (.int v276), (.int v277)]) (rest := []) rfl rfl rfl (Nat.le_of_eq rfl) (q := 67) rfl ?_
  intro T286 X287 e288
  obtain ⟨v289, hv_v289⟩ : ∃ z : Int32, (F_cnt (2 : Int32) v274 v275 v276 v277) = z := ⟨_, rfl⟩
  refine k_istore K X287 at_67 hv_v289 (Ls' := #[.val (.int p0), .val (.int p1), .val (.int p2), .val (.int p3), .val (.int p4), .val (.int v274), .val (.int v275), .val (.int v276), .val (.int v277), .val (.int v281), .val (.int v285), .val (.int v289), .unset, .unset, .unset, .unset, .unset, .unset, .unset, .unset, .unset, .unset, .unset]) rfl (q := 69) rfl ?_
  refine k_iload K X287 at_69 rfl (q := 71) rfl ?_
  refine k_istore K X287 at_71 rfl (Ls' := #[.val (.int p0), .val (.int p1), .val (.int p2), .val (.int p3), .val (.int p4), .val (.int v274), .val (.int v275), .val (.int v276), .val (.int v277), .val (.int v281), .val (.int v285), .val (.int v289), .val (.int v281), .unset, .unset, .unset, .unset, .unset, .unset, .unset, .unset, .unset, .unset]) rfl (q := 73) rfl ?_
  refine k_iload K X287 at_73 rfl (q := 75) rfl ?_
  refine k_iload K X287 at_75 rfl (q := 77) rfl ?_
  refine k_iadd K X287 at_77 (q := 78) rfl ?_
  obtain ⟨v290, hv_v290⟩ : ∃ z : Int32, (v281 + v285) = z := ⟨_, rfl⟩
  refine k_istore K X287 at_78 hv_v290 (Ls' := #[.val (.int p0), .val (.int p1), .val (.int p2), .val (.int p3), .val (.int p4), .val (.int v274), .val (.int v275), .val (.int v276), .val (.int v277), .val (.int v281), .val (.int v285), .val (.int v289), .val (.int v281), .val (.int v290), .unset, .unset, .unset, .unset, .unset, .unset, .unset, .unset, .unset]) rfl (q := 80) rfl ?_
  refine k_iload K X287 at_80 rfl (q := 82) rfl ?_
  refine k_iload K X287 at_82 rfl (q := 84) rfl ?_
  refine k_iadd K X287 at_84 (q := 85) rfl ?_
  refine k_iload K X287 at_85 rfl (q := 87) rfl ?_
  refine k_iadd K X287 at_87 (q := 88) rfl ?_
  obtain ⟨v291, hv_v291⟩ : ∃ z : Int32, ((v281 + v285) + v289) = z := ⟨_, rfl⟩
  refine k_istore K X287 at_88 hv_v291 (Ls' := #[.val (.int p0), .val (.int p1), .val (.int p2), .val (.int p3), .val (.int p4), .val (.int v274), .val (.int v275), .val (.int v276), .val (.int v277), .val (.int v281), .val (.int v285), .val (.int v289), .val (.int v281), .val (.int v290), .val (.int v291), .unset, .unset, .unset, .unset, .unset, .unset, .unset, .unset]) rfl (q := 90) rfl ?_
  refine k_iconst K X287 at_90 (v := (5 : Int32)) rfl (q := 91) rfl ?_
  refine k_newarrayE K X287 e288 at_91 (ty := .int) rfl (ad := "[I") (by decide) (wd hw 7 rfl) (n := 5) (cap := 5) (by decide) (by decide) (by decide) (by decide) (by decide) (q := 93) rfl ?_
  intro T292 h293 b294 X295 e296 g297 E298 A299 E300
  have ge301 : n0 ≤ b294 := Nat.le_trans Z0 (Nat.le_of_eq g297.symm)
  have bn302 : h0.size ≤ b294 := Nat.le_trans K0.1 (Nat.le_of_eq g297.symm)
  have K303 := Keep.ext K0 E298
  have Z304 := Nat.le_trans Z0 E298.1
  have f305 : Ary Z h293 b294 .int 5 (fun i => Value.int (List.getD [(0 : Int32), (0 : Int32), (0 : Int32), (0 : Int32), (0 : Int32)] i 0)) := Ary.eqv A299 (by intro i hi; match i, hi with | 0, _ => rfl | 1, _ => rfl | 2, _ => rfl | 3, _ => rfl | 4, _ => rfl | (k + 5), hi => exact absurd hi (by omega))
  refine k_dup K X295 at_93 rfl (q := 94) rfl ?_
  refine k_iconst K X295 at_94 (v := (0 : Int32)) rfl (q := 95) rfl ?_
  refine k_iconst K X295 at_95 (v := (0 : Int32)) rfl (q := 96) rfl ?_
  refine k_iastore K X295 e296 at_96 f305 (i := 0) (by decide) (by decide) (q := 97) rfl ?_
  intro T306 h307 X308 e309 W310 A311
  have f312 : Ary Z h307 b294 .int 5 (fun i => Value.int (List.getD [(0 : Int32), (0 : Int32), (0 : Int32), (0 : Int32), (0 : Int32)] i 0)) := Ary.eqv A311 (by intro i hi; match i, hi with | 0, _ => rfl | 1, _ => rfl | 2, _ => rfl | 3, _ => rfl | 4, _ => rfl | (k + 5), hi => exact absurd hi (by omega))
  have f313 := Exa.wr W310 E300
  have N314 := Fr.snoc X308 N0 ge301
  have K315 := Keep.wr K303 W310 (Or.inr bn302)
  have Z316 := Nat.le_trans Z304 (Nat.le_of_eq (Wr.size W310).symm)
  refine k_dup K X308 at_97 rfl (q := 98) rfl ?_
  refine k_iconst K X308 at_98 (v := (1 : Int32)) rfl (q := 99) rfl ?_
  refine k_iload K X308 at_99 rfl (q := 101) rfl ?_
  refine k_iastore K X308 e309 at_101 f312 (i := 1) (by decide) (by decide) (q := 102) rfl ?_
  intro T317 h318 X319 e320 W321 A322
  have f323 : Ary Z h318 b294 .int 5 (fun i => Value.int (List.getD [(0 : Int32), v281, (0 : Int32), (0 : Int32), (0 : Int32)] i 0)) := Ary.eqv A322 (by intro i hi; match i, hi with | 0, _ => rfl | 1, _ => rfl | 2, _ => rfl | 3, _ => rfl | 4, _ => rfl | (k + 5), hi => exact absurd hi (by omega))
  have f324 := Exa.wr W321 f313
  have N325 := Fr.snoc X319 N314 ge301
  have K326 := Keep.wr K315 W321 (Or.inr bn302)
  have Z327 := Nat.le_trans Z316 (Nat.le_of_eq (Wr.size W321).symm)
  refine k_dup K X319 at_102 rfl (q := 103) rfl ?_
  refine k_iconst K X319 at_103 (v := (2 : Int32)) rfl (q := 104) rfl ?_
  refine k_iload K X319 at_104 rfl (q := 106) rfl ?_
  refine k_iastore K X319 e320 at_106 f323 (i := 2) (by decide) (by decide) (q := 107) rfl ?_
  intro T328 h329 X330 e331 W332 A333
  have f334 : Ary Z h329 b294 .int 5 (fun i => Value.int (List.getD [(0 : Int32), v281, v290, (0 : Int32), (0 : Int32)] i 0)) := Ary.eqv A333 (by intro i hi; match i, hi with | 0, _ => rfl | 1, _ => rfl | 2, _ => rfl | 3, _ => rfl | 4, _ => rfl | (k + 5), hi => exact absurd hi (by omega))
  have f335 := Exa.wr W332 f324
  have N336 := Fr.snoc X330 N325 ge301
  have K337 := Keep.wr K326 W332 (Or.inr bn302)
  have Z338 := Nat.le_trans Z327 (Nat.le_of_eq (Wr.size W332).symm)
  refine k_dup K X330 at_107 rfl (q := 108) rfl ?_
  refine k_iconst K X330 at_108 (v := (3 : Int32)) rfl (q := 109) rfl ?_
  refine k_iload K X330 at_109 rfl (q := 111) rfl ?_
  refine k_iastore K X330 e331 at_111 f334 (i := 3) (by decide) (by decide) (q := 112) rfl ?_
  intro T339 h340 X341 e342 W343 A344
  have f345 : Ary Z h340 b294 .int 5 (fun i => Value.int (List.getD [(0 : Int32), v281, v290, v291, (0 : Int32)] i 0)) := Ary.eqv A344 (by intro i hi; match i, hi with | 0, _ => rfl | 1, _ => rfl | 2, _ => rfl | 3, _ => rfl | 4, _ => rfl | (k + 5), hi => exact absurd hi (by omega))
  have f346 := Exa.wr W343 f335
  have N347 := Fr.snoc X341 N336 ge301
  have K348 := Keep.wr K337 W343 (Or.inr bn302)
  have Z349 := Nat.le_trans Z338 (Nat.le_of_eq (Wr.size W343).symm)
  refine k_dup K X341 at_112 rfl (q := 113) rfl ?_
  refine k_iconst K X341 at_113 (v := (4 : Int32)) rfl (q := 114) rfl ?_
  refine k_iconst K X341 at_114 (v := (4 : Int32)) rfl (q := 115) rfl ?_
  refine k_iastore K X341 e342 at_115 f345 (i := 4) (by decide) (by decide) (q := 116) rfl ?_
  intro T350 h351 X352 e353 W354 A355
  have f356 : Ary Z h351 b294 .int 5 (fun i => Value.int (List.getD [(0 : Int32), v281, v290, v291, (4 : Int32)] i 0)) := Ary.eqv A355 (by intro i hi; match i, hi with | 0, _ => rfl | 1, _ => rfl | 2, _ => rfl | 3, _ => rfl | 4, _ => rfl | (k + 5), hi => exact absurd hi (by omega))
  have f357 := Exa.wr W354 f346
  have N358 := Fr.snoc X352 N347 ge301
  have K359 := Keep.wr K348 W354 (Or.inr bn302)
  have Z360 := Nat.le_trans Z349 (Nat.le_of_eq (Wr.size W354).symm)
  refine k_astore K X352 at_116 rfl (Ls' := #[.val (.int p0), .val (.int p1), .val (.int p2), .val (.int p3), .val (.int p4), .val (.int v274), .val (.int v275), .val (.int v276), .val (.int v277), .val (.int v281), .val (.int v285), .val (.int v289), .val (.int v281), .val (.int v290), .val (.int v291), .val (.ref b294), .unset, .unset, .unset, .unset, .unset, .unset, .unset]) rfl (q := 118) rfl ?_
  refine k_iconst K X352 at_118 (v := (4 : Int32)) rfl (q := 119) rfl ?_
  refine k_newarrayE K X352 e353 at_119 (ty := .int) rfl (ad := "[I") (by decide) (wd hw 7 rfl) (n := 4) (cap := 4) (by decide) (by decide) (by decide) (by decide) (by decide) (q := 121) rfl ?_
  intro T361 h362 b363 X364 e365 g366 E367 A368 E369
  have ne370 : b294 ≠ b363 := Nat.ne_of_lt (Nat.lt_of_lt_of_eq (f357).lt g366.symm)
  have ge371 : n0 ≤ b363 := Nat.le_trans Z360 (Nat.le_of_eq g366.symm)
  have bn372 : h0.size ≤ b363 := Nat.le_trans K359.1 (Nat.le_of_eq g366.symm)
  have f373 := Exa.ext E367 f357
  have f374 := Ary.ext f356 E367
  have K375 := Keep.ext K359 E367
  have Z376 := Nat.le_trans Z360 E367.1
  have f377 : Ary Z h362 b363 .int 4 (fun i => Value.int (List.getD [(0 : Int32), (0 : Int32), (0 : Int32), (0 : Int32)] i 0)) := Ary.eqv A368 (by intro i hi; match i, hi with | 0, _ => rfl | 1, _ => rfl | 2, _ => rfl | 3, _ => rfl | (k + 4), hi => exact absurd hi (by omega))
  refine k_dup K X364 at_121 rfl (q := 122) rfl ?_
  refine k_iconst K X364 at_122 (v := (0 : Int32)) rfl (q := 123) rfl ?_
  refine k_iload K X364 at_123 rfl (q := 125) rfl ?_
  refine k_iastore K X364 e365 at_125 f377 (i := 0) (by decide) (by decide) (q := 126) rfl ?_
  intro T378 h379 X380 e381 W382 A383
  have f384 : Ary Z h379 b363 .int 4 (fun i => Value.int (List.getD [v274, (0 : Int32), (0 : Int32), (0 : Int32)] i 0)) := Ary.eqv A383 (by intro i hi; match i, hi with | 0, _ => rfl | 1, _ => rfl | 2, _ => rfl | 3, _ => rfl | (k + 4), hi => exact absurd hi (by omega))
  have f385 := Exa.wr W382 f373
  have f386 := Ary.other f374 W382 ne370
  have f387 := Exa.wr W382 E369
  have N388 := Fr.snoc X380 N358 ge371
  have K389 := Keep.wr K375 W382 (Or.inr bn372)
  have Z390 := Nat.le_trans Z376 (Nat.le_of_eq (Wr.size W382).symm)
  refine k_dup K X380 at_126 rfl (q := 127) rfl ?_
  refine k_iconst K X380 at_127 (v := (1 : Int32)) rfl (q := 128) rfl ?_
  refine k_iload K X380 at_128 rfl (q := 130) rfl ?_
  refine k_iastore K X380 e381 at_130 f384 (i := 1) (by decide) (by decide) (q := 131) rfl ?_
  intro T391 h392 X393 e394 W395 A396
  have f397 : Ary Z h392 b363 .int 4 (fun i => Value.int (List.getD [v274, v275, (0 : Int32), (0 : Int32)] i 0)) := Ary.eqv A396 (by intro i hi; match i, hi with | 0, _ => rfl | 1, _ => rfl | 2, _ => rfl | 3, _ => rfl | (k + 4), hi => exact absurd hi (by omega))
  have f398 := Exa.wr W395 f385
  have f399 := Ary.other f386 W395 ne370
  have f400 := Exa.wr W395 f387
  have N401 := Fr.snoc X393 N388 ge371
  have K402 := Keep.wr K389 W395 (Or.inr bn372)
  have Z403 := Nat.le_trans Z390 (Nat.le_of_eq (Wr.size W395).symm)
  refine k_dup K X393 at_131 rfl (q := 132) rfl ?_
  refine k_iconst K X393 at_132 (v := (2 : Int32)) rfl (q := 133) rfl ?_
  refine k_iload K X393 at_133 rfl (q := 135) rfl ?_
  refine k_iastore K X393 e394 at_135 f397 (i := 2) (by decide) (by decide) (q := 136) rfl ?_
  intro T404 h405 X406 e407 W408 A409
  have f410 : Ary Z h405 b363 .int 4 (fun i => Value.int (List.getD [v274, v275, v276, (0 : Int32)] i 0)) := Ary.eqv A409 (by intro i hi; match i, hi with | 0, _ => rfl | 1, _ => rfl | 2, _ => rfl | 3, _ => rfl | (k + 4), hi => exact absurd hi (by omega))
  have f411 := Exa.wr W408 f398
  have f412 := Ary.other f399 W408 ne370
  have f413 := Exa.wr W408 f400
  have N414 := Fr.snoc X406 N401 ge371
  have K415 := Keep.wr K402 W408 (Or.inr bn372)
  have Z416 := Nat.le_trans Z403 (Nat.le_of_eq (Wr.size W408).symm)
  refine k_dup K X406 at_136 rfl (q := 137) rfl ?_
  refine k_iconst K X406 at_137 (v := (3 : Int32)) rfl (q := 138) rfl ?_
  refine k_iload K X406 at_138 rfl (q := 140) rfl ?_
  refine k_iastore K X406 e407 at_140 f410 (i := 3) (by decide) (by decide) (q := 141) rfl ?_
  intro T417 h418 X419 e420 W421 A422
  have f423 : Ary Z h418 b363 .int 4 (fun i => Value.int (List.getD [v274, v275, v276, v277] i 0)) := Ary.eqv A422 (by intro i hi; match i, hi with | 0, _ => rfl | 1, _ => rfl | 2, _ => rfl | 3, _ => rfl | (k + 4), hi => exact absurd hi (by omega))
  have f424 := Exa.wr W421 f411
  have f425 := Ary.other f412 W421 ne370
  have f426 := Exa.wr W421 f413
  have N427 := Fr.snoc X419 N414 ge371
  have K428 := Keep.wr K415 W421 (Or.inr bn372)
  have Z429 := Nat.le_trans Z416 (Nat.le_of_eq (Wr.size W421).symm)
  refine k_astore K X419 at_141 rfl (Ls' := #[.val (.int p0), .val (.int p1), .val (.int p2), .val (.int p3), .val (.int p4), .val (.int v274), .val (.int v275), .val (.int v276), .val (.int v277), .val (.int v281), .val (.int v285), .val (.int v289), .val (.int v281), .val (.int v290), .val (.int v291), .val (.ref b294), .val (.ref b363), .unset, .unset, .unset, .unset, .unset, .unset]) rfl (q := 143) rfl ?_
  refine k_iconst K X419 at_143 (v := (4 : Int32)) rfl (q := 144) rfl ?_
  refine k_newarrayE K X419 e420 at_144 (ty := .int) rfl (ad := "[I") (by decide) (wd hw 7 rfl) (n := 4) (cap := 4) (by decide) (by decide) (by decide) (by decide) (by decide) (q := 146) rfl ?_
  intro T430 h431 b432 X433 e434 g435 E436 A437 E438
  have ne439 : b294 ≠ b432 := Nat.ne_of_lt (Nat.lt_of_lt_of_eq (f424).lt g435.symm)
  have ne440 : b363 ≠ b432 := Nat.ne_of_lt (Nat.lt_of_lt_of_eq (f426).lt g435.symm)
  have ge441 : n0 ≤ b432 := Nat.le_trans Z429 (Nat.le_of_eq g435.symm)
  have bn442 : h0.size ≤ b432 := Nat.le_trans K428.1 (Nat.le_of_eq g435.symm)
  have f443 := Exa.ext E436 f424
  have f444 := Ary.ext f425 E436
  have f445 := Exa.ext E436 f426
  have f446 := Ary.ext f423 E436
  have K447 := Keep.ext K428 E436
  have Z448 := Nat.le_trans Z429 E436.1
  have f449 : Ary Z h431 b432 .int 4 (fun i => Value.int (List.getD [(0 : Int32), (0 : Int32), (0 : Int32), (0 : Int32)] i 0)) := Ary.eqv A437 (by intro i hi; match i, hi with | 0, _ => rfl | 1, _ => rfl | 2, _ => rfl | 3, _ => rfl | (k + 4), hi => exact absurd hi (by omega))
  refine k_dup K X433 at_146 rfl (q := 147) rfl ?_
  refine k_iconst K X433 at_147 (v := (0 : Int32)) rfl (q := 148) rfl ?_
  refine k_iloadN K X433 at_148 rfl (q := 149) rfl ?_
  refine k_iastore K X433 e434 at_149 f449 (i := 0) (by decide) (by decide) (q := 150) rfl ?_
  intro T450 h451 X452 e453 W454 A455
  have f456 : Ary Z h451 b432 .int 4 (fun i => Value.int (List.getD [p1, (0 : Int32), (0 : Int32), (0 : Int32)] i 0)) := Ary.eqv A455 (by intro i hi; match i, hi with | 0, _ => rfl | 1, _ => rfl | 2, _ => rfl | 3, _ => rfl | (k + 4), hi => exact absurd hi (by omega))
  have f457 := Exa.wr W454 f443
  have f458 := Ary.other f444 W454 ne439
  have f459 := Exa.wr W454 f445
  have f460 := Ary.other f446 W454 ne440
  have f461 := Exa.wr W454 E438
  have N462 := Fr.snoc X452 N427 ge441
  have K463 := Keep.wr K447 W454 (Or.inr bn442)
  have Z464 := Nat.le_trans Z448 (Nat.le_of_eq (Wr.size W454).symm)
  refine k_dup K X452 at_150 rfl (q := 151) rfl ?_
  refine k_iconst K X452 at_151 (v := (1 : Int32)) rfl (q := 152) rfl ?_
  refine k_iloadN K X452 at_152 rfl (q := 153) rfl ?_
  refine k_iastore K X452 e453 at_153 f456 (i := 1) (by decide) (by decide) (q := 154) rfl ?_
  intro T465 h466 X467 e468 W469 A470
  have f471 : Ary Z h466 b432 .int 4 (fun i => Value.int (List.getD [p1, p2, (0 : Int32), (0 : Int32)] i 0)) := Ary.eqv A470 (by intro i hi; match i, hi with | 0, _ => rfl | 1, _ => rfl | 2, _ => rfl | 3, _ => rfl | (k + 4), hi => exact absurd hi (by omega))
  have f472 := Exa.wr W469 f457
  have f473 := Ary.other f458 W469 ne439
  have f474 := Exa.wr W469 f459
  have f475 := Ary.other f460 W469 ne440
  have f476 := Exa.wr W469 f461
  have N477 := Fr.snoc X467 N462 ge441
  have K478 := Keep.wr K463 W469 (Or.inr bn442)
  have Z479 := Nat.le_trans Z464 (Nat.le_of_eq (Wr.size W469).symm)
  refine k_dup K X467 at_154 rfl (q := 155) rfl ?_
  refine k_iconst K X467 at_155 (v := (2 : Int32)) rfl (q := 156) rfl ?_
  refine k_iloadN K X467 at_156 rfl (q := 157) rfl ?_
  refine k_iastore K X467 e468 at_157 f471 (i := 2) (by decide) (by decide) (q := 158) rfl ?_
  intro T480 h481 X482 e483 W484 A485
  have f486 : Ary Z h481 b432 .int 4 (fun i => Value.int (List.getD [p1, p2, p3, (0 : Int32)] i 0)) := Ary.eqv A485 (by intro i hi; match i, hi with | 0, _ => rfl | 1, _ => rfl | 2, _ => rfl | 3, _ => rfl | (k + 4), hi => exact absurd hi (by omega))
  have f487 := Exa.wr W484 f472
  have f488 := Ary.other f473 W484 ne439
  have f489 := Exa.wr W484 f474
  have f490 := Ary.other f475 W484 ne440
  have f491 := Exa.wr W484 f476
  have N492 := Fr.snoc X482 N477 ge441
  have K493 := Keep.wr K478 W484 (Or.inr bn442)
  have Z494 := Nat.le_trans Z479 (Nat.le_of_eq (Wr.size W484).symm)
  refine k_dup K X482 at_158 rfl (q := 159) rfl ?_
  refine k_iconst K X482 at_159 (v := (3 : Int32)) rfl (q := 160) rfl ?_
  refine k_iload K X482 at_160 rfl (q := 162) rfl ?_
  refine k_iastore K X482 e483 at_162 f486 (i := 3) (by decide) (by decide) (q := 163) rfl ?_
  intro T495 h496 X497 e498 W499 A500
  have f501 : Ary Z h496 b432 .int 4 (fun i => Value.int (List.getD [p1, p2, p3, p4] i 0)) := Ary.eqv A500 (by intro i hi; match i, hi with | 0, _ => rfl | 1, _ => rfl | 2, _ => rfl | 3, _ => rfl | (k + 4), hi => exact absurd hi (by omega))
  have f502 := Exa.wr W499 f487
  have f503 := Ary.other f488 W499 ne439
  have f504 := Exa.wr W499 f489
  have f505 := Ary.other f490 W499 ne440
  have f506 := Exa.wr W499 f491
  have N507 := Fr.snoc X497 N492 ge441
  have K508 := Keep.wr K493 W499 (Or.inr bn442)
  have Z509 := Nat.le_trans Z494 (Nat.le_of_eq (Wr.size W499).symm)
  refine k_astore K X497 at_163 rfl (Ls' := #[.val (.int p0), .val (.int p1), .val (.int p2), .val (.int p3), .val (.int p4), .val (.int v274), .val (.int v275), .val (.int v276), .val (.int v277), .val (.int v281), .val (.int v285), .val (.int v289), .val (.int v281), .val (.int v290), .val (.int v291), .val (.ref b294), .val (.ref b363), .val (.ref b432), .unset, .unset, .unset, .unset, .unset]) rfl (q := 165) rfl ?_
  refine k_aload K X497 at_165 rfl rfl (q := 167) rfl ?_
  refine k_aload K X497 at_167 rfl rfl (q := 169) rfl ?_
  refine k_aload K X497 at_169 rfl rfl (q := 171) rfl ?_
  refine k_static K X497 e498 at_171 (wd hw 8 rfl) (wd hw 9 rfl) (wd hw 10 rfl) (wd hw 11 rfl) (by decide) (rm3 l Z az hw [] b294 b363 b432 (0 : Int32) v281 v290 v291 (4 : Int32) p1 p2 p3 p4 v274 v275 v276 v277 h496 n0 Z509 f503 f502 f501 f505 (own_ob_0 p0 p1 p2 p3 p4 v274 hv_v274) (own_ob_1 p0 p1 p2 p3 p4 v274 v275 v276 v277 v281 v285 v289 v290 v291 hv_v274 hv_v275 hv_v276 hv_v277 hv_v281 hv_v285 hv_v289 hv_v290 hv_v291) (own_ob_2 p0 p1 p2 p3 p4 v275 hv_v275) (own_ob_3 p0 p1 p2 p3 p4 v274 v275 v276 v277 v281 v285 v289 v290 v291 hv_v274 hv_v275 hv_v276 hv_v277 hv_v281 hv_v285 hv_v289 hv_v290 hv_v291) (own_ob_4 p0 p1 p2 p3 p4 v276 hv_v276) (own_ob_5 p0 p1 p2 p3 p4 v274 v275 v276 v277 v281 v285 v289 v290 v291 hv_v274 hv_v275 hv_v276 hv_v277 hv_v281 hv_v285 hv_v289 hv_v290 hv_v291) (own_ob_6 p0 p1 p2 p3 p4 v277 hv_v277) (own_ob_7 p0 p1 p2 p3 p4 v274 v275 v276 v277 v281 v285 v289 v290 v291 hv_v274 hv_v275 hv_v276 hv_v277 hv_v281 hv_v285 hv_v289 hv_v290 hv_v291)) (W := 0) (by decide) (by decide) (by decide) (by decide) rfl pd_2 (argsL := [(.ref b294), (.ref b363), (.ref b432)]) (rest := []) rfl rfl rfl (Nat.le_of_eq rfl) (q := 174) rfl ?_
  rintro _ T510 L511 X512 ⟨b516, ge517, bn518, rfl, N513, K514, f519, f520⟩
  have ne521 : b294 ≠ b516 := Nat.ne_of_lt (Nat.lt_of_lt_of_le (f502).lt bn518)
  have ne522 : b363 ≠ b516 := Nat.ne_of_lt (Nat.lt_of_lt_of_le (f504).lt bn518)
  have ne523 : b432 ≠ b516 := Nat.ne_of_lt (Nat.lt_of_lt_of_le (f506).lt bn518)
  have bn524 : h0.size ≤ b516 := Nat.le_trans K508.1 bn518
  have f525 := Exa.keep f502 K514
  have f526 := Ary.keep f503 K514 nin0
  have f527 := Exa.keep f504 K514
  have f528 := Ary.keep f505 K514 nin0
  have f529 := Exa.keep f506 K514
  have f530 := Ary.keep f501 K514 nin0
  have N531 := Fr.app N507 N513
  have K532 := Keep.trans K508 K514 all0
  have Z533 := Nat.le_trans Z509 K514.1
  refine k_astore K X512 at_174 rfl (Ls' := #[.val (.int p0), .val (.int p1), .val (.int p2), .val (.int p3), .val (.int p4), .val (.int v274), .val (.int v275), .val (.int v276), .val (.int v277), .val (.int v281), .val (.int v285), .val (.int v289), .val (.int v281), .val (.int v290), .val (.int v291), .val (.ref b294), .val (.ref b363), .val (.ref b432), .val (.ref b516), .unset, .unset, .unset, .unset]) rfl (q := 176) rfl ?_
  refine k_aload K X512 at_176 rfl rfl (q := 178) rfl ?_
  refine k_ifnull_n K X512 at_178 (q := 181) rfl ?_
  refine k_aload K X512 at_181 rfl rfl (q := 183) rfl ?_
  refine k_arraylength K X512 rfl at_183 f520 (v := (4 : Int32)) rfl (q := 184) rfl ?_
  refine k_iconst K X512 at_184 (v := (4 : Int32)) rfl (q := 185) rfl ?_
  refine k_icmp_eq_y K X512 at_185 (by decide) (by decide) (q := 190) rfl ?_
  refine k_aload K X512 at_190 rfl rfl (q := 192) rfl ?_
  refine k_iconst K X512 at_192 (v := (0 : Int32)) rfl (q := 193) rfl ?_
  refine k_iaload K X512 rfl at_193 f526 (i := 0) (v := (.int (0 : Int32))) (by decide) (by decide) rfl (q := 194) rfl ?_
  refine k_if_ne_n K X512 at_194 (by decide) (q := 197) rfl ?_
  refine k_aload K X512 at_197 rfl rfl (q := 199) rfl ?_
  refine k_iconst K X512 at_199 (v := (1 : Int32)) rfl (q := 200) rfl ?_
  refine k_iaload K X512 rfl at_200 f526 (i := 1) (v := (.int v281)) (by decide) (by decide) rfl (q := 201) rfl ?_
  refine k_iload K X512 at_201 rfl (q := 203) rfl ?_
  refine k_icmp_ne_n K X512 at_203 rfl (q := 206) rfl ?_
  refine k_aload K X512 at_206 rfl rfl (q := 208) rfl ?_
  refine k_iconst K X512 at_208 (v := (2 : Int32)) rfl (q := 209) rfl ?_
  refine k_iaload K X512 rfl at_209 f526 (i := 2) (v := (.int v290)) (by decide) (by decide) rfl (q := 210) rfl ?_
  refine k_iload K X512 at_210 rfl (q := 212) rfl ?_
  refine k_icmp_ne_n K X512 at_212 rfl (q := 215) rfl ?_
  refine k_aload K X512 at_215 rfl rfl (q := 217) rfl ?_
  refine k_iconst K X512 at_217 (v := (3 : Int32)) rfl (q := 218) rfl ?_
  refine k_iaload K X512 rfl at_218 f526 (i := 3) (v := (.int v291)) (by decide) (by decide) rfl (q := 219) rfl ?_
  refine k_iload K X512 at_219 rfl (q := 221) rfl ?_
  refine k_icmp_ne_n K X512 at_221 rfl (q := 224) rfl ?_
  refine k_aload K X512 at_224 rfl rfl (q := 226) rfl ?_
  refine k_iconst K X512 at_226 (v := (4 : Int32)) rfl (q := 227) rfl ?_
  refine k_iaload K X512 rfl at_227 f526 (i := 4) (v := (.int (4 : Int32))) (by decide) (by decide) rfl (q := 228) rfl ?_
  refine k_iconst K X512 at_228 (v := (4 : Int32)) rfl (q := 229) rfl ?_
  refine k_icmp_eq_y K X512 at_229 (by decide) (by decide) (q := 234) rfl ?_
  refine k_aload K X512 at_234 rfl rfl (q := 236) rfl ?_
  refine k_iload K X512 at_236 rfl (q := 238) rfl ?_
  refine k_iaload K X512 rfl at_238 f526 (i := (Int32.toNatClampNeg v274)) (v := (.int (List.getD [(0 : Int32), v281, v290, v291, (4 : Int32)] (Int32.toNatClampNeg v274) 0))) ⟨((own_ob_8 p0 p1 p2 p3 p4 v274 hv_v274)).1, rfl⟩ ((own_ob_8 p0 p1 p2 p3 p4 v274 hv_v274)).2 rfl (q := 239) rfl ?_
  obtain ⟨v534, hv_v534⟩ : ∃ z : Int32, (List.getD [(0 : Int32), v281, v290, v291, (4 : Int32)] (Int32.toNatClampNeg v274) 0) = z := ⟨_, rfl⟩
  refine k_nameI hv_v534 ?_
  refine k_istore K X512 at_239 rfl (Ls' := #[.val (.int p0), .val (.int p1), .val (.int p2), .val (.int p3), .val (.int p4), .val (.int v274), .val (.int v275), .val (.int v276), .val (.int v277), .val (.int v281), .val (.int v285), .val (.int v289), .val (.int v281), .val (.int v290), .val (.int v291), .val (.ref b294), .val (.ref b363), .val (.ref b432), .val (.ref b516), .val (.int v534), .unset, .unset, .unset]) rfl (q := 241) rfl ?_
  refine k_aload K X512 at_241 rfl rfl (q := 243) rfl ?_
  refine k_iload K X512 at_243 rfl (q := 245) rfl ?_
  refine k_iaload K X512 rfl at_245 f526 (i := (Int32.toNatClampNeg v275)) (v := (.int (List.getD [(0 : Int32), v281, v290, v291, (4 : Int32)] (Int32.toNatClampNeg v275) 0))) ⟨((own_ob_9 p0 p1 p2 p3 p4 v275 hv_v275)).1, rfl⟩ ((own_ob_9 p0 p1 p2 p3 p4 v275 hv_v275)).2 rfl (q := 246) rfl ?_
  obtain ⟨v535, hv_v535⟩ : ∃ z : Int32, (List.getD [(0 : Int32), v281, v290, v291, (4 : Int32)] (Int32.toNatClampNeg v275) 0) = z := ⟨_, rfl⟩
  refine k_nameI hv_v535 ?_
  refine k_iload K X512 at_246 rfl (q := 248) rfl ?_
  refine k_iload K X512 at_248 rfl (q := 250) rfl ?_
  refine k_staticP K X512 rfl at_250 (wd hw 4 rfl) (wd hw 5 rfl) (wd hw 2 rfl) (wd hw 6 rfl) (by decide) (rm2 l Z az hw [] v274 v275 T510.heap) (W := 1) (by decide) (by decide) (by decide) (by decide) rfl pd_0 (argsL := [(.int v274), (.int v275)]) (rest := [(.int v535)]) rfl rfl rfl (Nat.le_of_eq rfl) (q := 253) rfl ?_
  intro T536 X537 e538
  refine k_iadd K X537 at_253 (q := 254) rfl ?_
  obtain ⟨v539, hv_v539⟩ : ∃ z : Int32, (v535 + (F_eq v274 v275)) = z := ⟨_, rfl⟩
  refine k_istore K X537 at_254 hv_v539 (Ls' := #[.val (.int p0), .val (.int p1), .val (.int p2), .val (.int p3), .val (.int p4), .val (.int v274), .val (.int v275), .val (.int v276), .val (.int v277), .val (.int v281), .val (.int v285), .val (.int v289), .val (.int v281), .val (.int v290), .val (.int v291), .val (.ref b294), .val (.ref b363), .val (.ref b432), .val (.ref b516), .val (.int v534), .val (.int v539), .unset, .unset]) rfl (q := 256) rfl ?_
  refine k_aload K X537 at_256 rfl rfl (q := 258) rfl ?_
  refine k_iload K X537 at_258 rfl (q := 260) rfl ?_
  refine k_iaload K X537 e538 at_260 f526 (i := (Int32.toNatClampNeg v276)) (v := (.int (List.getD [(0 : Int32), v281, v290, v291, (4 : Int32)] (Int32.toNatClampNeg v276) 0))) ⟨((own_ob_10 p0 p1 p2 p3 p4 v276 hv_v276)).1, rfl⟩ ((own_ob_10 p0 p1 p2 p3 p4 v276 hv_v276)).2 rfl (q := 261) rfl ?_
  obtain ⟨v540, hv_v540⟩ : ∃ z : Int32, (List.getD [(0 : Int32), v281, v290, v291, (4 : Int32)] (Int32.toNatClampNeg v276) 0) = z := ⟨_, rfl⟩
  refine k_nameI hv_v540 ?_
  refine k_iload K X537 at_261 rfl (q := 263) rfl ?_
  refine k_iload K X537 at_263 rfl (q := 265) rfl ?_
  refine k_staticP K X537 e538 at_265 (wd hw 4 rfl) (wd hw 5 rfl) (wd hw 2 rfl) (wd hw 6 rfl) (by decide) (rm2 l Z az hw [] v274 v276 T510.heap) (W := 1) (by decide) (by decide) (by decide) (by decide) rfl pd_0 (argsL := [(.int v274), (.int v276)]) (rest := [(.int v540)]) rfl rfl rfl (Nat.le_of_eq rfl) (q := 268) rfl ?_
  intro T541 X542 e543
  refine k_iadd K X542 at_268 (q := 269) rfl ?_
  refine k_iload K X542 at_269 rfl (q := 271) rfl ?_
  refine k_iload K X542 at_271 rfl (q := 273) rfl ?_
  refine k_staticP K X542 e543 at_273 (wd hw 4 rfl) (wd hw 5 rfl) (wd hw 2 rfl) (wd hw 6 rfl) (by decide) (rm2 l Z az hw [] v275 v276 T510.heap) (W := 1) (by decide) (by decide) (by decide) (by decide) rfl pd_0 (argsL := [(.int v275), (.int v276)]) (rest := [(.int (v540 + (F_eq v274 v276)))]) rfl rfl rfl (Nat.le_of_eq rfl) (q := 276) rfl ?_
  intro T544 X545 e546
  refine k_iadd K X545 at_276 (q := 277) rfl ?_
  obtain ⟨v547, hv_v547⟩ : ∃ z : Int32, ((v540 + (F_eq v274 v276)) + (F_eq v275 v276)) = z := ⟨_, rfl⟩
  refine k_istore K X545 at_277 hv_v547 (Ls' := #[.val (.int p0), .val (.int p1), .val (.int p2), .val (.int p3), .val (.int p4), .val (.int v274), .val (.int v275), .val (.int v276), .val (.int v277), .val (.int v281), .val (.int v285), .val (.int v289), .val (.int v281), .val (.int v290), .val (.int v291), .val (.ref b294), .val (.ref b363), .val (.ref b432), .val (.ref b516), .val (.int v534), .val (.int v539), .val (.int v547), .unset]) rfl (q := 279) rfl ?_
  refine k_aload K X545 at_279 rfl rfl (q := 281) rfl ?_
  refine k_iload K X545 at_281 rfl (q := 283) rfl ?_
  refine k_iaload K X545 e546 at_283 f526 (i := (Int32.toNatClampNeg v277)) (v := (.int (List.getD [(0 : Int32), v281, v290, v291, (4 : Int32)] (Int32.toNatClampNeg v277) 0))) ⟨((own_ob_11 p0 p1 p2 p3 p4 v277 hv_v277)).1, rfl⟩ ((own_ob_11 p0 p1 p2 p3 p4 v277 hv_v277)).2 rfl (q := 284) rfl ?_
  obtain ⟨v548, hv_v548⟩ : ∃ z : Int32, (List.getD [(0 : Int32), v281, v290, v291, (4 : Int32)] (Int32.toNatClampNeg v277) 0) = z := ⟨_, rfl⟩
  refine k_nameI hv_v548 ?_
  refine k_iload K X545 at_284 rfl (q := 286) rfl ?_
  refine k_iload K X545 at_286 rfl (q := 288) rfl ?_
  refine k_staticP K X545 e546 at_288 (wd hw 4 rfl) (wd hw 5 rfl) (wd hw 2 rfl) (wd hw 6 rfl) (by decide) (rm2 l Z az hw [] v274 v277 T510.heap) (W := 1) (by decide) (by decide) (by decide) (by decide) rfl pd_0 (argsL := [(.int v274), (.int v277)]) (rest := [(.int v548)]) rfl rfl rfl (Nat.le_of_eq rfl) (q := 291) rfl ?_
  intro T549 X550 e551
  refine k_iadd K X550 at_291 (q := 292) rfl ?_
  refine k_iload K X550 at_292 rfl (q := 294) rfl ?_
  refine k_iload K X550 at_294 rfl (q := 296) rfl ?_
  refine k_staticP K X550 e551 at_296 (wd hw 4 rfl) (wd hw 5 rfl) (wd hw 2 rfl) (wd hw 6 rfl) (by decide) (rm2 l Z az hw [] v275 v277 T510.heap) (W := 1) (by decide) (by decide) (by decide) (by decide) rfl pd_0 (argsL := [(.int v275), (.int v277)]) (rest := [(.int (v548 + (F_eq v274 v277)))]) rfl rfl rfl (Nat.le_of_eq rfl) (q := 299) rfl ?_
  intro T552 X553 e554
  refine k_iadd K X553 at_299 (q := 300) rfl ?_
  refine k_iload K X553 at_300 rfl (q := 302) rfl ?_
  refine k_iload K X553 at_302 rfl (q := 304) rfl ?_
  refine k_staticP K X553 e554 at_304 (wd hw 4 rfl) (wd hw 5 rfl) (wd hw 2 rfl) (wd hw 6 rfl) (by decide) (rm2 l Z az hw [] v276 v277 T510.heap) (W := 1) (by decide) (by decide) (by decide) (by decide) rfl pd_0 (argsL := [(.int v276), (.int v277)]) (rest := [(.int ((v548 + (F_eq v274 v277)) + (F_eq v275 v277)))]) rfl rfl rfl (Nat.le_of_eq rfl) (q := 307) rfl ?_
  intro T555 X556 e557
  refine k_iadd K X556 at_307 (q := 308) rfl ?_
  obtain ⟨v558, hv_v558⟩ : ∃ z : Int32, (((v548 + (F_eq v274 v277)) + (F_eq v275 v277)) + (F_eq v276 v277)) = z := ⟨_, rfl⟩
  refine k_istore K X556 at_308 hv_v558 (Ls' := #[.val (.int p0), .val (.int p1), .val (.int p2), .val (.int p3), .val (.int p4), .val (.int v274), .val (.int v275), .val (.int v276), .val (.int v277), .val (.int v281), .val (.int v285), .val (.int v289), .val (.int v281), .val (.int v290), .val (.int v291), .val (.ref b294), .val (.ref b363), .val (.ref b432), .val (.ref b516), .val (.int v534), .val (.int v539), .val (.int v547), .val (.int v558)]) rfl (q := 310) rfl ?_
  refine k_aload K X556 at_310 rfl rfl (q := 312) rfl ?_
  refine k_iload K X556 at_312 rfl (q := 314) rfl ?_
  refine k_iaload K X556 e557 at_314 f520 (i := (Int32.toNatClampNeg v534)) (v := (.int ((F_group_new0_g (0 : Int32) v281 v290 v291 (4 : Int32) p1 p2 p3 p4 v274 v275 v276 v277) (Int32.toNatClampNeg v534)))) ⟨((own_ob_12 p0 p1 p2 p3 p4 v274 v275 v276 v277 v281 v285 v289 v290 v291 v534 hv_v274 hv_v275 hv_v276 hv_v277 hv_v281 hv_v285 hv_v289 hv_v290 hv_v291 hv_v534)).1, rfl⟩ ((own_ob_12 p0 p1 p2 p3 p4 v274 v275 v276 v277 v281 v285 v289 v290 v291 v534 hv_v274 hv_v275 hv_v276 hv_v277 hv_v281 hv_v285 hv_v289 hv_v290 hv_v291 hv_v534)).2 rfl (q := 315) rfl ?_
  obtain ⟨v559, hv_v559⟩ : ∃ z : Int32, ((F_group_new0_g (0 : Int32) v281 v290 v291 (4 : Int32) p1 p2 p3 p4 v274 v275 v276 v277) (Int32.toNatClampNeg v534)) = z := ⟨_, rfl⟩
  refine k_nameI hv_v559 ?_
  refine k_iloadN K X556 at_315 rfl (q := 316) rfl ?_
  have J566 : ∀ (d565 : Int32), (M0_564 v559 p1 v281 v290 v291 p2 p3 p4 v274 v275 v276 v277 v539 v547 v558) = d565 → Run p e below s kc kn Q T555 (mkF m 352 #[.val (.int p0), .val (.int p1), .val (.int p2), .val (.int p3), .val (.int p4), .val (.int v274), .val (.int v275), .val (.int v276), .val (.int v277), .val (.int v281), .val (.int v285), .val (.int v289), .val (.int v281), .val (.int v290), .val (.int v291), .val (.ref b294), .val (.ref b363), .val (.ref b432), .val (.ref b516), .val (.int v534), .val (.int v539), .val (.int v547), .val (.int v558)] [(.int d565)]) := by
    intro d565 hv_d565
    exact k_retz K X556 e557 at_352 (Nat.le_trans (by decide) hkc) (Nat.le_trans (by decide) hkn) (hQ _ _ _ ⟨(by show some (Value.int (nar .boolean d565)) = some (Value.int (F_law p0 p1 p2 p3 p4)); first | (simp only [F_law, hv_v274, hv_v275, hv_v276, hv_v277, hv_v281, hv_v285, hv_v289, hv_v290, hv_v291, hv_v534, hv_v535, hv_v539, hv_v540, hv_v547, hv_v548, hv_v558, hv_v559, hv_d565]; done) | (subst hv_v274; subst hv_v275; subst hv_v276; subst hv_v277; subst hv_v281; subst hv_v285; subst hv_v289; subst hv_v290; subst hv_v291; subst hv_v534; subst hv_v535; subst hv_v539; subst hv_v540; subst hv_v547; subst hv_v548; subst hv_v558; subst hv_v559; subst hv_d565; simp only [F_law])), N531⟩)
  refine k_icmp_ne K X556 at_316 (by decide) (q := 351) rfl (q' := 319) rfl ?_ ?_
  · intro hc567
    refine k_iconst K X556 at_351 (v := (0 : Int32)) rfl (q := 352) rfl ?_
    exact J566 _ (by first | (simp only [M0_564, if_neg hc567]; done) | rfl)
  · intro hc567
    refine k_aload K X556 at_319 rfl rfl (q := 321) rfl ?_
    refine k_iload K X556 at_321 rfl (q := 323) rfl ?_
    refine k_iaload K X556 e557 at_323 f520 (i := (Int32.toNatClampNeg v539)) (v := (.int ((F_group_new0_g (0 : Int32) v281 v290 v291 (4 : Int32) p1 p2 p3 p4 v274 v275 v276 v277) (Int32.toNatClampNeg v539)))) ⟨((own_ob_13 p0 p1 p2 p3 p4 v274 v275 v276 v277 v281 v285 v289 v290 v291 v535 v539 hv_v274 hv_v275 hv_v276 hv_v277 hv_v281 hv_v285 hv_v289 hv_v290 hv_v291 hv_v535 hv_v539)).1, rfl⟩ ((own_ob_13 p0 p1 p2 p3 p4 v274 v275 v276 v277 v281 v285 v289 v290 v291 v535 v539 hv_v274 hv_v275 hv_v276 hv_v277 hv_v281 hv_v285 hv_v289 hv_v290 hv_v291 hv_v535 hv_v539)).2 rfl (q := 324) rfl ?_
    refine k_iloadN K X556 at_324 rfl (q := 325) rfl ?_
    refine k_icmp_ne K X556 at_325 (by decide) (q := 351) rfl (q' := 328) rfl ?_ ?_
    · intro hc568
      refine k_iconst K X556 at_351 (v := (0 : Int32)) rfl (q := 352) rfl ?_
      exact J566 _ (by first | (simp only [M0_564, if_pos hc567, if_neg hc568]; done) | rfl)
    · intro hc568
      refine k_aload K X556 at_328 rfl rfl (q := 330) rfl ?_
      refine k_iload K X556 at_330 rfl (q := 332) rfl ?_
      refine k_iaload K X556 e557 at_332 f520 (i := (Int32.toNatClampNeg v547)) (v := (.int ((F_group_new0_g (0 : Int32) v281 v290 v291 (4 : Int32) p1 p2 p3 p4 v274 v275 v276 v277) (Int32.toNatClampNeg v547)))) ⟨((own_ob_14 p0 p1 p2 p3 p4 v274 v275 v276 v277 v281 v285 v289 v290 v291 v540 v547 hv_v274 hv_v275 hv_v276 hv_v277 hv_v281 hv_v285 hv_v289 hv_v290 hv_v291 hv_v540 hv_v547)).1, rfl⟩ ((own_ob_14 p0 p1 p2 p3 p4 v274 v275 v276 v277 v281 v285 v289 v290 v291 v540 v547 hv_v274 hv_v275 hv_v276 hv_v277 hv_v281 hv_v285 hv_v289 hv_v290 hv_v291 hv_v540 hv_v547)).2 rfl (q := 333) rfl ?_
      refine k_iloadN K X556 at_333 rfl (q := 334) rfl ?_
      refine k_icmp_ne K X556 at_334 (by decide) (q := 351) rfl (q' := 337) rfl ?_ ?_
      · intro hc569
        refine k_iconst K X556 at_351 (v := (0 : Int32)) rfl (q := 352) rfl ?_
        exact J566 _ (by first | (simp only [M0_564, if_pos hc567, if_pos hc568, if_neg hc569]; done) | rfl)
      · intro hc569
        refine k_aload K X556 at_337 rfl rfl (q := 339) rfl ?_
        refine k_iload K X556 at_339 rfl (q := 341) rfl ?_
        refine k_iaload K X556 e557 at_341 f520 (i := (Int32.toNatClampNeg v558)) (v := (.int ((F_group_new0_g (0 : Int32) v281 v290 v291 (4 : Int32) p1 p2 p3 p4 v274 v275 v276 v277) (Int32.toNatClampNeg v558)))) ⟨((own_ob_15 p0 p1 p2 p3 p4 v274 v275 v276 v277 v281 v285 v289 v290 v291 v548 v558 hv_v274 hv_v275 hv_v276 hv_v277 hv_v281 hv_v285 hv_v289 hv_v290 hv_v291 hv_v548 hv_v558)).1, rfl⟩ ((own_ob_15 p0 p1 p2 p3 p4 v274 v275 v276 v277 v281 v285 v289 v290 v291 v548 v558 hv_v274 hv_v275 hv_v276 hv_v277 hv_v281 hv_v285 hv_v289 hv_v290 hv_v291 hv_v548 hv_v558)).2 rfl (q := 342) rfl ?_
        refine k_iload K X556 at_342 rfl (q := 344) rfl ?_
        refine k_icmp_ne K X556 at_344 (by decide) (q := 351) rfl (q' := 347) rfl ?_ ?_
        · intro hc570
          refine k_iconst K X556 at_351 (v := (0 : Int32)) rfl (q := 352) rfl ?_
          exact J566 _ (by first | (simp only [M0_564, if_pos hc567, if_pos hc568, if_pos hc569, if_neg hc570]; done) | rfl)
        · intro hc570
          refine k_iconst K X556 at_347 (v := (1 : Int32)) rfl (q := 348) rfl ?_
          refine k_goto K X556 at_348 (by decide) (q := 352) rfl ?_
          exact J566 _ (by first | (simp only [M0_564, if_pos hc567, if_pos hc568, if_pos hc569, if_pos hc570]; done) | rfl)
def own_l (s0 s1 s2 s3 s4 : Int32) (i : Nat) : Int32 := List.getD [s0, s1, s2, s3, s4] i 0
def own_f1 (s0 s1 s2 s3 s4 a : Int32) : Nat → Int32 := upd (own_l s0 s1 s2 s3 s4) a.toNatClampNeg (own_l s0 s1 s2 s3 s4 a.toNatClampNeg + 1)
def own_f2 (s0 s1 s2 s3 s4 a b : Int32) : Nat → Int32 := upd (own_f1 s0 s1 s2 s3 s4 a) b.toNatClampNeg (own_f1 s0 s1 s2 s3 s4 a b.toNatClampNeg + 1)
def own_f3 (s0 s1 s2 s3 s4 a b c : Int32) : Nat → Int32 := upd (own_f2 s0 s1 s2 s3 s4 a b) c.toNatClampNeg (own_f2 s0 s1 s2 s3 s4 a b c.toNatClampNeg + 1)
theorem own_g (s0 s1 s2 s3 s4 v0 v1 v2 v3 a b c d : Int32) (t : Nat) : F_group_new0_g s0 s1 s2 s3 s4 v0 v1 v2 v3 a b c d t =
    (if t = (own_f3 s0 s1 s2 s3 s4 a b c d.toNatClampNeg).toNatClampNeg then v3 else if t = (own_f2 s0 s1 s2 s3 s4 a b c.toNatClampNeg).toNatClampNeg then v2 else if t = (own_f1 s0 s1 s2 s3 s4 a b.toNatClampNeg).toNatClampNeg then v1 else if t = (own_l s0 s1 s2 s3 s4 a.toNatClampNeg).toNatClampNeg then v0 else List.getD [0, 0, 0, 0] t 0) := rfl
def own_P (a b c d : Int32) : Prop :=
  let s1 := F_cnt 0 a b c d
  let s2 := s1 + F_cnt 1 a b c d
  let s3 := s1 + F_cnt 1 a b c d + F_cnt 2 a b c d
  let j0 := (own_l 0 s1 s2 s3 4 a.toNatClampNeg).toNatClampNeg
  let j1 := (own_f1 0 s1 s2 s3 4 a b.toNatClampNeg).toNatClampNeg
  let j2 := (own_f2 0 s1 s2 s3 4 a b c.toNatClampNeg).toNatClampNeg
  let j3 := (own_f3 0 s1 s2 s3 4 a b c d.toNatClampNeg).toNatClampNeg
  (¬ j0 = j1 ∧ ¬ j0 = j2 ∧ ¬ j0 = j3 ∧ ¬ j1 = j2 ∧ ¬ j1 = j3 ∧ ¬ j2 = j3) ∧ (List.getD [0, s1, s2, s3, 4] a.toNatClampNeg 0).toNatClampNeg = j0 ∧ (List.getD [0, s1, s2, s3, 4] b.toNatClampNeg 0 + F_eq a b).toNatClampNeg = j1 ∧
    (List.getD [0, s1, s2, s3, 4] c.toNatClampNeg 0 + F_eq a c + F_eq b c).toNatClampNeg = j2 ∧ (List.getD [0, s1, s2, s3, 4] d.toNatClampNeg 0 + F_eq a d + F_eq b d + F_eq c d).toNatClampNeg = j3
instance (a b c d : Int32) : Decidable (own_P a b c d) := by unfold own_P; infer_instance
theorem own_Pall (a b c d : Int32) (h0 : own_Four a) (h1 : own_Four b) (h2 : own_Four c) (h3 : own_Four d) : own_P a b c d := own_all (P := own_P) (by decide +kernel) a b c d h0 h1 h2 h3
theorem law_eq (p0 p1 p2 p3 p4 : Int32) : F_law p0 p1 p2 p3 p4 = 1 := by
  have h := own_Pall _ _ _ _ (own_m3 p0) (own_m3 (ushrI p0 2)) (own_m3 (ushrI p0 4)) (own_m3 (ushrI p0 6))
  simp only [F_law, M0_564, own_g]
  simp only [own_P] at h
  obtain ⟨⟨n1, n2, n3, n4, n5, n6⟩, e0, e1, e2, e3⟩ := h
  rw [e0, e1, e2, e3]
  simp only [if_neg n1, if_neg n2, if_neg n3, if_neg n4, if_neg n5, if_neg n6, if_true]
  decide
set_option maxRecDepth 65536 in
set_option maxHeartbeats 40000000 in
theorem comes_1 {Post : Tables → Env → Array Value → State → Outcome → State → Prop} (hpost : ∀ tb e args s v u, (limb_1_1.after args s (.returned v) u = true ∧ limb_1_2.after args s (.returned v) u = true ∧ True) → FrameEnd s (.returned v) u (Jvm.fieldLocs frame_1_writes args s ++ Jvm.arrayLocs frame_1_arrays args s ++ Jvm.staticLocs frame_1_statics s) 24 128 → Post tb e args s (.returned v) u) :
    ArmFor flags0 classFile x code maxLocals ret World_1 tables_1 room_1 Calls_1 rest_1 Pre_1 Post := by
  intro l hfl _ _ p e ha hc hk s m args below hf hA hF happ hP
  obtain ⟨hcalls, hrest, hpre⟩ := hP
  obtain ⟨-, -, -, hnamed, -, -, -, hat⟩ := (Spec.applies_iff hf).mp happ
  obtain ⟨hg, hn⟩ := and_e (Cond.before_iff.mp (show (Jvm.Cond.and given_1 narrow_1).before args s = true from hpre))
  obtain ⟨gc, g0⟩ := and_e hg
  obtain ⟨ga0, g1⟩ := and_e g0
  obtain ⟨ga1, g2⟩ := and_e g1
  obtain ⟨ga2, g3⟩ := and_e g2
  obtain ⟨ga3, g4⟩ := and_e g3
  obtain ⟨w0, w1, w2, w3, w4, rfl⟩ : ∃ w0 w1 w2 w3 w4 : Value, args = #[w0, w1, w2, w3, w4] := by
    have hs : args.size = 5 := by simpa [Cond.value, given_1] using gc
    obtain ⟨L⟩ := args
    match L, hs with
    | [w0, w1, w2, w3, w4], _ => exact ⟨w0, w1, w2, w3, w4, rfl⟩
  have hw := fun d (hd : d ∈ tables_1) => atoms_spec (ws := Jvm.Cond.code x code maxLocals ret :: tables_1) hat d (List.mem_cons_of_mem _ hd)
  obtain ⟨i0, ei0⟩ := is_v ga0
  obtain rfl : w0 = (.int i0) := Option.some.inj ei0
  obtain ⟨i1, ei1⟩ := is_v ga1
  obtain rfl : w1 = (.int i1) := Option.some.inj ei1
  obtain ⟨i2, ei2⟩ := is_v ga2
  obtain rfl : w2 = (.int i2) := Option.some.inj ei2
  obtain ⟨i3, ei3⟩ := is_v ga3
  obtain rfl : w3 = (.int i3) := Option.some.inj ei3
  obtain ⟨i4, ei4⟩ := is_v g4
  obtain rfl : w4 = (.int i4) := Option.some.inj ei4
  obtain ⟨n, o, h1, h2, h3, _, L, rfl, ⟨rfl, N⟩, hq⟩ := rm0 l s _ hw tables_1 i0 i1 i2 i3 i4 s.heap s.heap.size (Nat.le_refl _) p e ha hc hk s m _ below hf ((Spec.applies_iff_loose hf).mp happ).1 ⟨rfl, State.Warmed39.refl s, rfl⟩ trivial
  rw [law_eq] at *
  refine ⟨n, _, h1, h2, h3, hpost _ _ _ _ _ _ ⟨Cond.after_iff.mpr rfl, Cond.after_iff.mpr (eq_i res_at (Term.int_eval (1)) rfl), trivial⟩ ⟨hq.1, hq.2.1, (hq.2.2.sift fun y hy => Or.inr (N y hy)).mono (by decide) (by decide)⟩⟩
theorem main_1_1 : Claimed_1_1 := comes_1 fun _ _ _ _ _ _ h hF => ⟨h.1, hF⟩
theorem main_1_2 : Claimed_1_2 := comes_1 fun _ _ _ _ _ _ h hF => ⟨h.2.1, hF⟩
end Jvm.Pilot.@@N@@
namespace Jvm.Pilot.@@N@@
open Jvm Jvm.ClassFile Sem Op Lib Jvm.Free Jvm.Stand Jvm.Pilot.@@N@@.Jvm.D
/-! MADE BY PROGRAM (witnessworld.py) out of the Statement's table words and the real class files: 9 classes; the members and pool entries that the words name. The judged class is class 1, her method 3. -/
namespace start1
open Jvm.ClassFile
def u (s : String) : CpInfo := .utf8 (stringToUtf16 s)
/-- a pool by its gaps: so many unusable entries, then the entry; so many at the end -/
def gap : Nat → List CpInfo → List CpInfo
  | 0, r => r
  | n + 1, r => .unusable :: gap n r
def poolList (es : List (Nat × CpInfo)) (last : Nat) : List CpInfo := es.foldr (fun e r => gap e.1 (e.2 :: r)) (gap last [])
def pool (es : List (Nat × CpInfo)) (last : Nat) : Array CpInfo := ⟨poolList es last⟩
def fileOf (pool : Array CpInfo) (this : Nat) (attrs : Array Attribute := #[]) (ms : Array MethodInfo := #[]) (fl : Nat := 33) (sup : Nat := 0) (ifs : Array Nat := #[]) (fds : Array FieldInfo := #[]) : ClassFile where
  minorVersion := 0
  majorVersion := 65
  constantPool := pool
  accessFlags := fl
  thisClass := this
  superClass := sup
  interfaces := ifs
  fields := fds
  methods := ms
  attributes := attrs
def plain (name : String) (sup : Option ClassId) : Class where
  name := name
  kind := .ordinary
  loader := none
  accessFlags := 33
  super := sup
  interfaces := #[]
  cf := none
  fields := #[]
  methods := #[]
  instanceTypes := #[]
  staticTypes := #[]
  resolved := #[]
  callSites := []
  init := .initialized
  statics := none
  mirror := none

def pool0 : Array CpInfo := pool [(5, u "<init>"), (0, u "()V"), (1, .class_ 10), (1, u "java/lang/Object"), (85, u "clone"), (0, u "()Ljava/lang/Object;")] 26

def k0m0 : Method := { name := "<init>", desc := "()V", sig := { parameters := [], returnType := none }, accessFlags := 1, code := none }
def k0m1 : Method := { name := "clone", desc := "()Ljava/lang/Object;", sig := { parameters := [], returnType := some (.object "java/lang/Object") }, accessFlags := 260, code := none }
/-- java/lang/Object -/
def k0 : Class := { plain "java/lang/Object" none with
  accessFlags := 33
  interfaces := #[]
  cf := some (fileOf pool0 8 #[] #[{ accessFlags := 1, nameIndex := 5, descriptorIndex := 6, attributes := #[] }, { accessFlags := 260, nameIndex := 96, descriptorIndex := 97, attributes := #[] }] 33 0 #[] #[])
  fields := #[]
  methods := #[k0m0, k0m1]
  instanceTypes := #[]
  staticTypes := #[]
  resolved := Array.replicate 124 none
  statics := none }

def pool1 : Array CpInfo := pool [(2, .class_ 4), (1, u "java/lang/Object"), (0, u "<init>"), (0, u "()V"), (0, .methodref 8 9), (0, .class_ 10), (0, .nameAndType 11 12), (0, u "com/example/muster/muster/search/GroupingGroupPinLaw"), (0, u "eq"), (0, u "(II)I"), (0, .methodref 8 14), (0, .nameAndType 15 16), (0, u "cnt"), (0, u "(IIIII)I"), (0, .methodref 18 19), (0, .class_ 20), (0, .nameAndType 21 22), (0, u "com/example/muster/muster/search/Grouping"), (0, u "group"), (0, u "([I[I[I)[I"), (3, u "law"), (0, u "(IIIII)Z")] 4

def k1m0 : Method := { name := "<init>", desc := "()V", sig := { parameters := [], returnType := none }, accessFlags := 2, code := none }
def k1c1 : Code := { maxStack := 2, maxLocals := 2, code := method_2_code, exceptionTable := #[], attributes := #[] }
def k1m1 : Method := { name := "eq", desc := "(II)I", sig := { parameters := [.int, .int], returnType := some .int }, accessFlags := 10, code := some k1c1 }
def k1c2 : Code := { maxStack := 3, maxLocals := 5, code := method_3_code, exceptionTable := #[], attributes := #[] }
def k1m2 : Method := { name := "cnt", desc := "(IIIII)I", sig := { parameters := [.int, .int, .int, .int, .int], returnType := some .int }, accessFlags := 10, code := some k1c2 }
def k1c3 : Code := { maxStack := 5, maxLocals := 23, code := code, exceptionTable := #[], attributes := #[] }
def k1m3 : Method := { name := "law", desc := "(IIIII)Z", sig := { parameters := [.int, .int, .int, .int, .int], returnType := some .boolean }, accessFlags := 9, code := some k1c3 }
/-- com/example/muster/muster/search/GroupingGroupPinLaw -/
def k1 : Class := { plain "com/example/muster/muster/search/GroupingGroupPinLaw" (some 0) with
  accessFlags := 49
  interfaces := #[]
  cf := some (fileOf pool1 8 #[] #[{ accessFlags := 2, nameIndex := 5, descriptorIndex := 6, attributes := #[] }, { accessFlags := 10, nameIndex := 11, descriptorIndex := 12, attributes := #[] }, { accessFlags := 10, nameIndex := 15, descriptorIndex := 16, attributes := #[] }, { accessFlags := 9, nameIndex := 26, descriptorIndex := 27, attributes := #[] }] 49 2 #[] #[])
  fields := #[]
  methods := #[k1m0, k1m1, k1m2, k1m3]
  instanceTypes := #[]
  staticTypes := #[]
  resolved := Array.replicate 32 none
  statics := none }

def pool2 : Array CpInfo := pool [(2, .class_ 4), (1, u "java/lang/Object"), (0, u "<init>"), (0, u "()V"), (0, .methodref 8 9), (0, .class_ 10), (0, .nameAndType 11 12), (0, u "[I"), (0, u "clone"), (0, u "()Ljava/lang/Object;"), (0, .class_ 14), (0, u "com/example/muster/muster/search/Grouping"), (5, u "group"), (0, u "([I[I[I)[I")] 2

def k2m0 : Method := { name := "<init>", desc := "()V", sig := { parameters := [], returnType := none }, accessFlags := 2, code := none }
def k2c1 : Code := { maxStack := 6, maxLocals := 6, code := prog_46_method_3_code, exceptionTable := #[], attributes := #[] }
def k2m1 : Method := { name := "group", desc := "([I[I[I)[I", sig := { parameters := [(.array .int), (.array .int), (.array .int)], returnType := some (.array .int) }, accessFlags := 8, code := some k2c1 }
/-- com/example/muster/muster/search/Grouping -/
def k2 : Class := { plain "com/example/muster/muster/search/Grouping" (some 0) with
  accessFlags := 32
  interfaces := #[]
  cf := some (fileOf pool2 13 #[] #[{ accessFlags := 2, nameIndex := 5, descriptorIndex := 6, attributes := #[] }, { accessFlags := 8, nameIndex := 20, descriptorIndex := 21, attributes := #[] }] 32 2 #[] #[])
  fields := #[]
  methods := #[k2m0, k2m1]
  instanceTypes := #[]
  staticTypes := #[]
  resolved := Array.replicate 24 none
  statics := none }

def pool3 : Array CpInfo := pool [(1, .class_ 2), (0, u "java/lang/Cloneable"), (0, .class_ 4), (0, u "java/lang/Object")] 2

/-- java/lang/Cloneable -/
def k3 : Class := { plain "java/lang/Cloneable" (some 0) with
  accessFlags := 1537
  interfaces := #[]
  cf := some (fileOf pool3 1 #[] #[] 1537 3 #[] #[])
  fields := #[]
  methods := #[]
  instanceTypes := #[]
  staticTypes := #[]
  resolved := Array.replicate 7 none
  statics := none }

def pool4 : Array CpInfo := pool [(1, u "java/io/Serializable"), (0, .class_ 1), (0, u "java/lang/Object"), (0, .class_ 3)] 3

/-- java/io/Serializable -/
def k4 : Class := { plain "java/io/Serializable" (some 0) with
  accessFlags := 1537
  interfaces := #[]
  cf := some (fileOf pool4 2 #[] #[] 1537 4 #[] #[])
  fields := #[]
  methods := #[]
  instanceTypes := #[]
  staticTypes := #[]
  resolved := Array.replicate 8 none
  statics := none }

/-- the primitive byte -/
def k5 : Class := { plain "byte" none with kind := .primitive 'B', accessFlags := 0x411 }
/-- [B -/
def k6 : Class := { plain "[B" (some 0) with kind := .array 5 .byte, interfaces := #[3, 4], accessFlags := 1041 }

/-- the primitive int -/
def k7 : Class := { plain "int" none with kind := .primitive 'I', accessFlags := 0x411 }
/-- [I -/
def k8 : Class := { plain "[I" (some 0) with kind := .array 7 .int, interfaces := #[3, 4], accessFlags := 1041 }

def heap : Heap := #[]
def classes : Array Class := #[k0, k1, k2, k3, k4, k5, k6, k7, k8]
def interned : List (Array UInt16 × Addr) := []
def slotsUsed : Nat := 0
def theMethod : MethodId := ⟨1, 3⟩
def args0 : Array Value := #[.int 5, .int 7, .int 9, .int 11, .int 4]
def aboutOver (below : List Frame) : State where
  vm := { classes := classes, interned := interned.toArray }
  heap := heap
  slotsUsed := slotsUsed
  threads := #[{ frames := .invoking theMethod args0 :: below }]
def below0 : List Frame := [.native { method := ⟨0, 0⟩, args := #[] }]
def about1 : State := aboutOver below0
def p0 : Program := .bare "" "" ""
def e0 : Env := launch0.env 0 0 0
theorem w_frames : about1.frames = Frame.invoking theMethod args0 :: below0 := rfl
set_option maxRecDepth 65536 in
theorem w_args : argsFit about1.vm theMethod args0 = true := by decide +kernel
set_option maxRecDepth 65536 in
theorem w_heap : heapFits about1 = true := by decide +kernel
set_option maxRecDepth 65536 in
theorem w_runnable : about1.curStatus? = some .runnable := by decide +kernel
set_option maxRecDepth 65536 in
theorem w_alone : about1.alone = true := by decide +kernel
set_option maxRecDepth 65536 in
theorem w_named : about1.methodNamed? x = some theMethod := by decide +kernel
set_option maxRecDepth 65536 in
theorem w_hears : about1.hears theMethod below0 = true := by decide +kernel
set_option maxRecDepth 65536 in
theorem w_ripe : about1.ripe theMethod args0 below0 = true := by decide +kernel
theorem w_running : about1.status = .running := rfl
set_option maxRecDepth 65536 in
theorem w_room : about1.hasRoom e0.platform room_1 = true :=
  launch0.hasRoom_least _ room_1 (by decide +kernel) (by decide +kernel) (by decide +kernel) (by decide +kernel) (by decide +kernel) (by decide +kernel)
theorem allAtoms_all (ts : List Jvm.Cond) (a : Array Jvm.Value) (st : Jvm.State) : (allAtoms ts).before a st = ts.all (fun c => c.before a st) := by
  induction ts with
  | nil => rfl
  | cons c t ih =>
    show (Jvm.Cond.and c (allAtoms t)).before a st = _
    rw [Jvm.Cond.before_and, ih, List.all_cons]
def words1 : List Jvm.Cond := Jvm.Cond.code x code maxLocals ret :: tables_1
/-- a 'code' word, met by the world's own term for the bytes: nothing is compared byte by byte -/
theorem code_word {y : MethodName} {bytes : ByteArray} {mx : Nat} {rt : Option FieldType} {a : Array Value} {s : State} {m : MethodId} {meth : Method} {c : Code} (h1 : s.methodNamed? y = some m) (h2 : s.vm.method? m = some meth) (h3 : meth.code = some c) (h4 : c.code = bytes)
    (h5 : (c.maxLocals == mx && c.exceptionTable.isEmpty && decide (c.maxStack ≤ mostOperands) && decide (meth.sig.returnType = rt) && !meth.locks && decide (parseMethodDescriptor y.desc = some meth.sig)) = true) : (Jvm.Cond.code y bytes mx rt).before a s = true := by
  simp only [Bool.and_eq_true, beq_iff_eq, Bool.not_eq_true', decide_eq_true_eq] at h5
  obtain ⟨⟨⟨⟨⟨g1, g2⟩, g3⟩, g4⟩, g5⟩, g6⟩ := h5
  simp [Cond.before, Cond.holds, Cond.value, h1, h2, h3, h4, g1, g2, g3, g4, g5, g6]
def isCode : Jvm.Cond → Bool
  | .code _ _ _ _ => true
  | _ => false
theorem all_split {L : List Jvm.Cond} {P : Jvm.Cond → Bool} (h1 : L.all (fun c => isCode c || P c) = true) (h2 : ∀ c ∈ L.filter isCode, P c = true) : L.all P = true := by
  refine List.all_eq_true.mpr fun c hc => ?_
  have h := List.all_eq_true.mp h1 c hc
  rcases Bool.eq_false_or_eq_true (isCode c) with hi | hi
  · exact h2 c (List.mem_filter.mpr ⟨hc, hi⟩)
  · simpa [hi] using h
set_option maxRecDepth 65536 in
theorem w_c0 : (Jvm.Cond.code x code maxLocals ret).before args0 about1 = true := code_word (m := ⟨1, 3⟩) (meth := k1m3) (c := k1c3) (by decide +kernel) rfl rfl rfl (by decide +kernel)
set_option maxRecDepth 65536 in
theorem w_c1 : (Jvm.Cond.code ({ cls := "com/example/muster/muster/search/GroupingGroupPinLaw", name := "cnt", desc := "(IIIII)I" } : Jvm.MethodName) method_3_code (5 : Nat) (Option.some Jvm.ClassFile.FieldType.int)).before args0 about1 = true := code_word (m := ⟨1, 2⟩) (meth := k1m2) (c := k1c2) (by decide +kernel) rfl rfl rfl (by decide +kernel)
set_option maxRecDepth 65536 in
theorem w_c2 : (Jvm.Cond.code ({ cls := "com/example/muster/muster/search/GroupingGroupPinLaw", name := "eq", desc := "(II)I" } : Jvm.MethodName) method_2_code (2 : Nat) (Option.some Jvm.ClassFile.FieldType.int)).before args0 about1 = true := code_word (m := ⟨1, 1⟩) (meth := k1m1) (c := k1c1) (by decide +kernel) rfl rfl rfl (by decide +kernel)
set_option maxRecDepth 65536 in
theorem w_c3 : (Jvm.Cond.code ({ cls := "com/example/muster/muster/search/Grouping", name := "group", desc := "([I[I[I)[I" } : Jvm.MethodName) prog_46_method_3_code (6 : Nat) (Option.some (Jvm.ClassFile.FieldType.array Jvm.ClassFile.FieldType.int))).before args0 about1 = true := code_word (m := ⟨2, 1⟩) (meth := k2m1) (c := k2c1) (by decide +kernel) rfl rfl rfl (by decide +kernel)
def codes1 : List Jvm.Cond := [Jvm.Cond.code x code maxLocals ret, Jvm.Cond.code ({ cls := "com/example/muster/muster/search/GroupingGroupPinLaw", name := "cnt", desc := "(IIIII)I" } : Jvm.MethodName) method_3_code (5 : Nat) (Option.some Jvm.ClassFile.FieldType.int), Jvm.Cond.code ({ cls := "com/example/muster/muster/search/GroupingGroupPinLaw", name := "eq", desc := "(II)I" } : Jvm.MethodName) method_2_code (2 : Nat) (Option.some Jvm.ClassFile.FieldType.int), Jvm.Cond.code ({ cls := "com/example/muster/muster/search/Grouping", name := "group", desc := "([I[I[I)[I" } : Jvm.MethodName) prog_46_method_3_code (6 : Nat) (Option.some (Jvm.ClassFile.FieldType.array Jvm.ClassFile.FieldType.int))]
set_option maxRecDepth 65536 in
theorem codes_eq : words1.filter isCode = codes1 := rfl
theorem w_codes : ∀ c ∈ words1.filter isCode, c.before args0 about1 = true := by
  rw [codes_eq]
  intro c hc
  simp only [codes1, List.mem_cons, List.not_mem_nil, or_false] at hc
  rcases hc with rfl | rfl | rfl | rfl
  · exact w_c0
  · exact w_c1
  · exact w_c2
  · exact w_c3
set_option maxRecDepth 65536 in
theorem w_t1 : words1.all (fun c => isCode c || c.before args0 about1) = true := by decide +kernel
theorem w_tables : (allAtoms (Jvm.Cond.code x code maxLocals ret :: tables_1)).before args0 about1 = true := by
  rw [allAtoms_all]
  show words1.all (fun c => c.before args0 about1) = true
  refine all_split ?_ w_codes
  rw [w_t1]
set_option maxRecDepth 65536 in
theorem w_case : (Jvm.Cond.and given_1 narrow_1).before args0 about1 = true := by decide +kernel
theorem w_applies : (headSpec (Jvm.Cond.code x code maxLocals ret :: tables_1) room_1).applies x e0.platform about1 = true :=
  (Spec.applies_iff w_frames).mpr ⟨w_running, w_runnable, w_alone, w_named, w_hears, w_ripe, w_room, w_tables⟩
theorem atStart : AtStart classFile x code maxLocals ret World_1 tables_1 room_1 Calls_1 rest_1 Pre_1 launch0 p0 e0 about1 theMethod args0 below0 :=
  ⟨lists_1, trivial, launch0.admits_env _ _ _, launch0.least_env, fairChoices_fair.cas, fairChoices_fair.clock, w_frames, w_args, w_heap, w_applies, trivial, trivial, w_case⟩
end start1
theorem witness_1 : WitnessClaimed_1 := ⟨start1.p0, start1.e0, start1.about1, start1.theMethod, start1.args0, start1.below0, start1.atStart⟩
end Jvm.Pilot.@@N@@
