import JvmDerived
import JvmDerived.Pilot.@@N@@Statement
import JvmDerived.Pilot.@@N@@Code
set_option linter.unusedVariables false
set_option linter.unusedSimpArgs false
namespace Jvm.Pilot.@@N@@
open Jvm Jvm.ClassFile Sem Op Lib Jvm.Free Jvm.Stand Jvm.LawKit Jvm.RoadKit Bundle Jvm.Pilot.@@N@@.Jvm.D
section OwnKit
variable {p : Program} {l : Launch} {e : Env} {R : Room} {s : State} {m : MethodId} {args : Array Value} {below : List Frame} {meth : Method} {c : Code} {T T' : State} {locs : List Loc} {cells slots kc kn : Nat} {Q : Option Value → Heap → List Loc → Prop} {f f' : JFrame} {pc q q' : Nat} {Ls Ls' : Array Slot} {st : List Value} {Z : State} {a0 : Array Value} {h : Heap} {by' : ByteArray} {ml : Nat} {own nm : String} {ret : Option FieldType}
/-- from this state, with this frame on top, the body returns as Q says -/
def Run (p : Program) (e : Env) (below : List Frame) (s : State) (kc kn : Nat) (Q : Option Value → Heap → List Loc → Prop) (T : State) (f : JFrame) : Prop :=
  ∃ t o, Steps p.tables e below (T.setTop f) t ∧ t.status = .running ∧ Ended t below o ∧ ∃ v L, o = .returned v ∧ Q v t.heap L ∧ FrameEnd s o t L kc kn
theorem Run.by (st : ∀ t, Steps p.tables e below (T'.setTop f') t → Steps p.tables e below (T.setTop f) t) (k : Run p e below s kc kn Q T' f') : Run p e below s kc kn Q T f := by
  obtain ⟨t, o, h1, r⟩ := k
  exact ⟨t, o, st t h1, r⟩
theorem Run.on (k : Run p e below s kc kn Q T' f') (st : Steps p.tables e below (T.setTop f) (T'.setTop f')) : Run p e below s kc kn Q T f := k.by fun _ h1 => st.trans h1
/-- what a walk knows of its method throughout -/
def Fx (p : Program) (s : State) (m : MethodId) (meth : Method) (c : Code) (by' : ByteArray) (ml : Nat) (own nm : String) (ret : Option FieldType) (Z : State) : Prop :=
  p.tables.exec = Jvm.exec ∧ c.code = by' ∧ c.maxLocals = ml ∧ s.vm.findClass own = some m.cls ∧ Z.Warmed39 s.vm ∧ meth.sig.returnType = ret ∧ meth.locks = false ∧ meth.name = nm
theorem k_iloadN (K : Fx p s m meth c by' ml own nm ret Z) (X : Stand p l e R s m args below meth c T locs cells slots) {k' : Fin 4} {v : Int32} (hd : decode by' pc = .ok (.iload_n k', 1)) (hl : Ls[k'.val]? = some (.val (.int v))) (hq : pc + 1 = q) (k : Run p e below s kc kn Q T (mkF m q Ls (.int v :: st))) : Run p e below s kc kn Q T (mkF m pc Ls st) := by
  subst hq; exact k.by fun t => XS.iloadN X.here K.1 rfl (hb K.2.1 hd) hl
theorem k_iload (K : Fx p s m meth c by' ml own nm ret Z) (X : Stand p l e R s m args below meth c T locs cells slots) {k' : Nat} {v : Int32} (hd : decode by' pc = .ok (.iload k', 2)) (hl : Ls[k']? = some (.val (.int v))) (hq : pc + 2 = q) (k : Run p e below s kc kn Q T (mkF m q Ls (.int v :: st))) : Run p e below s kc kn Q T (mkF m pc Ls st) := by
  subst hq; exact k.by fun t => XS.iload X.here K.1 rfl (hb K.2.1 hd) hl
theorem k_aloadN (K : Fx p s m meth c by' ml own nm ret Z) (X : Stand p l e R s m args below meth c T locs cells slots) {k' : Fin 4} {v : Value} (hd : decode by' pc = .ok (.aload_n k', 1)) (hl : Ls[k'.val]? = some (.val v)) (hv : v.isRef = true) (hq : pc + 1 = q) (k : Run p e below s kc kn Q T (mkF m q Ls (v :: st))) : Run p e below s kc kn Q T (mkF m pc Ls st) := by
  subst hq; exact k.by fun t => XS.aloadN X.here K.1 rfl (hb K.2.1 hd) hl hv
theorem k_aload (K : Fx p s m meth c by' ml own nm ret Z) (X : Stand p l e R s m args below meth c T locs cells slots) {k' : Nat} {v : Value} (hd : decode by' pc = .ok (.aload k', 2)) (hl : Ls[k']? = some (.val v)) (hv : v.isRef = true) (hq : pc + 2 = q) (k : Run p e below s kc kn Q T (mkF m q Ls (v :: st))) : Run p e below s kc kn Q T (mkF m pc Ls st) := by
  subst hq; exact k.by fun t => XS.aload X.here K.1 rfl (hb K.2.1 hd) hl hv
theorem k_istoreN (K : Fx p s m meth c by' ml own nm ret Z) (X : Stand p l e R s m args below meth c T locs cells slots) {k' : Fin 4} {v x : Int32} (hd : decode by' pc = .ok (.istore_n k', 1)) (hv : x = v) (hl : storeLocals Ls k'.val (.int v) = some Ls') (hq : pc + 1 = q) (k : Run p e below s kc kn Q T (mkF m q Ls' st)) : Run p e below s kc kn Q T (mkF m pc Ls (.int x :: st)) := by
  subst hq hv; exact k.by fun t => XS.istoreN X.here K.1 rfl (hb K.2.1 hd) rfl hl
theorem k_istore (K : Fx p s m meth c by' ml own nm ret Z) (X : Stand p l e R s m args below meth c T locs cells slots) {k' : Nat} {v x : Int32} (hd : decode by' pc = .ok (.istore k', 2)) (hv : x = v) (hl : storeLocals Ls k' (.int v) = some Ls') (hq : pc + 2 = q) (k : Run p e below s kc kn Q T (mkF m q Ls' st)) : Run p e below s kc kn Q T (mkF m pc Ls (.int x :: st)) := by
  subst hq hv; exact k.by fun t => XS.istore X.here K.1 rfl (hb K.2.1 hd) rfl hl
theorem k_astore (K : Fx p s m meth c by' ml own nm ret Z) (X : Stand p l e R s m args below meth c T locs cells slots) {k' : Nat} {v : Value} (hd : decode by' pc = .ok (.astore k', 2)) (hv : v.isRef = true) (hl : storeLocals Ls k' v = some Ls') (hq : pc + 2 = q) (k : Run p e below s kc kn Q T (mkF m q Ls' st)) : Run p e below s kc kn Q T (mkF m pc Ls (v :: st)) := by
  subst hq; exact k.by fun t => XS.astore X.here K.1 rfl (hb K.2.1 hd) rfl hv hl
theorem k_iconst (K : Fx p s m meth c by' ml own nm ret Z) (X : Stand p l e R s m args below meth c T locs cells slots) {i : Int} {v : Int32} (hd : decode by' pc = .ok (.iconst i, 1)) (hv : Int32.ofInt i = v) (hq : pc + 1 = q) (k : Run p e below s kc kn Q T (mkF m q Ls (.int v :: st))) : Run p e below s kc kn Q T (mkF m pc Ls st) := by
  subst hq hv; exact k.by fun t => XS.iconst X.here K.1 rfl (hb K.2.1 hd)
theorem k_bipush (K : Fx p s m meth c by' ml own nm ret Z) (X : Stand p l e R s m args below meth c T locs cells slots) {i : Int} {v : Int32} (hd : decode by' pc = .ok (.bipush i, 2)) (hv : (Int8.ofInt i).toInt32 = v) (hq : pc + 2 = q) (k : Run p e below s kc kn Q T (mkF m q Ls (.int v :: st))) : Run p e below s kc kn Q T (mkF m pc Ls st) := by
  subst hq hv; exact k.by fun t => XS.bipush X.here K.1 rfl (hb K.2.1 hd)
theorem k_aconst_null (K : Fx p s m meth c by' ml own nm ret Z) (X : Stand p l e R s m args below meth c T locs cells slots)  (hd : decode by' pc = .ok (.aconst_null, 1)) (hq : pc + 1 = q) (k : Run p e below s kc kn Q T (mkF m q Ls (.null :: st))) : Run p e below s kc kn Q T (mkF m pc Ls st) := by
  subst hq; exact k.by fun t => XS.aconstNull X.here K.1 rfl (hb K.2.1 hd)
theorem k_iadd (K : Fx p s m meth c by' ml own nm ret Z) (X : Stand p l e R s m args below meth c T locs cells slots) {x y : Int32} (hd : decode by' pc = .ok (.iadd, 1)) (hq : pc + 1 = q) (k : Run p e below s kc kn Q T (mkF m q Ls (.int (x + y) :: st))) : Run p e below s kc kn Q T (mkF m pc Ls (.int y :: .int x :: st)) := by
  subst hq; exact k.by fun t => XS.iadd X.here K.1 rfl (hb K.2.1 hd) rfl
theorem k_iand (K : Fx p s m meth c by' ml own nm ret Z) (X : Stand p l e R s m args below meth c T locs cells slots) {x y : Int32} (hd : decode by' pc = .ok (.iand, 1)) (hq : pc + 1 = q) (k : Run p e below s kc kn Q T (mkF m q Ls (.int (x &&& y) :: st))) : Run p e below s kc kn Q T (mkF m pc Ls (.int y :: .int x :: st)) := by
  subst hq; exact k.by fun t => XS.iand X.here K.1 rfl (hb K.2.1 hd) rfl
theorem k_dup (K : Fx p s m meth c by' ml own nm ret Z) (X : Stand p l e R s m args below meth c T locs cells slots) {v : Value} (hd : decode by' pc = .ok (.dup, 1)) (hc : v.category = 1) (hq : pc + 1 = q) (k : Run p e below s kc kn Q T (mkF m q Ls (v :: v :: st))) : Run p e below s kc kn Q T (mkF m pc Ls (v :: st)) := by
  subst hq; exact k.by fun t => XS.dup X.here K.1 rfl (hb K.2.1 hd) rfl hc
theorem k_goto (K : Fx p s m meth c by' ml own nm ret Z) (X : Stand p l e R s m args below meth c T locs cells slots) {o : Int} (hd : decode by' pc = .ok (.goto o, 3)) (ho : 0 ≤ (pc : Int) + o) (hq : ((pc : Int) + o).toNat = q) (k : Run p e below s kc kn Q T (mkF m q Ls st)) : Run p e below s kc kn Q T (mkF m pc Ls st) := k.by fun t => XS.goto X.here K.1 rfl rfl (hb K.2.1 hd) ho hq
theorem k_if_eq_y (K : Fx p s m meth c by' ml own nm ret Z) (X : Stand p l e R s m args below meth c T locs cells slots) {x : Int32} {o : Int} (hd : decode by' pc = .ok (.ifCond .eq o, 3)) (hc : x = 0) (ho : 0 ≤ (pc : Int) + o) (hq : ((pc : Int) + o).toNat = q) (k : Run p e below s kc kn Q T (mkF m q Ls st)) : Run p e below s kc kn Q T (mkF m pc Ls (.int x :: st)) := k.by fun t => XS.ifYes X.here K.1 rfl rfl (hb K.2.1 hd) rfl ((if0 _ _).trans (teq hc).1) ho hq
theorem k_if_eq_n (K : Fx p s m meth c by' ml own nm ret Z) (X : Stand p l e R s m args below meth c T locs cells slots) {x : Int32} {o : Int} (hd : decode by' pc = .ok (.ifCond .eq o, 3)) (hc : ¬ x = 0) (hq : pc + 3 = q) (k : Run p e below s kc kn Q T (mkF m q Ls st)) : Run p e below s kc kn Q T (mkF m pc Ls (.int x :: st)) := by
  subst hq; exact k.by fun t => XS.ifNo X.here K.1 rfl (hb K.2.1 hd) rfl ((if0 _ _).trans (feq hc).1)
theorem k_if_eq (K : Fx p s m meth c by' ml own nm ret Z) (X : Stand p l e R s m args below meth c T locs cells slots) {x : Int32} {o : Int} (hd : decode by' pc = .ok (.ifCond .eq o, 3)) (ho : 0 ≤ (pc : Int) + o) (hq : ((pc : Int) + o).toNat = q) (hq' : pc + 3 = q') (ky : x = 0 → Run p e below s kc kn Q T (mkF m q Ls st)) (kno : ¬ x = 0 → Run p e below s kc kn Q T (mkF m q' Ls st)) : Run p e below s kc kn Q T (mkF m pc Ls (.int x :: st)) := by
  by_cases hc : x = 0
  · exact k_if_eq_y K X hd hc ho hq (ky hc)
  · exact k_if_eq_n K X hd hc hq' (kno hc)
theorem k_icmp_ne_y (K : Fx p s m meth c by' ml own nm ret Z) (X : Stand p l e R s m args below meth c T locs cells slots) {x y : Int32} {o : Int} (hd : decode by' pc = .ok (.if_icmp .ne o, 3)) (hc : ¬ x = y) (ho : 0 ≤ (pc : Int) + o) (hq : ((pc : Int) + o).toNat = q) (k : Run p e below s kc kn Q T (mkF m q Ls st)) : Run p e below s kc kn Q T (mkF m pc Ls (.int y :: .int x :: st)) := k.by fun t => XS.icmpYes X.here K.1 rfl rfl (hb K.2.1 hd) rfl (feq hc).2 ho hq
theorem k_icmp_ne_n (K : Fx p s m meth c by' ml own nm ret Z) (X : Stand p l e R s m args below meth c T locs cells slots) {x y : Int32} {o : Int} (hd : decode by' pc = .ok (.if_icmp .ne o, 3)) (hc : x = y) (hq : pc + 3 = q) (k : Run p e below s kc kn Q T (mkF m q Ls st)) : Run p e below s kc kn Q T (mkF m pc Ls (.int y :: .int x :: st)) := by
  subst hq; exact k.by fun t => XS.icmpNo X.here K.1 rfl (hb K.2.1 hd) rfl (teq hc).2
theorem k_icmp_ne (K : Fx p s m meth c by' ml own nm ret Z) (X : Stand p l e R s m args below meth c T locs cells slots) {x y : Int32} {o : Int} (hd : decode by' pc = .ok (.if_icmp .ne o, 3)) (ho : 0 ≤ (pc : Int) + o) (hq : ((pc : Int) + o).toNat = q) (hq' : pc + 3 = q') (ky : ¬ x = y → Run p e below s kc kn Q T (mkF m q Ls st)) (kno : x = y → Run p e below s kc kn Q T (mkF m q' Ls st)) : Run p e below s kc kn Q T (mkF m pc Ls (.int y :: .int x :: st)) := by
  by_cases hc : x = y
  · exact k_icmp_ne_n K X hd hc hq' (kno hc)
  · exact k_icmp_ne_y K X hd hc ho hq (ky hc)
theorem k_ifnonnull_y (K : Fx p s m meth c by' ml own nm ret Z) (X : Stand p l e R s m args below meth c T locs cells slots) {a : Addr} {o : Int} (hd : decode by' pc = .ok (.ifnonnull o, 3)) (ho : 0 ≤ (pc : Int) + o) (hq : ((pc : Int) + o).toNat = q) (k : Run p e below s kc kn Q T (mkF m q Ls st)) : Run p e below s kc kn Q T (mkF m pc Ls (.ref a :: st)) := k.by fun t => XS.ifnonnullYes X.here K.1 rfl rfl (hb K.2.1 hd) rfl ho hq
theorem k_ifnonnull_n (K : Fx p s m meth c by' ml own nm ret Z) (X : Stand p l e R s m args below meth c T locs cells slots) {o : Int} (hd : decode by' pc = .ok (.ifnonnull o, 3)) (hq : pc + 3 = q) (k : Run p e below s kc kn Q T (mkF m q Ls st)) : Run p e below s kc kn Q T (mkF m pc Ls (.null :: st)) := by
  subst hq; exact k.by fun t => XS.ifnonnullNo X.here K.1 rfl (hb K.2.1 hd) rfl
theorem k_reti (K : Fx p s m meth c by' ml own nm (some .int) Z) (X : Stand p l e R s m args below meth c T locs cells slots) {x : Int32} (eT : T.heap = h) (hd : decode by' pc = .ok (.ireturn, 1)) (hc : cells ≤ kc) (hn : slots ≤ kn) (hQ : Q (some (.int x)) h locs) : Run p e below s kc kn Q T (mkF m pc Ls [.int x]) := by
  subst eT
  have hlk := K.2.2.2.2.2.2.1
  obtain ⟨fs, hr, hrun, hended, hW, hsame⟩ := X.leave (v := (some (.int x))) (fun z => by rw [K.2.2.2.2.2.1] at z; cases z)
  exact ⟨_, _, X.ireturnOut K.1 K.2.2.2.2.2.1 rfl (Or.inl rfl) (hb K.2.1 hd) hr, hrun, hended, _, _, rfl, hQ, ⟨_, rfl⟩, hW, hsame.mono hc hn⟩
theorem k_retz (K : Fx p s m meth c by' ml own nm (some .boolean) Z) (X : Stand p l e R s m args below meth c T locs cells slots) {x : Int32} (eT : T.heap = h) (hd : decode by' pc = .ok (.ireturn, 1)) (hc : cells ≤ kc) (hn : slots ≤ kn) (hQ : Q (some (.int (nar .boolean x))) h locs) : Run p e below s kc kn Q T (mkF m pc Ls [.int x]) := by
  subst eT
  have hlk := K.2.2.2.2.2.2.1
  obtain ⟨fs, hr, hrun, hended, hW, hsame⟩ := X.leave (v := (some (.int (nar .boolean x)))) (fun z => by rw [K.2.2.2.2.2.1] at z; cases z)
  exact ⟨_, _, retN X K.1 K.2.2.2.2.2.1 (by simp) (hb K.2.1 hd) hr, hrun, hended, _, _, rfl, hQ, ⟨_, rfl⟩, hW, hsame.mono hc hn⟩
theorem k_retv (K : Fx p s m meth c by' ml own nm none Z) (X : Stand p l e R s m args below meth c T locs cells slots)  (eT : T.heap = h) (hd : decode by' pc = .ok (.return_, 1)) (hc : cells ≤ kc) (hn : slots ≤ kn) (hQ : Q none h locs) : Run p e below s kc kn Q T (mkF m pc Ls []) := by
  subst eT
  have hlk := K.2.2.2.2.2.2.1
  obtain ⟨fs, hr, hrun, hended, hW, hsame⟩ := X.leave (v := none) (fun _ => rfl)
  exact ⟨_, _, X.returnOut K.1 K.2.2.2.2.2.1 (hb K.2.1 hd) hr, hrun, hended, _, _, rfl, hQ, ⟨_, rfl⟩, hW, hsame.mono hc hn⟩
/-- a contract: with these arguments over this heap the body returns as Q says, within the room -/
abbrev Met (l : Launch) (y : MethodName) (bytes : ByteArray) (maxL : Nat) (ret : Option FieldType) (ws : List Jvm.Cond) (rm : Room) (Z : State) (as' : Array Value) (h0 : Heap) (Q : Option Value → Heap → List Loc → Prop) : Prop :=
  MetFree l y (head1 (Jvm.Cond.code y bytes maxL ret :: ws) rm) (fun a U => a = as' ∧ Z.Warmed39 U.vm ∧ U.heap = h0) (fun _ _ _ _ _ => True) (fun _ U o U' => ∃ v L, o = .returned v ∧ Q v U'.heap L ∧ FrameEnd U o U' L rm.cells rm.slots)
theorem enter {y : MethodName} {bytes : ByteArray} {maxL : Nat} {ws : List Jvm.Cond} {rm : Room} {as' : Array Value} {h0 : Heap} (hpl : plainFor y = true) (hef : ∀ m, entryFrame m as' maxL = mkF m 0 Ls [])
    (body : ∀ p e s m below meth c T kc kn Q', rm.cells ≤ kc → rm.slots ≤ kn → (∀ v h L, Q v h L → Q' v h L) → Fx p s m meth c bytes maxL y.cls y.name ret Z → Stand p l e rm s m as' below meth c T [] 0 0 → T.heap = h0 → Run p e below s kc kn Q' T (mkF m 0 Ls [])) : Met l y bytes maxL ret ws rm Z as' h0 Q := by
  refine MetFree.of_bodySF hpl hisR ?_
  intro p e s m args below meth c s₁ Bd hml0 hP hK
  obtain ⟨rfl, hZ, hh⟩ := hP
  obtain ⟨t, o, h1, h2, h3, v, L, h4, h5, h6⟩ := body p e s m below meth c s₁ _ _ Q (Nat.le_refl _) (Nat.le_refl _) (fun _ _ _ z => z) ⟨Bd.exec, Bd.bytes, hml0, findClass_of_methodNamed Bd.named, hZ, Bd.returns, BodyLoose.notSynchronized Bd, (name_of_methodNamed Bd.named Bd.method).1⟩ (Stand.of_body Bd) (by rw [← hh, Bd.state]; rfl)
  exact ⟨t, o, castTop (hef m) h1, h2, h3, v, L, h4, h5, h6⟩
theorem k_special (K : Fx p s m meth c by' ml own nm ret Z) (X : Stand p l e R s m args below meth c T locs cells slots) (eT : T.heap = h) {y : MethodName} {bytes : ByteArray} {maxL i W : Nat} {rm : Room} {as' : Array Value} {Q' : Option Value → Heap → List Loc → Prop} {a : Addr}
    (hd : decode by' pc = .ok (.invokespecial i, 3)) (hy1 : y.name = "<init>") (w1 : (Cond.methodLink own i y).before a0 Z = true) (w2 : (Cond.instanceMethod y).before a0 Z = true) (w3 : (Cond.initialized y.cls).before a0 Z = true) (w4 : (Cond.code y bytes maxL none).before a0 Z = true) (hy : y.cls ≠ "java/lang/invoke/MethodHandle" ∧ y.cls ≠ "java/lang/invoke/VarHandle")
    (hM : Met l y bytes maxL none [] rm Z as' h Q') (hf : rm.frames + 1 ≤ R.frames) (hl : W + (maxL + 11) + rm.locals ≤ R.locals) (hc : cells + rm.cells ≤ R.cells) (hn : slots + rm.slots ≤ R.slots) (hsz : Ls.size = ml)
    {sig : MethodDescriptor} (hdesc : parseMethodDescriptor y.desc = some sig) {argsL rest : List Value} (ha : as' = (.ref a :: argsL).toArray) (hlen : argsL.length = sig.parameters.length) (hst : st = argsL.reverse ++ .ref a :: rest) (hW : (rest.map fun v => v.category).sum ≤ W) (hq : pc + 3 = q)
    (k : ∀ v T' L, Stand p l e R s m args below meth c T' (locs ++ L) (cells + rm.cells) (slots + rm.slots) → Q' v T'.heap L → Run p e below s kc kn Q T' (mkF m q Ls (v.toList ++ rest))) : Run p e below s kc kn Q T (mkF m pc Ls st) := by
  have hZ := K.2.2.2.2.1
  subst hq
  obtain ⟨v, _, ⟨T2, L2, k2, n2⟩, -, X2, ⟨Lc, hQ2, l2, y2, z2⟩, st2⟩ := X.specialBack K.1 (y := y) hy1 K.2.2.2.1 (mvT hZ w1) (mvT hZ w2) (mvT hZ w4) hy (backOf (W := W) hM hZ w4 w3 hf hl) (g := mkF m pc Ls st) rfl (by rw [K.2.2.1]; exact hsz) (Steps.refl _) (a := a) (argsL := argsL) (rest := rest) (fun sg hs => by cases hdesc.symm.trans hs; exact hlen) hst (by show 2 * 0 + _ ≤ _; omega) (hb K.2.1 hd) (fun _ _ => ⟨ha.symm, eT, hc, hn⟩)
  dsimp only [Pt.U, Pt.locs, Pt.cells, Pt.slots] at X2 l2 y2 z2 st2 hQ2
  subst l2 y2 z2
  exact (k v T2 Lc X2 hQ2).on st2
theorem k_virtual (K : Fx p s m meth c by' ml own nm ret Z) (X : Stand p l e R s m args below meth c T locs cells slots) (eT : T.heap = h) {y : MethodName} {bytes : ByteArray} {maxL i W : Nat} {rt : Option FieldType} {rm : Room} {as' : Array Value} {Q' : Option Value → Heap → List Loc → Prop} {a : Addr}
    (hd : decode by' pc = .ok (.invokevirtual i, 3)) (w1 : (Cond.methodLink own i y).before a0 Z = true) (w2 : (Cond.declares y).before a0 Z = true) (w5 : (Cond.selects y.cls y y).before a0 Z = true) (w6 : (Cond.instanceMethod y).before a0 Z = true) (w3 : (Cond.initialized y.cls).before a0 Z = true) (w4 : (Cond.code y bytes maxL rt).before a0 Z = true) (hy : y.cls ≠ "java/lang/invoke/MethodHandle" ∧ y.cls ≠ "java/lang/invoke/VarHandle")
    (hE : Exa Z h a y.cls) (hM : Met l y bytes maxL rt [] rm Z as' h Q') (hf : rm.frames + 1 ≤ R.frames) (hl : W + (maxL + 11) + rm.locals ≤ R.locals) (hc : cells + rm.cells ≤ R.cells) (hn : slots + rm.slots ≤ R.slots) (hsz : Ls.size = ml)
    {sig : MethodDescriptor} (hdesc : parseMethodDescriptor y.desc = some sig) {argsL rest : List Value} (ha : as' = (.ref a :: argsL).toArray) (hlen : argsL.length = sig.parameters.length) (hst : st = argsL.reverse ++ .ref a :: rest) (hW : (rest.map fun v => v.category).sum ≤ W) (hq : pc + 3 = q)
    (k : ∀ v T' L, Stand p l e R s m args below meth c T' (locs ++ L) (cells + rm.cells) (slots + rm.slots) → Q' v T'.heap L → Run p e below s kc kn Q T' (mkF m q Ls (v.toList ++ rest))) : Run p e below s kc kn Q T (mkF m pc Ls st) := by
  have hZ := K.2.2.2.2.1
  subst hq
  obtain ⟨cq, kq, qa, qb, qc⟩ := isOf hZ eT hE
  obtain ⟨v, _, ⟨T2, L2, k2, n2⟩, -, X2, ⟨Lc, hQ2, l2, y2, z2⟩, st2⟩ := X.virtualBack K.1 (y := y) (z := y) K.2.2.2.1 (mvT hZ w1) (mvT hZ w2) (notFace_of_selects (args := #[]) (mvT hZ w5)) (mvT hZ w5) (mvT hZ w6) hy (backOf (W := W) hM hZ w4 w3 hf hl) qa qc (g := mkF m pc Ls st) rfl (by rw [K.2.2.1]; exact hsz) (Steps.refl _) (argsL := argsL) (rest := rest) (fun sg hs => by cases hdesc.symm.trans hs; exact hlen) hst (by show 2 * 0 + _ ≤ _; omega) (hb K.2.1 hd) (fun _ _ => ⟨ha.symm, eT, hc, hn⟩)
  dsimp only [Pt.U, Pt.locs, Pt.cells, Pt.slots] at X2 l2 y2 z2 st2 hQ2
  subst l2 y2 z2
  exact (k v T2 Lc X2 hQ2).on st2
theorem k_initO (K : Fx p s m meth c by' ml own nm ret Z) (X : Stand p l e R s m args below meth c T locs cells slots) (eT : T.heap = h) {i W : Nat} {a : Addr} (hd : decode by' pc = .ok (.invokespecial i, 3)) (w1 : (Cond.methodLink own i Lib.objectInit).before a0 Z = true) (w2 : (Cond.instanceMethod Lib.objectInit).before a0 Z = true) (w3 : (Cond.code Lib.objectInit ⟨#[0xb1]⟩ 1 none).before a0 Z = true)
    (hsz : Ls.size = ml) (hf : 1 ≤ R.frames) (hW : (st.map fun v => v.category).sum ≤ W) (hl : W + 12 ≤ R.locals) (hq : pc + 3 = q)
    (k : ∀ T', Stand p l e R s m args below meth c T' locs cells slots → T'.heap = h → Run p e below s kc kn Q T' (mkF m q Ls st)) : Run p e below s kc kn Q T (mkF m pc Ls (.ref a :: st)) := by
  subst hq
  obtain ⟨T2, X2, e2, st2⟩ := initO X K.1 K.2.2.2.2.1 K.2.2.2.1 w1 w2 w3 eT (g := mkF m pc Ls (.ref a :: st)) rfl (by rw [K.2.2.1]; exact hsz) rfl (hb K.2.1 hd) hf (W := W) (by show 2 * 0 + _ ≤ _; omega) hl
  exact (k T2 X2 e2).by st2
theorem k_new (K : Fx p s m meth c by' ml own nm ret Z) (X : Stand p l e R s m args below meth c T locs cells slots) (eT : T.heap = h) {i n : Nat} {C : String} (hd : decode by' pc = .ok (.new i, 3)) (w1 : (Cond.classLink own i C).before a0 Z = true) (w2 : (Cond.instantiable C n).before a0 Z = true) (w3 : (Cond.initialized C).before a0 Z = true) (hc : cells + 1 ≤ R.cells) (hn : slots + n ≤ R.slots) (hq : pc + 3 = q)
    (k : ∀ T' h' a, Stand p l e R s m args below meth c T' locs (cells + 1) (slots + n) → T'.heap = h' → a = h.size → Ext h h' → Exa Z h' a C → (∀ {O fn d : String} {ty : FieldType}, Laid Z a0 C O fn d → parseFieldDescriptor d = some ty → Fld Z h' a O fn d (defaultValue ty)) → Run p e below s kc kn Q T' (mkF m q Ls (.ref a :: st))) : Run p e below s kc kn Q T (mkF m pc Ls st) := by
  subst hq
  obtain ⟨T2, h2, X2, e2, E2, A2, D2, -, st2⟩ := newO X K.1 K.2.2.2.2.1 K.2.2.2.1 w1 w2 w3 eT (g := mkF m pc Ls st) rfl (hb K.2.1 hd) hc hn
  exact (k T2 h2 h.size X2 e2 rfl E2 A2 D2).by st2
theorem k_getfield (K : Fx p s m meth c by' ml own nm ret Z) (X : Stand p l e R s m args below meth c T locs cells slots) (eT : T.heap = h) {i : Nat} {O fn d : String} {a : Addr} {v : Value} (hd : decode by' pc = .ok (.getfield i, 3)) (w : (Cond.fieldLink own i O fn d).before a0 Z = true) (F : Fld Z h a O fn d v) (hq : pc + 3 = q)
    (k : ∀ T', Stand p l e R s m args below meth c T' locs cells slots → T'.heap = h → Run p e below s kc kn Q T' (mkF m q Ls (v :: st))) : Run p e below s kc kn Q T (mkF m pc Ls (.ref a :: st)) := by
  subst hq
  obtain ⟨T2, X2, e2, st2⟩ := getF X K.1 K.2.2.2.2.1 K.2.2.2.1 (host := "") (Or.inl w) Via.refl eT F (g := mkF m pc Ls (.ref a :: st)) rfl rfl (hb K.2.1 hd)
  exact (k T2 X2 e2).by st2
theorem k_putfield (K : Fx p s m meth c by' ml own nm ret Z) (X : Stand p l e R s m args below meth c T locs cells slots) (eT : T.heap = h) {i n : Nat} {O C fn d : String} {ty : FieldType} {a : Addr} {v old : Value} (hd : decode by' pc = .ok (.putfield i, 3)) (w : (Cond.fieldLink own i O fn d).before a0 Z = true) (F : Fld Z h a O fn d old) (E : Exa Z h a C) (L : (Cond.lays C O fn d).before a0 Z = true ∨ ((Cond.laysFinal C O fn d).before a0 Z = true ∧ own = O ∧ nm = "<init>")) (wi : (Cond.instantiable C n).before a0 Z = true)
    (hty : parseFieldDescriptor d = some ty) (hnar : narrow ty v = v) (hfit : fits ty v = true) (hq : pc + 3 = q)
    (k : ∀ T' h', Stand p l e R s m args below meth c T' (locs ++ [⟨a, Jvm.RoadKit.slotOf Z O fn d⟩]) cells slots → T'.heap = h' → Wr h h' a (Jvm.RoadKit.slotOf Z O fn d) v → Run p e below s kc kn Q T' (mkF m q Ls st)) : Run p e below s kc kn Q T (mkF m pc Ls (v :: .ref a :: st)) := by
  subst hq
  obtain ⟨T2, h2, X2, e2, W2, st2⟩ := putF X K.1 K.2.2.2.2.1 K.2.2.2.1 (host := "") (Or.inl w) Via.refl eT F E (L.imp id fun z => ⟨z.1, z.2.1, K.2.2.2.2.2.2.2.trans z.2.2⟩) wi hty hnar hfit (g := mkF m pc Ls (v :: .ref a :: st)) rfl rfl (hb K.2.1 hd)
  exact (k T2 h2 X2 e2 W2).by st2
/-- an instance method that leaves the heap as it was -/
theorem k_virtualP (K : Fx p s m meth c by' ml own nm ret Z) (X : Stand p l e R s m args below meth c T locs cells slots) (eT : T.heap = h) {y : MethodName} {bytes : ByteArray} {maxL i W fr lo : Nat} {rt : Option FieldType} {as' : Array Value} {w : Value} {a : Addr}
    (hd : decode by' pc = .ok (.invokevirtual i, 3)) (w1 : (Cond.methodLink own i y).before a0 Z = true) (w2 : (Cond.declares y).before a0 Z = true) (w5 : (Cond.selects y.cls y y).before a0 Z = true) (w6 : (Cond.instanceMethod y).before a0 Z = true) (w3 : (Cond.initialized y.cls).before a0 Z = true) (w4 : (Cond.code y bytes maxL rt).before a0 Z = true) (hy : y.cls ≠ "java/lang/invoke/MethodHandle" ∧ y.cls ≠ "java/lang/invoke/VarHandle")
    (hE : Exa Z h a y.cls) (hM : Met l y bytes maxL rt [] { frames := fr, cells := 0, slots := 0, locals := lo } Z as' h (fun v h' L => v = some w ∧ h' = h ∧ L = [])) (hf : fr + 1 ≤ R.frames) (hl : W + (maxL + 11) + lo ≤ R.locals) (hc : cells ≤ R.cells) (hn : slots ≤ R.slots) (hsz : Ls.size = ml)
    {sig : MethodDescriptor} (hdesc : parseMethodDescriptor y.desc = some sig) {argsL rest : List Value} (ha : as' = (.ref a :: argsL).toArray) (hlen : argsL.length = sig.parameters.length) (hst : st = argsL.reverse ++ .ref a :: rest) (hW : (rest.map fun v => v.category).sum ≤ W) (hq : pc + 3 = q)
    (k : ∀ T', Stand p l e R s m args below meth c T' locs cells slots → T'.heap = h → Run p e below s kc kn Q T' (mkF m q Ls (w :: rest))) : Run p e below s kc kn Q T (mkF m pc Ls st) := by
  refine k_virtual K X eT hd w1 w2 w5 w6 w3 w4 hy hE hM hf hl hc hn hsz hdesc ha hlen hst hW hq ?_
  rintro v T' L X' ⟨rfl, h2, rfl⟩
  rw [List.append_nil] at X'
  exact k T' X' h2
/-- an array of n places; place i holds g i -/
def Ary (Z : State) (h : Heap) (a : Addr) (ty : FieldType) (n : Nat) (g : Nat → Value) : Prop := ∃ c : Cell, Arr Z h a c ty ∧ c.slots.size = n ∧ n < 2147483648 ∧ (∀ i, i < n → c.slots[i]? = some (g i)) ∧ ∀ i, i < n → fits ty (g i) = true
theorem Ary.lt {a : Addr} {ty : FieldType} {n : Nat} {g : Nat → Value} (F : Ary Z h a ty n g) : a < h.size := by obtain ⟨c, A, -⟩ := F; exact A.lt
theorem Ary.ext {h' : Heap} {a : Addr} {ty : FieldType} {n : Nat} {g : Nat → Value} (F : Ary Z h a ty n g) (E : Ext h h') : Ary Z h' a ty n g := by obtain ⟨c, A, r⟩ := F; exact ⟨c, A.ext E, r⟩
theorem Ary.other {h' : Heap} {a b : Addr} {ty : FieldType} {n sl : Nat} {v : Value} {g : Nat → Value} (F : Ary Z h b ty n g) (W : Wr h h' a sl v) (q : b ≠ a) : Ary Z h' b ty n g := by obtain ⟨c, A, r⟩ := F; exact ⟨c, A.other W q, r⟩
theorem Ary.keep {h' : Heap} {a : Addr} {ty : FieldType} {n : Nat} {g : Nat → Value} {ws : List Addr} (F : Ary Z h a ty n g) (K : Keep h h' ws) (q : a ∉ ws) : Ary Z h' a ty n g := by obtain ⟨c, A, r⟩ := F; exact ⟨c, ⟨K.2.1 a c A.1 q, A.2⟩, r⟩
/-- the int j is the place i -/
def Ix (j : Int32) (i : Nat) : Prop := ¬ j < 0 ∧ j.toNatClampNeg = i
theorem Ix.of {j : Int32} {i : Nat} (h : j.toInt = i) : Ix j i := by
  refine ⟨?_, ?_⟩
  · rw [Int32.lt_iff_toInt_lt, h]; have : (0 : Int32).toInt = 0 := rfl
    omega
  · simp only [Int32.toNatClampNeg, h]; omega
theorem k_arraylength (K : Fx p s m meth c by' ml own nm ret Z) (X : Stand p l e R s m args below meth c T locs cells slots) (eT : T.heap = h) {a : Addr} {ty : FieldType} {n : Nat} {g : Nat → Value} {v : Int32} (hd : decode by' pc = .ok (.arraylength, 1)) (A : Ary Z h a ty n g) (hv : n.toInt32 = v) (hq : pc + 1 = q) (k : Run p e below s kc kn Q T (mkF m q Ls (.int v :: st))) : Run p e below s kc kn Q T (mkF m pc Ls (.ref a :: st)) := by
  subst hq hv
  obtain ⟨c', A, r1, r2, r3, -⟩ := A
  subst r1
  exact k.by fun t => X.arraylength K.1 (by rw [eT]; exact A.1) (State.isArrayOf_alike K.2.2.2.2.1.alike A.2.1) (g := mkF m pc Ls (.ref a :: st)) rfl rfl (hb K.2.1 hd) t
theorem k_newarray (K : Fx p s m meth c by' ml own nm ret Z) (X : Stand p l e R s m args below meth c T locs cells slots) (eT : T.heap = h) {aty : ArrayType} {ty : FieldType} {z : Int32} {n cap : Nat} (hd : decode by' pc = .ok (.newarray aty, 2)) (hty : newarray.typeOf aty = ty) (w : (Cond.arrayClass ty).before a0 Z = true) (hz : Ix z n) (hcap : n ≤ cap) (h8 : cap * 8 ≤ 536870912) (hc : cells + 1 ≤ R.cells) (hn : slots + cap ≤ R.slots) (hq : pc + 2 = q)
    (k : ∀ T' h' a, Stand p l e R s m args below meth c T' locs (cells + 1) (slots + cap) → T'.heap = h' → a = h.size → Ext h h' → Ary Z h' a ty n (fun _ => defaultValue ty) → Run p e below s kc kn Q T' (mkF m q Ls (.ref a :: st))) : Run p e below s kc kn Q T (mkF m pc Ls (.int z :: st)) := by
  subst hq hty
  obtain ⟨T2, h2, cA, X2, e2, E2, A2, st2⟩ := newP X K.1 K.2.2.2.2.1 w eT (g := mkF m pc Ls (.int z :: st)) rfl (hb K.2.1 hd) rfl hz.1 (cap := cap) (by rw [hz.2]; exact hcap) h8 hc hn
  refine (k T2 h2 h.size X2 e2 rfl E2 ⟨_, A2, (sz_new _ _ _).trans hz.2, by omega, fun i hi => ?_, fun i _ => ?_⟩).by st2
  · rw [← hz.2] at hi; simp [newA, hi]
  · cases aty <;> rfl
end OwnKit

theorem wd {Z : State} {az : Array Value} (hw : ∀ d ∈ tables_1, d.before az Z = true) (k : Nat) {d : Jvm.Cond} (h : tables_1[k]? = some d) : d.before az Z = true := hw _ (List.mem_of_getElem? h)
theorem d1_0 : decode prog_8_method_1_code 0 = .ok (.aload_n 0, 1) := by decide +kernel
theorem d1_1 : decode prog_8_method_1_code 1 = .ok (.invokespecial 1, 3) := by decide +kernel
theorem d1_4 : decode prog_8_method_1_code 4 = .ok (.aload_n 0, 1) := by decide +kernel
theorem d1_5 : decode prog_8_method_1_code 5 = .ok (.aload_n 1, 1) := by decide +kernel
theorem d1_6 : decode prog_8_method_1_code 6 = .ok (.putfield 7, 3) := by decide +kernel
theorem d1_9 : decode prog_8_method_1_code 9 = .ok (.aload_n 0, 1) := by decide +kernel
theorem d1_10 : decode prog_8_method_1_code 10 = .ok (.aload_n 2, 1) := by decide +kernel
theorem d1_11 : decode prog_8_method_1_code 11 = .ok (.putfield 13, 3) := by decide +kernel
theorem d1_14 : decode prog_8_method_1_code 14 = .ok (.return_, 1) := by decide +kernel
theorem ef_1 (a0 : Addr) (a1 : Addr) (a2 : Addr) : ∀ m : MethodId, entryFrame m #[(.ref a0), (.ref a1), (.ref a2)] 3 = mkF m 0 #[.val (.ref a0), .val (.ref a1), .val (.ref a2)] [] := by intro m; first | (simp [entryFrame, mkF, argsToLocals, Value.category]; done) | rfl
theorem pn_0 : plainName "com/example/adiq/adiq/broker/SentMessage" = true := by first | (simp [plainName, overriddenIn]; done) | decide +kernel
set_option maxRecDepth 65536 in
set_option maxHeartbeats 40000000 in
theorem rm1 (l : Launch) (Z : State) (az : Array Value) (hw : ∀ d ∈ tables_1, d.before az Z = true) (ws : List Jvm.Cond) (a0 : Addr) (a1 : Addr) (a2 : Addr) (w_a0_key : Value) (w_a0_payload : Value) (h0 : Heap) (n0 : Nat) (Z0 : n0 ≤ h0.size) (E_a0 : Exa Z h0 a0 "com/example/adiq/adiq/broker/SentMessage") (F_a0_key : Fld Z h0 a0 "com/example/adiq/adiq/broker/SentMessage" "key" "[B" w_a0_key) (g_a0 : n0 ≤ a0) (F_a0_payload : Fld Z h0 a0 "com/example/adiq/adiq/broker/SentMessage" "payload" "[B" w_a0_payload) :
    Met l (⟨"com/example/adiq/adiq/broker/SentMessage", "<init>", "([B[B)V"⟩ : MethodName) prog_8_method_1_code 3 none ws ({ frames := 1, cells := 0, slots := 0, locals := 12 } : Room) Z #[(.ref a0), (.ref a1), (.ref a2)] h0 (fun v h' L => v = none ∧ Fr n0 L ∧ Keep h0 h' [a0] ∧ Fld Z h' a0 "com/example/adiq/adiq/broker/SentMessage" "key" "[B" (.ref a1) ∧ Fld Z h' a0 "com/example/adiq/adiq/broker/SentMessage" "payload" "[B" (.ref a2)) := by
  refine enter (plainFor_of_name pn_0) (ef_1 a0 a1 a2) ?_
  intro p e s m below meth c T0 kc kn Q hkc hkn hQ K' X0 e0
  have K : Fx p s m meth c prog_8_method_1_code 3 "com/example/adiq/adiq/broker/SentMessage" "<init>" none Z := K'
  have N0 := Fr.nil n0
  have K0 : Keep h0 h0 [a0] := Keep.refl _ _
  refine k_aloadN K X0 d1_0 rfl rfl (q := 1) rfl ?_
  refine k_initO K X0 e0 d1_1 (wd hw 7 rfl) (wd hw 8 rfl) (wd hw 9 rfl) rfl (by decide) (W := 0) (Nat.le_of_eq rfl) (by decide) (q := 4) rfl ?_
  intro T23 X24 e25
  refine k_aloadN K X24 d1_4 rfl rfl (q := 5) rfl ?_
  refine k_aloadN K X24 d1_5 rfl rfl (q := 6) rfl ?_
  refine k_putfield K X24 e25 d1_6 (wd hw 10 rfl) F_a0_key E_a0 (Or.inr ⟨(wd hw 11 rfl), rfl, rfl⟩) (wd hw 2 rfl) (ty := (.array .byte)) (by decide) rfl rfl (q := 9) rfl ?_
  intro T26 h27 X28 e29 W30
  have f31 := Fld.same W30 F_a0_key
  have f32 := Exa.wr W30 E_a0
  have f33 := Fld.other W30 F_a0_payload (Or.inr (slot_ne (Or.inr (wd hw 13 rfl)) (Or.inr (wd hw 11 rfl)) (by decide) (t := (.array .byte)) (t' := (.array .byte)) (by decide) (by decide)))
  have N34 := Fr.snoc X28 N0 g_a0
  have K35 := Keep.wr K0 W30 (Or.inl (List.mem_of_getElem? (i := 0) rfl))
  have Z36 := Nat.le_trans Z0 (Nat.le_of_eq (Wr.size W30).symm)
  refine k_aloadN K X28 d1_9 rfl rfl (q := 10) rfl ?_
  refine k_aloadN K X28 d1_10 rfl rfl (q := 11) rfl ?_
  refine k_putfield K X28 e29 d1_11 (wd hw 12 rfl) f33 f32 (Or.inr ⟨(wd hw 13 rfl), rfl, rfl⟩) (wd hw 2 rfl) (ty := (.array .byte)) (by decide) rfl rfl (q := 14) rfl ?_
  intro T37 h38 X39 e40 W41
  have f42 := Fld.same W41 f33
  have f43 := Exa.wr W41 f32
  have f44 := Fld.other W41 f31 (Or.inr (slot_ne (Or.inr (wd hw 11 rfl)) (Or.inr (wd hw 13 rfl)) (by decide) (t := (.array .byte)) (t' := (.array .byte)) (by decide) (by decide)))
  have N45 := Fr.snoc X39 N34 g_a0
  have K46 := Keep.wr K35 W41 (Or.inl (List.mem_of_getElem? (i := 0) rfl))
  have Z47 := Nat.le_trans Z36 (Nat.le_of_eq (Wr.size W41).symm)
  exact k_retv K X39 e40 d1_14 (Nat.le_trans (by decide) hkc) (Nat.le_trans (by decide) hkn) (hQ _ _ _ ⟨rfl, N45, K46, f44, f42⟩)
theorem ef_1n (a0 : Addr) (a2 : Addr) : ∀ m : MethodId, entryFrame m #[(.ref a0), .null, (.ref a2)] 3 = mkF m 0 #[.val (.ref a0), .val .null, .val (.ref a2)] [] := by intro m; first | (simp [entryFrame, mkF, argsToLocals, Value.category]; done) | rfl
set_option maxRecDepth 65536 in
set_option maxHeartbeats 40000000 in
theorem rm1n (l : Launch) (Z : State) (az : Array Value) (hw : ∀ d ∈ tables_1, d.before az Z = true) (ws : List Jvm.Cond) (a0 : Addr) (a2 : Addr) (w_a0_key : Value) (w_a0_payload : Value) (h0 : Heap) (n0 : Nat) (Z0 : n0 ≤ h0.size) (E_a0 : Exa Z h0 a0 "com/example/adiq/adiq/broker/SentMessage") (F_a0_key : Fld Z h0 a0 "com/example/adiq/adiq/broker/SentMessage" "key" "[B" w_a0_key) (g_a0 : n0 ≤ a0) (F_a0_payload : Fld Z h0 a0 "com/example/adiq/adiq/broker/SentMessage" "payload" "[B" w_a0_payload) :
    Met l (⟨"com/example/adiq/adiq/broker/SentMessage", "<init>", "([B[B)V"⟩ : MethodName) prog_8_method_1_code 3 none ws ({ frames := 1, cells := 0, slots := 0, locals := 12 } : Room) Z #[(.ref a0), .null, (.ref a2)] h0 (fun v h' L => v = none ∧ Fr n0 L ∧ Keep h0 h' [a0] ∧ Fld Z h' a0 "com/example/adiq/adiq/broker/SentMessage" "key" "[B" .null ∧ Fld Z h' a0 "com/example/adiq/adiq/broker/SentMessage" "payload" "[B" (.ref a2)) := by
  refine enter (plainFor_of_name pn_0) (ef_1n a0 a2) ?_
  intro p e s m below meth c T0 kc kn Q hkc hkn hQ K' X0 e0
  have K : Fx p s m meth c prog_8_method_1_code 3 "com/example/adiq/adiq/broker/SentMessage" "<init>" none Z := K'
  have N0 := Fr.nil n0
  have K0 : Keep h0 h0 [a0] := Keep.refl _ _
  refine k_aloadN K X0 d1_0 rfl rfl (q := 1) rfl ?_
  refine k_initO K X0 e0 d1_1 (wd hw 7 rfl) (wd hw 8 rfl) (wd hw 9 rfl) rfl (by decide) (W := 0) (Nat.le_of_eq rfl) (by decide) (q := 4) rfl ?_
  intro T70 X71 e72
  refine k_aloadN K X71 d1_4 rfl rfl (q := 5) rfl ?_
  refine k_aloadN K X71 d1_5 rfl rfl (q := 6) rfl ?_
  refine k_putfield K X71 e72 d1_6 (wd hw 10 rfl) F_a0_key E_a0 (Or.inr ⟨(wd hw 11 rfl), rfl, rfl⟩) (wd hw 2 rfl) (ty := (.array .byte)) (by decide) rfl rfl (q := 9) rfl ?_
  intro T73 h74 X75 e76 W77
  have f78 := Fld.same W77 F_a0_key
  have f79 := Exa.wr W77 E_a0
  have f80 := Fld.other W77 F_a0_payload (Or.inr (slot_ne (Or.inr (wd hw 13 rfl)) (Or.inr (wd hw 11 rfl)) (by decide) (t := (.array .byte)) (t' := (.array .byte)) (by decide) (by decide)))
  have N81 := Fr.snoc X75 N0 g_a0
  have K82 := Keep.wr K0 W77 (Or.inl (List.mem_of_getElem? (i := 0) rfl))
  have Z83 := Nat.le_trans Z0 (Nat.le_of_eq (Wr.size W77).symm)
  refine k_aloadN K X75 d1_9 rfl rfl (q := 10) rfl ?_
  refine k_aloadN K X75 d1_10 rfl rfl (q := 11) rfl ?_
  refine k_putfield K X75 e76 d1_11 (wd hw 12 rfl) f80 f79 (Or.inr ⟨(wd hw 13 rfl), rfl, rfl⟩) (wd hw 2 rfl) (ty := (.array .byte)) (by decide) rfl rfl (q := 14) rfl ?_
  intro T84 h85 X86 e87 W88
  have f89 := Fld.same W88 f80
  have f90 := Exa.wr W88 f79
  have f91 := Fld.other W88 f78 (Or.inr (slot_ne (Or.inr (wd hw 11 rfl)) (Or.inr (wd hw 13 rfl)) (by decide) (t := (.array .byte)) (t' := (.array .byte)) (by decide) (by decide)))
  have N92 := Fr.snoc X86 N81 g_a0
  have K93 := Keep.wr K82 W88 (Or.inl (List.mem_of_getElem? (i := 0) rfl))
  have Z94 := Nat.le_trans Z83 (Nat.le_of_eq (Wr.size W88).symm)
  exact k_retv K X86 e87 d1_14 (Nat.le_trans (by decide) hkc) (Nat.le_trans (by decide) hkn) (hQ _ _ _ ⟨rfl, N92, K93, f91, f89⟩)
theorem d3_0 : decode prog_8_method_4_code 0 = .ok (.aload_n 0, 1) := by decide +kernel
theorem d3_1 : decode prog_8_method_4_code 1 = .ok (.getfield 7, 3) := by decide +kernel
theorem d3_4 : decode prog_8_method_4_code 4 = .ok (.ifnonnull 7, 3) := by decide +kernel
theorem d3_11 : decode prog_8_method_4_code 11 = .ok (.aload_n 0, 1) := by decide +kernel
theorem d3_12 : decode prog_8_method_4_code 12 = .ok (.getfield 7, 3) := by decide +kernel
theorem d3_15 : decode prog_8_method_4_code 15 = .ok (.arraylength, 1) := by decide +kernel
theorem d3_16 : decode prog_8_method_4_code 16 = .ok (.aload_n 0, 1) := by decide +kernel
theorem d3_17 : decode prog_8_method_4_code 17 = .ok (.getfield 13, 3) := by decide +kernel
theorem d3_20 : decode prog_8_method_4_code 20 = .ok (.arraylength, 1) := by decide +kernel
theorem d3_21 : decode prog_8_method_4_code 21 = .ok (.iadd, 1) := by decide +kernel
theorem d3_22 : decode prog_8_method_4_code 22 = .ok (.ireturn, 1) := by decide +kernel
theorem ef_3 (a0 : Addr) : ∀ m : MethodId, entryFrame m #[(.ref a0)] 1 = mkF m 0 #[.val (.ref a0)] [] := by intro m; first | (simp [entryFrame, mkF, argsToLocals, Value.category]; done) | rfl
def F_length (n_w_a0_key : Nat) (g_w_a0_key : Nat → Int32) (n_w_a0_payload : Nat) (g_w_a0_payload : Nat → Int32) : Int32 :=
  ((Nat.toInt32 n_w_a0_key) + (Nat.toInt32 n_w_a0_payload))
set_option maxRecDepth 65536 in
set_option maxHeartbeats 40000000 in
theorem rm3 (l : Launch) (Z : State) (az : Array Value) (hw : ∀ d ∈ tables_1, d.before az Z = true) (ws : List Jvm.Cond) (a0 : Addr) (w_a0_key : Addr) (n_w_a0_key : Nat) (g_w_a0_key : Nat → Int32) (w_a0_payload : Addr) (n_w_a0_payload : Nat) (g_w_a0_payload : Nat → Int32) (h0 : Heap) (F_a0_key : Fld Z h0 a0 "com/example/adiq/adiq/broker/SentMessage" "key" "[B" (.ref w_a0_key)) (A_w_a0_key : Ary Z h0 w_a0_key .byte n_w_a0_key (fun i => Value.int (g_w_a0_key i))) (F_a0_payload : Fld Z h0 a0 "com/example/adiq/adiq/broker/SentMessage" "payload" "[B" (.ref w_a0_payload)) (A_w_a0_payload : Ary Z h0 w_a0_payload .byte n_w_a0_payload (fun i => Value.int (g_w_a0_payload i))) :
    Met l (⟨"com/example/adiq/adiq/broker/SentMessage", "length", "()I"⟩ : MethodName) prog_8_method_4_code 1 (some .int) ws ({ frames := 0, cells := 0, slots := 0, locals := 0 } : Room) Z #[(.ref a0)] h0 (fun v h' L => v = some (Value.int (F_length n_w_a0_key g_w_a0_key n_w_a0_payload g_w_a0_payload)) ∧ h' = h0 ∧ L = []) := by
  refine enter (plainFor_of_name pn_0) (ef_3 a0) ?_
  intro p e s m below meth c T0 kc kn Q hkc hkn hQ K' X0 e0
  have K : Fx p s m meth c prog_8_method_4_code 1 "com/example/adiq/adiq/broker/SentMessage" "length" (some .int) Z := K'
  refine k_aloadN K X0 d3_0 rfl rfl (q := 1) rfl ?_
  refine k_getfield K X0 e0 d3_1 (wd hw 10 rfl) F_a0_key (q := 4) rfl ?_
  intro T116 X117 e118
  refine k_ifnonnull_y K X117 d3_4 (by decide) (q := 11) rfl ?_
  refine k_aloadN K X117 d3_11 rfl rfl (q := 12) rfl ?_
  refine k_getfield K X117 e118 d3_12 (wd hw 10 rfl) F_a0_key (q := 15) rfl ?_
  intro T119 X120 e121
  refine k_arraylength K X120 e121 d3_15 A_w_a0_key (v := (Nat.toInt32 n_w_a0_key)) rfl (q := 16) rfl ?_
  refine k_aloadN K X120 d3_16 rfl rfl (q := 17) rfl ?_
  refine k_getfield K X120 e121 d3_17 (wd hw 12 rfl) F_a0_payload (q := 20) rfl ?_
  intro T122 X123 e124
  refine k_arraylength K X123 e124 d3_20 A_w_a0_payload (v := (Nat.toInt32 n_w_a0_payload)) rfl (q := 21) rfl ?_
  refine k_iadd K X123 d3_21 (q := 22) rfl ?_
  exact k_reti K X123 e124 d3_22 (Nat.le_trans (by decide) hkc) (Nat.le_trans (by decide) hkn) (hQ _ _ _ ⟨(by show some (Value.int ((Nat.toInt32 n_w_a0_key) + (Nat.toInt32 n_w_a0_payload))) = some (Value.int (F_length n_w_a0_key g_w_a0_key n_w_a0_payload g_w_a0_payload)); simp only [F_length]), rfl, rfl⟩)
theorem d3_7 : decode prog_8_method_4_code 7 = .ok (.iconst 0, 1) := by decide +kernel
theorem d3_8 : decode prog_8_method_4_code 8 = .ok (.goto 8, 3) := by decide +kernel
theorem ef_3n (a0 : Addr) : ∀ m : MethodId, entryFrame m #[(.ref a0)] 1 = mkF m 0 #[.val (.ref a0)] [] := by intro m; first | (simp [entryFrame, mkF, argsToLocals, Value.category]; done) | rfl
def F_lengthn (n_w_a0_payload : Nat) (g_w_a0_payload : Nat → Int32) : Int32 :=
  ((0 : Int32) + (Nat.toInt32 n_w_a0_payload))
set_option maxRecDepth 65536 in
set_option maxHeartbeats 40000000 in
theorem rm3n (l : Launch) (Z : State) (az : Array Value) (hw : ∀ d ∈ tables_1, d.before az Z = true) (ws : List Jvm.Cond) (a0 : Addr) (w_a0_payload : Addr) (n_w_a0_payload : Nat) (g_w_a0_payload : Nat → Int32) (h0 : Heap) (F_a0_key : Fld Z h0 a0 "com/example/adiq/adiq/broker/SentMessage" "key" "[B" .null) (F_a0_payload : Fld Z h0 a0 "com/example/adiq/adiq/broker/SentMessage" "payload" "[B" (.ref w_a0_payload)) (A_w_a0_payload : Ary Z h0 w_a0_payload .byte n_w_a0_payload (fun i => Value.int (g_w_a0_payload i))) :
    Met l (⟨"com/example/adiq/adiq/broker/SentMessage", "length", "()I"⟩ : MethodName) prog_8_method_4_code 1 (some .int) ws ({ frames := 0, cells := 0, slots := 0, locals := 0 } : Room) Z #[(.ref a0)] h0 (fun v h' L => v = some (Value.int (F_lengthn n_w_a0_payload g_w_a0_payload)) ∧ h' = h0 ∧ L = []) := by
  refine enter (plainFor_of_name pn_0) (ef_3n a0) ?_
  intro p e s m below meth c T0 kc kn Q hkc hkn hQ K' X0 e0
  have K : Fx p s m meth c prog_8_method_4_code 1 "com/example/adiq/adiq/broker/SentMessage" "length" (some .int) Z := K'
  refine k_aloadN K X0 d3_0 rfl rfl (q := 1) rfl ?_
  refine k_getfield K X0 e0 d3_1 (wd hw 10 rfl) F_a0_key (q := 4) rfl ?_
  intro T134 X135 e136
  refine k_ifnonnull_n K X135 d3_4 (q := 7) rfl ?_
  refine k_iconst K X135 d3_7 (v := (0 : Int32)) rfl (q := 8) rfl ?_
  refine k_goto K X135 d3_8 (by decide) (q := 16) rfl ?_
  refine k_aloadN K X135 d3_16 rfl rfl (q := 17) rfl ?_
  refine k_getfield K X135 e136 d3_17 (wd hw 12 rfl) F_a0_payload (q := 20) rfl ?_
  intro T137 X138 e139
  refine k_arraylength K X138 e139 d3_20 A_w_a0_payload (v := (Nat.toInt32 n_w_a0_payload)) rfl (q := 21) rfl ?_
  refine k_iadd K X138 d3_21 (q := 22) rfl ?_
  exact k_reti K X138 e139 d3_22 (Nat.le_trans (by decide) hkc) (Nat.le_trans (by decide) hkn) (hQ _ _ _ ⟨(by show some (Value.int ((0 : Int32) + (Nat.toInt32 n_w_a0_payload))) = some (Value.int (F_lengthn n_w_a0_payload g_w_a0_payload)); simp only [F_lengthn]), rfl, rfl⟩)
theorem own_nn {x v : Int32} (h : x &&& 15 = v) : ¬ v < 0 := fun z => by
  subst h
  have h1 := (c_and x 15 (by decide)).1
  have h2 := Int32.lt_iff_toInt_lt.mp z
  have e : (0 : Int32).toInt = 0 := rfl
  omega
theorem own_le {x v : Int32} (h : x &&& 15 = v) : v.toNatClampNeg ≤ 15 := by
  subst h
  have h1 := (c_and x 15 (by decide)).2
  have e : (15 : Int32).toInt = 15 := rfl
  simp only [Int32.toNatClampNeg]
  omega
theorem pd_0 : parseMethodDescriptor "([B[B)V" = some ⟨[(.array .byte), (.array .byte)], none⟩ := by decide +kernel
theorem pd_1 : parseMethodDescriptor "()I" = some ⟨[], some .int⟩ := by decide +kernel
theorem ef_0 (p0 : Int32) (p1 : Int32) (p2 : Int32) : ∀ m : MethodId, entryFrame m #[(.int p0), (.int p1), (.int p2)] maxLocals = mkF m 0 #[.val (.int p0), .val (.int p1), .val (.int p2), .unset, .unset, .unset, .unset, .unset, .unset, .unset] [] := by intro m; first | (simp [entryFrame, mkF, argsToLocals, Value.category, maxLocals]; done) | rfl
theorem pn_1 : plainName "com/example/adiq/adiq/broker/SentMessageLengthPinLaw" = true := by first | (simp [plainName, overriddenIn]; done) | decide +kernel
def F_law (p0 : Int32) (p1 : Int32) (p2 : Int32) : Int32 :=
  let v140 : Int32 := (p0 &&& (15 : Int32))
  let v141 : Int32 := (p1 &&& (15 : Int32))
  let d143 : Int32 := (if (p2 &&& (1 : Int32)) = (0 : Int32) then (0 : Int32) else (1 : Int32))
  if d143 = (0 : Int32) then
    let v221 : Int32 := (v140 + v141)
    let d226 : Int32 := (if (F_length (Int32.toNatClampNeg v140) (fun _ => (0 : Int32)) (Int32.toNatClampNeg v141) (fun _ => (0 : Int32))) = v221 then (1 : Int32) else (0 : Int32))
    (nar .boolean d226)
  else
    let d276 : Int32 := (if (F_lengthn (Int32.toNatClampNeg v141) (fun _ => (0 : Int32))) = v141 then (1 : Int32) else (0 : Int32))
    (nar .boolean d276)
set_option maxRecDepth 65536 in
set_option maxHeartbeats 40000000 in
theorem rm0 (l : Launch) (Z : State) (az : Array Value) (hw : ∀ d ∈ tables_1, d.before az Z = true) (ws : List Jvm.Cond) (p0 : Int32) (p1 : Int32) (p2 : Int32) (h0 : Heap) (n0 : Nat) (Z0 : n0 ≤ h0.size) :
    Met l x code maxLocals ret ws room_1 Z #[(.int p0), (.int p1), (.int p2)] h0 (fun v h' L => v = some (Value.int (F_law p0 p1 p2)) ∧ Fr n0 L) := by
  refine enter (plainFor_of_name pn_1) (ef_0 p0 p1 p2) ?_
  intro p e s m below meth c T0 kc kn Q hkc hkn hQ K' X0 e0
  have K : Fx p s m meth c code 10 "com/example/adiq/adiq/broker/SentMessageLengthPinLaw" "law" (some .boolean) Z := K'
  have N0 := Fr.nil n0
  have K0 : Keep h0 h0 [] := Keep.refl _ _
  refine k_iloadN K X0 at_0 rfl (q := 1) rfl ?_
  refine k_bipush K X0 at_1 (v := (15 : Int32)) rfl (q := 3) rfl ?_
  refine k_iand K X0 at_3 (q := 4) rfl ?_
  obtain ⟨v140, hv_v140⟩ : ∃ z : Int32, (p0 &&& (15 : Int32)) = z := ⟨_, rfl⟩
  refine k_istoreN K X0 at_4 hv_v140 (Ls' := #[.val (.int p0), .val (.int p1), .val (.int p2), .val (.int v140), .unset, .unset, .unset, .unset, .unset, .unset]) rfl (q := 5) rfl ?_
  refine k_iloadN K X0 at_5 rfl (q := 6) rfl ?_
  refine k_bipush K X0 at_6 (v := (15 : Int32)) rfl (q := 8) rfl ?_
  refine k_iand K X0 at_8 (q := 9) rfl ?_
  obtain ⟨v141, hv_v141⟩ : ∃ z : Int32, (p1 &&& (15 : Int32)) = z := ⟨_, rfl⟩
  refine k_istore K X0 at_9 hv_v141 (Ls' := #[.val (.int p0), .val (.int p1), .val (.int p2), .val (.int v140), .val (.int v141), .unset, .unset, .unset, .unset, .unset]) rfl (q := 11) rfl ?_
  refine k_iloadN K X0 at_11 rfl (q := 12) rfl ?_
  refine k_iconst K X0 at_12 (v := (1 : Int32)) rfl (q := 13) rfl ?_
  refine k_iand K X0 at_13 (q := 14) rfl ?_
  have J144 : ∀ (d143 : Int32), (if (p2 &&& (1 : Int32)) = (0 : Int32) then (0 : Int32) else (1 : Int32)) = d143 → Run p e below s kc kn Q T0 (mkF m 22 #[.val (.int p0), .val (.int p1), .val (.int p2), .val (.int v140), .val (.int v141), .unset, .unset, .unset, .unset, .unset] [(.int d143)]) := by
    intro d143 hv_d143
    refine k_istore K X0 at_22 rfl (Ls' := #[.val (.int p0), .val (.int p1), .val (.int p2), .val (.int v140), .val (.int v141), .val (.int d143), .unset, .unset, .unset, .unset]) rfl (q := 24) rfl ?_
    refine k_iload K X0 at_24 rfl (q := 26) rfl ?_
    refine k_if_eq K X0 at_26 (by decide) (q := 33) rfl (q' := 29) rfl ?_ ?_
    · intro hc159
      refine k_iloadN K X0 at_33 rfl (q := 34) rfl ?_
      refine k_newarray K X0 e0 at_34 (ty := .byte) rfl (wd hw 0 rfl) (n := (Int32.toNatClampNeg v140)) (cap := 15) ⟨own_nn hv_v140, rfl⟩ (own_le hv_v140) (by decide) (by decide) (by decide) (q := 36) rfl ?_
      intro T160 h161 b162 X163 e164 g165 E166 A167 
      have ge168 : n0 ≤ b162 := Nat.le_trans Z0 (Nat.le_of_eq g165.symm)
      have bn169 : h0.size ≤ b162 := Nat.le_trans K0.1 (Nat.le_of_eq g165.symm)
      have K170 := Keep.ext K0 E166
      have Z171 := Nat.le_trans Z0 E166.1
      have f172 : Ary Z h161 b162 .byte (Int32.toNatClampNeg v140) (fun i => Value.int ((fun _ => (0 : Int32)) i)) := A167
      refine k_astore K X163 at_36 rfl (Ls' := #[.val (.int p0), .val (.int p1), .val (.int p2), .val (.int v140), .val (.int v141), .val (.int d143), .val (.ref b162), .unset, .unset, .unset]) rfl (q := 38) rfl ?_
      refine k_iload K X163 at_38 rfl (q := 40) rfl ?_
      refine k_newarray K X163 e164 at_40 (ty := .byte) rfl (wd hw 0 rfl) (n := (Int32.toNatClampNeg v141)) (cap := 15) ⟨own_nn hv_v141, rfl⟩ (own_le hv_v141) (by decide) (by decide) (by decide) (q := 42) rfl ?_
      intro T173 h174 b175 X176 e177 g178 E179 A180 
      have ne181 : b162 ≠ b175 := Nat.ne_of_lt (Nat.lt_of_lt_of_eq (f172).lt g178.symm)
      have ge182 : n0 ≤ b175 := Nat.le_trans Z171 (Nat.le_of_eq g178.symm)
      have bn183 : h0.size ≤ b175 := Nat.le_trans K170.1 (Nat.le_of_eq g178.symm)
      have f184 := Ary.ext f172 E179
      have K185 := Keep.ext K170 E179
      have Z186 := Nat.le_trans Z171 E179.1
      have f187 : Ary Z h174 b175 .byte (Int32.toNatClampNeg v141) (fun i => Value.int ((fun _ => (0 : Int32)) i)) := A180
      refine k_astore K X176 at_42 rfl (Ls' := #[.val (.int p0), .val (.int p1), .val (.int p2), .val (.int v140), .val (.int v141), .val (.int d143), .val (.ref b162), .val (.ref b175), .unset, .unset]) rfl (q := 44) rfl ?_
      refine k_new K X176 e177 at_44 (wd hw 1 rfl) (wd hw 2 rfl) (wd hw 3 rfl) (by decide) (by decide) (q := 47) rfl ?_
      intro T188 h189 b190 X191 e192 g193 E194 A195 D196
      have ne197 : b162 ≠ b190 := Nat.ne_of_lt (Nat.lt_of_lt_of_eq (f184).lt g193.symm)
      have ne198 : b175 ≠ b190 := Nat.ne_of_lt (Nat.lt_of_lt_of_eq (f187).lt g193.symm)
      have ge199 : n0 ≤ b190 := Nat.le_trans Z186 (Nat.le_of_eq g193.symm)
      have bn200 : h0.size ≤ b190 := Nat.le_trans K185.1 (Nat.le_of_eq g193.symm)
      have f201 := Ary.ext f184 E194
      have f202 := Ary.ext f187 E194
      have K203 := Keep.ext K185 E194
      have Z204 := Nat.le_trans Z186 E194.1
      have f205 : Fld Z h189 b190 "com/example/adiq/adiq/broker/SentMessage" "key" "[B" .null := D196 (Or.inr (wd hw 11 rfl)) (ty := (.array .byte)) (by decide)
      have f206 : Fld Z h189 b190 "com/example/adiq/adiq/broker/SentMessage" "payload" "[B" .null := D196 (Or.inr (wd hw 13 rfl)) (ty := (.array .byte)) (by decide)
      refine k_dup K X191 at_47 rfl (q := 48) rfl ?_
      refine k_aload K X191 at_48 rfl rfl (q := 50) rfl ?_
      refine k_aload K X191 at_50 rfl rfl (q := 52) rfl ?_
      refine k_special K X191 e192 at_52 rfl (wd hw 4 rfl) (wd hw 5 rfl) (wd hw 3 rfl) (wd hw 6 rfl) (by decide) (rm1 l Z az hw [] b190 b162 b175 .null .null h189 n0 Z204 A195 f205 ge199 f206) (W := 1) (by decide) (by decide) (by decide) (by decide) rfl pd_0 (argsL := [(.ref b162), (.ref b175)]) (rest := [(.ref b190)]) rfl rfl rfl (Nat.le_of_eq rfl) (q := 55) rfl ?_
      rintro _ T207 L208 X209 ⟨rfl, N210, K211, f213, f214⟩
      have f215 := Ary.keep f201 K211 (ninS ne197 nin0)
      have f216 := Ary.keep f202 K211 (ninS ne198 nin0)
      have f217 := Exa.keep A195 K211
      have N218 := Fr.app N0 N210
      have K219 := Keep.trans K203 K211 (allS (Or.inr bn200) all0)
      have Z220 := Nat.le_trans Z204 K211.1
      refine k_astore K X209 at_55 rfl (Ls' := #[.val (.int p0), .val (.int p1), .val (.int p2), .val (.int v140), .val (.int v141), .val (.int d143), .val (.ref b162), .val (.ref b175), .val (.ref b190), .unset]) rfl (q := 57) rfl ?_
      refine k_iload K X209 at_57 rfl (q := 59) rfl ?_
      refine k_if_eq_y K X209 at_59 hc159 (by decide) (q := 69) rfl ?_
      refine k_iloadN K X209 at_69 rfl (q := 70) rfl ?_
      refine k_iload K X209 at_70 rfl (q := 72) rfl ?_
      refine k_iadd K X209 at_72 (q := 73) rfl ?_
      obtain ⟨v221, hv_v221⟩ : ∃ z : Int32, (v140 + v141) = z := ⟨_, rfl⟩
      refine k_istore K X209 at_73 hv_v221 (Ls' := #[.val (.int p0), .val (.int p1), .val (.int p2), .val (.int v140), .val (.int v141), .val (.int d143), .val (.ref b162), .val (.ref b175), .val (.ref b190), .val (.int v221)]) rfl (q := 75) rfl ?_
      refine k_aload K X209 at_75 rfl rfl (q := 77) rfl ?_
      refine k_virtualP K X209 rfl at_77 (wd hw 14 rfl) (wd hw 15 rfl) (wd hw 17 rfl) (wd hw 16 rfl) (wd hw 3 rfl) (wd hw 18 rfl) (by decide) f217 (rm3 l Z az hw [] b190 b162 (Int32.toNatClampNeg v140) (fun _ => (0 : Int32)) b175 (Int32.toNatClampNeg v141) (fun _ => (0 : Int32)) T207.heap f213 f215 f214 f216) (W := 0) (by decide) (by decide) (by decide) (by decide) rfl pd_1 (argsL := []) (rest := []) rfl rfl rfl (Nat.le_of_eq rfl) (q := 80) rfl ?_
      intro T222 X223 e224
      refine k_iload K X223 at_80 rfl (q := 82) rfl ?_
      have J227 : ∀ (d226 : Int32), (if (F_length (Int32.toNatClampNeg v140) (fun _ => (0 : Int32)) (Int32.toNatClampNeg v141) (fun _ => (0 : Int32))) = v221 then (1 : Int32) else (0 : Int32)) = d226 → Run p e below s kc kn Q T222 (mkF m 90 #[.val (.int p0), .val (.int p1), .val (.int p2), .val (.int v140), .val (.int v141), .val (.int d143), .val (.ref b162), .val (.ref b175), .val (.ref b190), .val (.int v221)] [(.int d226)]) := by
        intro d226 hv_d226
        exact k_retz K X223 e224 at_90 (Nat.le_trans (by decide) hkc) (Nat.le_trans (by decide) hkn) (hQ _ _ _ ⟨(by show some (Value.int (nar .boolean d226)) = some (Value.int (F_law p0 p1 p2)); simp only [F_law, hv_v140, hv_v141, hv_d143, hv_v221, hv_d226, if_pos hc159]), N218⟩)
      refine k_icmp_ne K X223 at_82 (by decide) (q := 89) rfl (q' := 85) rfl ?_ ?_
      · intro hc228
        refine k_iconst K X223 at_89 (v := (0 : Int32)) rfl (q := 90) rfl ?_
        exact J227 _ (by first | rfl | (simp only [if_neg hc228]))
      · intro hc228
        refine k_iconst K X223 at_85 (v := (1 : Int32)) rfl (q := 86) rfl ?_
        refine k_goto K X223 at_86 (by decide) (q := 90) rfl ?_
        exact J227 _ (by first | rfl | (simp only [if_pos hc228]))
    · intro hc159
      refine k_aconst_null K X0 at_29 (q := 30) rfl ?_
      refine k_goto K X0 at_30 (by decide) (q := 36) rfl ?_
      refine k_astore K X0 at_36 rfl (Ls' := #[.val (.int p0), .val (.int p1), .val (.int p2), .val (.int v140), .val (.int v141), .val (.int d143), .val .null, .unset, .unset, .unset]) rfl (q := 38) rfl ?_
      refine k_iload K X0 at_38 rfl (q := 40) rfl ?_
      refine k_newarray K X0 e0 at_40 (ty := .byte) rfl (wd hw 0 rfl) (n := (Int32.toNatClampNeg v141)) (cap := 15) ⟨own_nn hv_v141, rfl⟩ (own_le hv_v141) (by decide) (by decide) (by decide) (q := 42) rfl ?_
      intro T229 h230 b231 X232 e233 g234 E235 A236 
      have ge237 : n0 ≤ b231 := Nat.le_trans Z0 (Nat.le_of_eq g234.symm)
      have bn238 : h0.size ≤ b231 := Nat.le_trans K0.1 (Nat.le_of_eq g234.symm)
      have K239 := Keep.ext K0 E235
      have Z240 := Nat.le_trans Z0 E235.1
      have f241 : Ary Z h230 b231 .byte (Int32.toNatClampNeg v141) (fun i => Value.int ((fun _ => (0 : Int32)) i)) := A236
      refine k_astore K X232 at_42 rfl (Ls' := #[.val (.int p0), .val (.int p1), .val (.int p2), .val (.int v140), .val (.int v141), .val (.int d143), .val .null, .val (.ref b231), .unset, .unset]) rfl (q := 44) rfl ?_
      refine k_new K X232 e233 at_44 (wd hw 1 rfl) (wd hw 2 rfl) (wd hw 3 rfl) (by decide) (by decide) (q := 47) rfl ?_
      intro T242 h243 b244 X245 e246 g247 E248 A249 D250
      have ne251 : b231 ≠ b244 := Nat.ne_of_lt (Nat.lt_of_lt_of_eq (f241).lt g247.symm)
      have ge252 : n0 ≤ b244 := Nat.le_trans Z240 (Nat.le_of_eq g247.symm)
      have bn253 : h0.size ≤ b244 := Nat.le_trans K239.1 (Nat.le_of_eq g247.symm)
      have f254 := Ary.ext f241 E248
      have K255 := Keep.ext K239 E248
      have Z256 := Nat.le_trans Z240 E248.1
      have f257 : Fld Z h243 b244 "com/example/adiq/adiq/broker/SentMessage" "key" "[B" .null := D250 (Or.inr (wd hw 11 rfl)) (ty := (.array .byte)) (by decide)
      have f258 : Fld Z h243 b244 "com/example/adiq/adiq/broker/SentMessage" "payload" "[B" .null := D250 (Or.inr (wd hw 13 rfl)) (ty := (.array .byte)) (by decide)
      refine k_dup K X245 at_47 rfl (q := 48) rfl ?_
      refine k_aload K X245 at_48 rfl rfl (q := 50) rfl ?_
      refine k_aload K X245 at_50 rfl rfl (q := 52) rfl ?_
      refine k_special K X245 e246 at_52 rfl (wd hw 4 rfl) (wd hw 5 rfl) (wd hw 3 rfl) (wd hw 6 rfl) (by decide) (rm1n l Z az hw [] b244 b231 .null .null h243 n0 Z256 A249 f257 ge252 f258) (W := 1) (by decide) (by decide) (by decide) (by decide) rfl pd_0 (argsL := [.null, (.ref b231)]) (rest := [(.ref b244)]) rfl rfl rfl (Nat.le_of_eq rfl) (q := 55) rfl ?_
      rintro _ T259 L260 X261 ⟨rfl, N262, K263, f265, f266⟩
      have f267 := Ary.keep f254 K263 (ninS ne251 nin0)
      have f268 := Exa.keep A249 K263
      have N269 := Fr.app N0 N262
      have K270 := Keep.trans K255 K263 (allS (Or.inr bn253) all0)
      have Z271 := Nat.le_trans Z256 K263.1
      refine k_astore K X261 at_55 rfl (Ls' := #[.val (.int p0), .val (.int p1), .val (.int p2), .val (.int v140), .val (.int v141), .val (.int d143), .val .null, .val (.ref b231), .val (.ref b244), .unset]) rfl (q := 57) rfl ?_
      refine k_iload K X261 at_57 rfl (q := 59) rfl ?_
      refine k_if_eq_n K X261 at_59 hc159 (q := 62) rfl ?_
      refine k_iload K X261 at_62 rfl (q := 64) rfl ?_
      refine k_istore K X261 at_64 rfl (Ls' := #[.val (.int p0), .val (.int p1), .val (.int p2), .val (.int v140), .val (.int v141), .val (.int d143), .val .null, .val (.ref b231), .val (.ref b244), .val (.int v141)]) rfl (q := 66) rfl ?_
      refine k_goto K X261 at_66 (by decide) (q := 75) rfl ?_
      refine k_aload K X261 at_75 rfl rfl (q := 77) rfl ?_
      refine k_virtualP K X261 rfl at_77 (wd hw 14 rfl) (wd hw 15 rfl) (wd hw 17 rfl) (wd hw 16 rfl) (wd hw 3 rfl) (wd hw 18 rfl) (by decide) f268 (rm3n l Z az hw [] b244 b231 (Int32.toNatClampNeg v141) (fun _ => (0 : Int32)) T259.heap f265 f266 f267) (W := 0) (by decide) (by decide) (by decide) (by decide) rfl pd_1 (argsL := []) (rest := []) rfl rfl rfl (Nat.le_of_eq rfl) (q := 80) rfl ?_
      intro T272 X273 e274
      refine k_iload K X273 at_80 rfl (q := 82) rfl ?_
      have J277 : ∀ (d276 : Int32), (if (F_lengthn (Int32.toNatClampNeg v141) (fun _ => (0 : Int32))) = v141 then (1 : Int32) else (0 : Int32)) = d276 → Run p e below s kc kn Q T272 (mkF m 90 #[.val (.int p0), .val (.int p1), .val (.int p2), .val (.int v140), .val (.int v141), .val (.int d143), .val .null, .val (.ref b231), .val (.ref b244), .val (.int v141)] [(.int d276)]) := by
        intro d276 hv_d276
        exact k_retz K X273 e274 at_90 (Nat.le_trans (by decide) hkc) (Nat.le_trans (by decide) hkn) (hQ _ _ _ ⟨(by show some (Value.int (nar .boolean d276)) = some (Value.int (F_law p0 p1 p2)); simp only [F_law, hv_v140, hv_v141, hv_d143, hv_d276, if_neg hc159]), N269⟩)
      refine k_icmp_ne K X273 at_82 (by decide) (q := 89) rfl (q' := 85) rfl ?_ ?_
      · intro hc278
        refine k_iconst K X273 at_89 (v := (0 : Int32)) rfl (q := 90) rfl ?_
        exact J277 _ (by first | rfl | (simp only [if_neg hc278]))
      · intro hc278
        refine k_iconst K X273 at_85 (v := (1 : Int32)) rfl (q := 86) rfl ?_
        refine k_goto K X273 at_86 (by decide) (q := 90) rfl ?_
        exact J277 _ (by first | rfl | (simp only [if_pos hc278]))
  refine k_if_eq K X0 at_14 (by decide) (q := 21) rfl (q' := 17) rfl ?_ ?_
  · intro hc279
    refine k_iconst K X0 at_21 (v := (0 : Int32)) rfl (q := 22) rfl ?_
    exact J144 _ (by first | rfl | (simp only [if_pos hc279]))
  · intro hc279
    refine k_iconst K X0 at_17 (v := (1 : Int32)) rfl (q := 18) rfl ?_
    refine k_goto K X0 at_18 (by decide) (q := 22) rfl ?_
    exact J144 _ (by first | rfl | (simp only [if_neg hc279]))

theorem own_bk {x : Int32} : (Int32.toNatClampNeg (x &&& 15)).toInt32 = x &&& 15 := (back32 (own_nn rfl)).1
theorem law_eq (p0 p1 p2 : Int32) : F_law p0 p1 p2 = 1 := by
  simp only [F_law, F_length, F_lengthn, own_bk, if_true, Int32.zero_add]
  by_cases k1 : (p2 &&& 1) = 0
  · simp only [if_pos k1, if_true]; decide
  · simp only [if_neg k1]; decide
set_option maxRecDepth 65536 in
set_option maxHeartbeats 40000000 in
theorem comes_1 {Post : Tables → Env → Array Value → State → Outcome → State → Prop} (hpost : ∀ tb e args s v u, (limb_1_1.after args s (.returned v) u = true ∧ limb_1_2.after args s (.returned v) u = true ∧ True) → FrameEnd s (.returned v) u (Jvm.fieldLocs frame_1_writes args s ++ Jvm.arrayLocs frame_1_arrays args s ++ Jvm.staticLocs frame_1_statics s) 16 128 → Post tb e args s (.returned v) u) :
    ArmFor flags0 classFile x code maxLocals ret World_1 tables_1 room_1 Calls_1 rest_1 Pre_1 Post := by
  intro l hfl _ _ p e ha hc hk s m args below hf hA hF happ hP
  obtain ⟨hcalls, hrest, hpre⟩ := hP
  obtain ⟨-, -, -, hnamed, -, -, -, hat⟩ := (Spec.applies_iff hf).mp happ
  obtain ⟨hg, hn⟩ := and_e (Cond.before_iff.mp (show (Jvm.Cond.and given_1 narrow_1).before args s = true from hpre))
  obtain ⟨gc, g0⟩ := and_e hg
  obtain ⟨ga0, g1⟩ := and_e g0
  obtain ⟨ga1, g2⟩ := and_e g1
  obtain ⟨w0, w1, w2, rfl⟩ : ∃ w0 w1 w2 : Value, args = #[w0, w1, w2] := by
    have hs : args.size = 3 := by simpa [Cond.value, given_1] using gc
    obtain ⟨L⟩ := args
    match L, hs with
    | [w0, w1, w2], _ => exact ⟨w0, w1, w2, rfl⟩
  have hw := fun d (hd : d ∈ tables_1) => atoms_spec (ws := Jvm.Cond.code x code maxLocals ret :: tables_1) hat d (List.mem_cons_of_mem _ hd)
  obtain ⟨i0, ei0⟩ := is_v ga0
  obtain rfl : w0 = (.int i0) := Option.some.inj ei0
  obtain ⟨i1, ei1⟩ := is_v ga1
  obtain rfl : w1 = (.int i1) := Option.some.inj ei1
  obtain ⟨i2, ei2⟩ := is_v g2
  obtain rfl : w2 = (.int i2) := Option.some.inj ei2
  obtain ⟨n, o, h1, h2, h3, _, L, rfl, ⟨rfl, N⟩, hq⟩ := rm0 l s _ hw tables_1 i0 i1 i2 s.heap s.heap.size (Nat.le_refl _) p e ha hc hk s m _ below hf ((Spec.applies_iff_loose hf).mp happ).1 ⟨rfl, State.Warmed39.refl s, rfl⟩ trivial
  rw [law_eq] at *
  refine ⟨n, _, h1, h2, h3, hpost _ _ _ _ _ _ ⟨Cond.after_iff.mpr rfl, Cond.after_iff.mpr (eq_i res_at (Term.int_eval (1)) rfl), trivial⟩ ⟨hq.1, hq.2.1, (hq.2.2.sift fun y hy => Or.inr (N y hy)).mono (by decide) (by decide)⟩⟩
theorem main_1_1 : Claimed_1_1 := comes_1 fun _ _ _ _ _ _ h hF => ⟨h.1, hF⟩
theorem main_1_2 : Claimed_1_2 := comes_1 fun _ _ _ _ _ _ h hF => ⟨h.2.1, hF⟩
end Jvm.Pilot.@@N@@
namespace Jvm.Pilot.@@N@@
open Jvm Jvm.ClassFile Sem Op Lib Jvm.Free Jvm.Stand Jvm.Pilot.@@N@@.Jvm.D
/-! MADE BY PROGRAM (witnessworld.py) out of the Statement's table words and the real class files: 9 classes; the members and pool entries that the words name. The judged class is class 1, her method 1. -/
namespace start1
open Jvm.ClassFile
def u (s : String) : CpInfo := .utf8 (stringToUtf16 s)
/-- a pool by its gaps: so many unusable entries, then the entry; so many at the end -/
def gap : Nat → List CpInfo → List CpInfo
  | 0, r => r
  | n + 1, r => .unusable :: gap n r
def poolList (es : List (Nat × CpInfo)) (last : Nat) : List CpInfo := es.foldr (fun e r => gap e.1 (e.2 :: r)) (gap last [])
def pool (es : List (Nat × CpInfo)) (last : Nat) : Array CpInfo := ⟨poolList es last⟩
def fileOf (pool : Array CpInfo) (this : Nat) (attrs : Array Attribute := #[]) (ms : Array MethodInfo := #[]) (fl : Nat := 33) (sup : Nat := 0) (ifs : Array Nat := #[]) (fds : Array FieldInfo := #[]) : ClassFile where
  minorVersion := 0
  majorVersion := 65
  constantPool := pool
  accessFlags := fl
  thisClass := this
  superClass := sup
  interfaces := ifs
  fields := fds
  methods := ms
  attributes := attrs
def plain (name : String) (sup : Option ClassId) : Class where
  name := name
  kind := .ordinary
  loader := none
  accessFlags := 33
  super := sup
  interfaces := #[]
  cf := none
  fields := #[]
  methods := #[]
  instanceTypes := #[]
  staticTypes := #[]
  resolved := #[]
  callSites := []
  init := .initialized
  statics := none
  mirror := none

def pool0 : Array CpInfo := pool [(5, u "<init>"), (0, u "()V"), (1, .class_ 10), (1, u "java/lang/Object")] 113

def k0c0 : Code := { maxStack := 0, maxLocals := 1, code := object_method_1_code, exceptionTable := #[], attributes := #[] }
def k0m0 : Method := { name := "<init>", desc := "()V", sig := { parameters := [], returnType := none }, accessFlags := 1, code := some k0c0 }
/-- java/lang/Object -/
def k0 : Class := { plain "java/lang/Object" none with
  accessFlags := 33
  interfaces := #[]
  cf := some (fileOf pool0 8 #[] #[{ accessFlags := 1, nameIndex := 5, descriptorIndex := 6, attributes := #[] }] 33 0 #[] #[])
  fields := #[]
  methods := #[k0m0]
  instanceTypes := #[]
  staticTypes := #[]
  resolved := Array.replicate 124 none
  statics := none }

def pool1 : Array CpInfo := pool [(2, .class_ 4), (1, u "java/lang/Object"), (0, u "<init>"), (0, u "()V"), (0, .class_ 8), (0, u "com/example/adiq/adiq/broker/SentMessage"), (0, .methodref 7 10), (0, .nameAndType 5 11), (0, u "([B[B)V"), (0, .methodref 7 13), (0, .nameAndType 14 15), (0, u "length"), (0, u "()I"), (0, .class_ 17), (0, u "com/example/adiq/adiq/broker/SentMessageLengthPinLaw"), (2, u "law"), (0, u "(III)Z")] 5

def k1m0 : Method := { name := "<init>", desc := "()V", sig := { parameters := [], returnType := none }, accessFlags := 1, code := none }
def k1c1 : Code := { maxStack := 4, maxLocals := 10, code := code, exceptionTable := #[], attributes := #[] }
def k1m1 : Method := { name := "law", desc := "(III)Z", sig := { parameters := [.int, .int, .int], returnType := some .boolean }, accessFlags := 9, code := some k1c1 }
/-- com/example/adiq/adiq/broker/SentMessageLengthPinLaw -/
def k1 : Class := { plain "com/example/adiq/adiq/broker/SentMessageLengthPinLaw" (some 0) with
  accessFlags := 49
  interfaces := #[]
  cf := some (fileOf pool1 16 #[] #[{ accessFlags := 1, nameIndex := 5, descriptorIndex := 6, attributes := #[] }, { accessFlags := 9, nameIndex := 20, descriptorIndex := 21, attributes := #[] }] 49 2 #[] #[])
  fields := #[]
  methods := #[k1m0, k1m1]
  instanceTypes := #[]
  staticTypes := #[]
  resolved := Array.replicate 27 none
  statics := none }

def pool2 : Array CpInfo := pool [(1, .methodref 2 3), (0, .class_ 4), (0, .nameAndType 5 6), (0, u "java/lang/Object"), (0, u "<init>"), (0, u "()V"), (0, .fieldref 8 9), (0, .class_ 10), (0, .nameAndType 11 12), (0, u "com/example/adiq/adiq/broker/SentMessage"), (0, u "key"), (0, u "[B"), (0, .fieldref 8 14), (0, .nameAndType 15 12), (0, u "payload"), (0, u "([B[B)V"), (3, u "length"), (0, u "()I")] 3

def k2c0 : Code := { maxStack := 2, maxLocals := 3, code := prog_8_method_1_code, exceptionTable := #[], attributes := #[] }
def k2m0 : Method := { name := "<init>", desc := "([B[B)V", sig := { parameters := [(.array .byte), (.array .byte)], returnType := none }, accessFlags := 0, code := some k2c0 }
def k2c1 : Code := { maxStack := 2, maxLocals := 1, code := prog_8_method_4_code, exceptionTable := #[], attributes := #[] }
def k2m1 : Method := { name := "length", desc := "()I", sig := { parameters := [], returnType := some .int }, accessFlags := 0, code := some k2c1 }
/-- com/example/adiq/adiq/broker/SentMessage -/
def k2 : Class := { plain "com/example/adiq/adiq/broker/SentMessage" (some 0) with
  accessFlags := 32
  interfaces := #[]
  cf := some (fileOf pool2 8 #[] #[{ accessFlags := 0, nameIndex := 5, descriptorIndex := 16, attributes := #[] }, { accessFlags := 0, nameIndex := 20, descriptorIndex := 21, attributes := #[] }] 32 2 #[] #[{ accessFlags := 18, nameIndex := 11, descriptorIndex := 12, attributes := #[] }, { accessFlags := 18, nameIndex := 15, descriptorIndex := 12, attributes := #[] }])
  fields := #[{ name := "key", type := (.array .byte), accessFlags := 18, slot := 0, constantValue := 0 }, { name := "payload", type := (.array .byte), accessFlags := 18, slot := 1, constantValue := 0 }]
  methods := #[k2m0, k2m1]
  instanceTypes := #[(.array .byte), (.array .byte)]
  staticTypes := #[]
  resolved := Array.replicate 25 none
  statics := none }

def pool3 : Array CpInfo := pool [(1, u "java/lang/Cloneable"), (0, .class_ 1), (0, u "java/lang/Object"), (0, .class_ 3)] 3

/-- java/lang/Cloneable -/
def k3 : Class := { plain "java/lang/Cloneable" (some 0) with
  accessFlags := 1537
  interfaces := #[]
  cf := some (fileOf pool3 2 #[] #[] 1537 4 #[] #[])
  fields := #[]
  methods := #[]
  instanceTypes := #[]
  staticTypes := #[]
  resolved := Array.replicate 8 none
  statics := none }

def pool4 : Array CpInfo := pool [(1, u "java/io/Serializable"), (0, .class_ 1), (0, u "java/lang/Object"), (0, .class_ 3)] 3

/-- java/io/Serializable -/
def k4 : Class := { plain "java/io/Serializable" (some 0) with
  accessFlags := 1537
  interfaces := #[]
  cf := some (fileOf pool4 2 #[] #[] 1537 4 #[] #[])
  fields := #[]
  methods := #[]
  instanceTypes := #[]
  staticTypes := #[]
  resolved := Array.replicate 8 none
  statics := none }

/-- the primitive byte -/
def k5 : Class := { plain "byte" none with kind := .primitive 'B', accessFlags := 0x411 }
/-- [B -/
def k6 : Class := { plain "[B" (some 0) with kind := .array 5 .byte, interfaces := #[3, 4], accessFlags := 1041 }

/-- the primitive int -/
def k7 : Class := { plain "int" none with kind := .primitive 'I', accessFlags := 0x411 }
/-- [I -/
def k8 : Class := { plain "[I" (some 0) with kind := .array 7 .int, interfaces := #[3, 4], accessFlags := 1041 }

def heap : Heap := #[]
def classes : Array Class := #[k0, k1, k2, k3, k4, k5, k6, k7, k8]
def interned : List (Array UInt16 × Addr) := []
def slotsUsed : Nat := 0
def theMethod : MethodId := ⟨1, 1⟩
def args0 : Array Value := #[.int 5, .int 7, .int 9]
def aboutOver (below : List Frame) : State where
  vm := { classes := classes, interned := interned.toArray }
  heap := heap
  slotsUsed := slotsUsed
  threads := #[{ frames := .invoking theMethod args0 :: below }]
def below0 : List Frame := [.native { method := ⟨0, 0⟩, args := #[] }]
def about1 : State := aboutOver below0
def p0 : Program := .bare "" "" ""
def e0 : Env := launch0.env 0 0 0
theorem w_frames : about1.frames = Frame.invoking theMethod args0 :: below0 := rfl
set_option maxRecDepth 65536 in
theorem w_args : argsFit about1.vm theMethod args0 = true := by decide +kernel
set_option maxRecDepth 65536 in
theorem w_heap : heapFits about1 = true := by decide +kernel
set_option maxRecDepth 65536 in
theorem w_runnable : about1.curStatus? = some .runnable := by decide +kernel
set_option maxRecDepth 65536 in
theorem w_alone : about1.alone = true := by decide +kernel
set_option maxRecDepth 65536 in
theorem w_named : about1.methodNamed? x = some theMethod := by decide +kernel
set_option maxRecDepth 65536 in
theorem w_hears : about1.hears theMethod below0 = true := by decide +kernel
set_option maxRecDepth 65536 in
theorem w_ripe : about1.ripe theMethod args0 below0 = true := by decide +kernel
theorem w_running : about1.status = .running := rfl
set_option maxRecDepth 65536 in
theorem w_room : about1.hasRoom e0.platform room_1 = true :=
  launch0.hasRoom_least _ room_1 (by decide +kernel) (by decide +kernel) (by decide +kernel) (by decide +kernel) (by decide +kernel) (by decide +kernel)
theorem allAtoms_all (ts : List Jvm.Cond) (a : Array Jvm.Value) (st : Jvm.State) : (allAtoms ts).before a st = ts.all (fun c => c.before a st) := by
  induction ts with
  | nil => rfl
  | cons c t ih =>
    show (Jvm.Cond.and c (allAtoms t)).before a st = _
    rw [Jvm.Cond.before_and, ih, List.all_cons]
def words1 : List Jvm.Cond := Jvm.Cond.code x code maxLocals ret :: tables_1
/-- a 'code' word, met by the world's own term for the bytes: nothing is compared byte by byte -/
theorem code_word {y : MethodName} {bytes : ByteArray} {mx : Nat} {rt : Option FieldType} {a : Array Value} {s : State} {m : MethodId} {meth : Method} {c : Code} (h1 : s.methodNamed? y = some m) (h2 : s.vm.method? m = some meth) (h3 : meth.code = some c) (h4 : c.code = bytes)
    (h5 : (c.maxLocals == mx && c.exceptionTable.isEmpty && decide (c.maxStack ≤ mostOperands) && decide (meth.sig.returnType = rt) && !meth.locks && decide (parseMethodDescriptor y.desc = some meth.sig)) = true) : (Jvm.Cond.code y bytes mx rt).before a s = true := by
  simp only [Bool.and_eq_true, beq_iff_eq, Bool.not_eq_true', decide_eq_true_eq] at h5
  obtain ⟨⟨⟨⟨⟨g1, g2⟩, g3⟩, g4⟩, g5⟩, g6⟩ := h5
  simp [Cond.before, Cond.holds, Cond.value, h1, h2, h3, h4, g1, g2, g3, g4, g5, g6]
def isCode : Jvm.Cond → Bool
  | .code _ _ _ _ => true
  | _ => false
theorem all_split {L : List Jvm.Cond} {P : Jvm.Cond → Bool} (h1 : L.all (fun c => isCode c || P c) = true) (h2 : ∀ c ∈ L.filter isCode, P c = true) : L.all P = true := by
  refine List.all_eq_true.mpr fun c hc => ?_
  have h := List.all_eq_true.mp h1 c hc
  rcases Bool.eq_false_or_eq_true (isCode c) with hi | hi
  · exact h2 c (List.mem_filter.mpr ⟨hc, hi⟩)
  · simpa [hi] using h
set_option maxRecDepth 65536 in
theorem w_c0 : (Jvm.Cond.code x code maxLocals ret).before args0 about1 = true := code_word (m := ⟨1, 1⟩) (meth := k1m1) (c := k1c1) (by decide +kernel) rfl rfl rfl (by decide +kernel)
set_option maxRecDepth 65536 in
theorem w_c1 : (Jvm.Cond.code ({ cls := "com/example/adiq/adiq/broker/SentMessage", name := "<init>", desc := "([B[B)V" } : Jvm.MethodName) prog_8_method_1_code (3 : Nat) (Option.none : Option Jvm.ClassFile.FieldType)).before args0 about1 = true := code_word (m := ⟨2, 0⟩) (meth := k2m0) (c := k2c0) (by decide +kernel) rfl rfl rfl (by decide +kernel)
set_option maxRecDepth 65536 in
theorem w_c2 : (Jvm.Cond.code ({ cls := "java/lang/Object", name := "<init>", desc := "()V" } : Jvm.MethodName) object_method_1_code (1 : Nat) (Option.none : Option Jvm.ClassFile.FieldType)).before args0 about1 = true := code_word (m := ⟨0, 0⟩) (meth := k0m0) (c := k0c0) (by decide +kernel) rfl rfl rfl (by decide +kernel)
set_option maxRecDepth 65536 in
theorem w_c3 : (Jvm.Cond.code ({ cls := "com/example/adiq/adiq/broker/SentMessage", name := "length", desc := "()I" } : Jvm.MethodName) prog_8_method_4_code (1 : Nat) (Option.some Jvm.ClassFile.FieldType.int)).before args0 about1 = true := code_word (m := ⟨2, 1⟩) (meth := k2m1) (c := k2c1) (by decide +kernel) rfl rfl rfl (by decide +kernel)
def codes1 : List Jvm.Cond := [Jvm.Cond.code x code maxLocals ret, Jvm.Cond.code ({ cls := "com/example/adiq/adiq/broker/SentMessage", name := "<init>", desc := "([B[B)V" } : Jvm.MethodName) prog_8_method_1_code (3 : Nat) (Option.none : Option Jvm.ClassFile.FieldType), Jvm.Cond.code ({ cls := "java/lang/Object", name := "<init>", desc := "()V" } : Jvm.MethodName) object_method_1_code (1 : Nat) (Option.none : Option Jvm.ClassFile.FieldType), Jvm.Cond.code ({ cls := "com/example/adiq/adiq/broker/SentMessage", name := "length", desc := "()I" } : Jvm.MethodName) prog_8_method_4_code (1 : Nat) (Option.some Jvm.ClassFile.FieldType.int)]
set_option maxRecDepth 65536 in
theorem codes_eq : words1.filter isCode = codes1 := rfl
theorem w_codes : ∀ c ∈ words1.filter isCode, c.before args0 about1 = true := by
  rw [codes_eq]
  intro c hc
  simp only [codes1, List.mem_cons, List.not_mem_nil, or_false] at hc
  rcases hc with rfl | rfl | rfl | rfl
  · exact w_c0
  · exact w_c1
  · exact w_c2
  · exact w_c3
set_option maxRecDepth 65536 in
theorem w_t1 : words1.all (fun c => isCode c || c.before args0 about1) = true := by decide +kernel
theorem w_tables : (allAtoms (Jvm.Cond.code x code maxLocals ret :: tables_1)).before args0 about1 = true := by
  rw [allAtoms_all]
  show words1.all (fun c => c.before args0 about1) = true
  refine all_split ?_ w_codes
  rw [w_t1]
set_option maxRecDepth 65536 in
theorem w_case : (Jvm.Cond.and given_1 narrow_1).before args0 about1 = true := by decide +kernel
theorem w_applies : (headSpec (Jvm.Cond.code x code maxLocals ret :: tables_1) room_1).applies x e0.platform about1 = true :=
  (Spec.applies_iff w_frames).mpr ⟨w_running, w_runnable, w_alone, w_named, w_hears, w_ripe, w_room, w_tables⟩
theorem atStart : AtStart classFile x code maxLocals ret World_1 tables_1 room_1 Calls_1 rest_1 Pre_1 launch0 p0 e0 about1 theMethod args0 below0 :=
  ⟨lists_1, trivial, launch0.admits_env _ _ _, launch0.least_env, fairChoices_fair.cas, fairChoices_fair.clock, w_frames, w_args, w_heap, w_applies, trivial, trivial, w_case⟩
end start1
theorem witness_1 : WitnessClaimed_1 := ⟨start1.p0, start1.e0, start1.about1, start1.theMethod, start1.args0, start1.below0, start1.atStart⟩
end Jvm.Pilot.@@N@@
