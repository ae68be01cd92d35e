import JvmDerived
import JvmDerived.Pilot.@@N@@Statement
import JvmDerived.Pilot.@@N@@Code
set_option linter.unusedVariables false
set_option linter.unusedSimpArgs false
namespace Jvm.Pilot.@@N@@
open Jvm Jvm.ClassFile Sem Op Lib Jvm.Free Jvm.Stand Jvm.LawKit Jvm.RoadKit Bundle Jvm.Pilot.@@N@@.Jvm.D
section OwnKit
variable {p : Program} {l : Launch} {e : Env} {R : Room} {s : State} {m : MethodId} {args : Array Value} {below : List Frame} {meth : Method} {c : Code} {T T' : State} {locs : List Loc} {cells slots kc kn : Nat} {Q : Option Value → Heap → List Loc → Prop} {f f' : JFrame} {pc q q' : Nat} {Ls Ls' : Array Slot} {st : List Value} {Z : State} {a0 : Array Value} {h : Heap} {by' : ByteArray} {ml : Nat} {own nm : String} {ret : Option FieldType}
/-- from this state, with this frame on top, the body returns as Q says -/
def Run (p : Program) (e : Env) (below : List Frame) (s : State) (kc kn : Nat) (Q : Option Value → Heap → List Loc → Prop) (T : State) (f : JFrame) : Prop :=
  ∃ t o, Steps p.tables e below (T.setTop f) t ∧ t.status = .running ∧ Ended t below o ∧ ∃ v L, o = .returned v ∧ Q v t.heap L ∧ FrameEnd s o t L kc kn
theorem Run.by (st : ∀ t, Steps p.tables e below (T'.setTop f') t → Steps p.tables e below (T.setTop f) t) (k : Run p e below s kc kn Q T' f') : Run p e below s kc kn Q T f := by
  obtain ⟨t, o, h1, r⟩ := k
  exact ⟨t, o, st t h1, r⟩
theorem Run.on (k : Run p e below s kc kn Q T' f') (st : Steps p.tables e below (T.setTop f) (T'.setTop f')) : Run p e below s kc kn Q T f := k.by fun _ h1 => st.trans h1
/-- what a walk knows of its method throughout -/
def Fx (p : Program) (s : State) (m : MethodId) (meth : Method) (c : Code) (by' : ByteArray) (ml : Nat) (own nm : String) (ret : Option FieldType) (Z : State) : Prop :=
  p.tables.exec = Jvm.exec ∧ c.code = by' ∧ c.maxLocals = ml ∧ s.vm.findClass own = some m.cls ∧ Z.Warmed39 s.vm ∧ meth.sig.returnType = ret ∧ meth.locks = false ∧ meth.name = nm
def ushrL (x : Int64) (k : Int32) : Int64 := (x.toUInt64 >>> (k &&& 0x3f).toInt64.toUInt64).toInt64
theorem k_lloadN (K : Fx p s m meth c by' ml own nm ret Z) (X : Stand p l e R s m args below meth c T locs cells slots) {k' : Fin 4} {v : Int64} (hd : decode by' pc = .ok (.lload_n k', 1)) (hl : Ls[k'.val]? = some (.val (.long v))) (hq : pc + 1 = q) (k : Run p e below s kc kn Q T (mkF m q Ls (.long v :: st))) : Run p e below s kc kn Q T (mkF m pc Ls st) := by
  subst hq; exact k.by fun t => XS.lloadN X.here K.1 rfl (hb K.2.1 hd) hl
theorem k_lload (K : Fx p s m meth c by' ml own nm ret Z) (X : Stand p l e R s m args below meth c T locs cells slots) {k' : Nat} {v : Int64} (hd : decode by' pc = .ok (.lload k', 2)) (hl : Ls[k']? = some (.val (.long v))) (hq : pc + 2 = q) (k : Run p e below s kc kn Q T (mkF m q Ls (.long v :: st))) : Run p e below s kc kn Q T (mkF m pc Ls st) := by
  subst hq; exact k.by fun t => XS.lload X.here K.1 rfl (hb K.2.1 hd) hl
theorem k_lstoreN (K : Fx p s m meth c by' ml own nm ret Z) (X : Stand p l e R s m args below meth c T locs cells slots) {k' : Fin 4} {v x : Int64} (hd : decode by' pc = .ok (.lstore_n k', 1)) (hv : x = v) (hl : storeLocals Ls k'.val (.long v) = some Ls') (hq : pc + 1 = q) (k : Run p e below s kc kn Q T (mkF m q Ls' st)) : Run p e below s kc kn Q T (mkF m pc Ls (.long x :: st)) := by
  subst hq hv; exact k.by fun t => XS.lstoreN X.here K.1 rfl (hb K.2.1 hd) rfl hl
theorem k_lstore (K : Fx p s m meth c by' ml own nm ret Z) (X : Stand p l e R s m args below meth c T locs cells slots) {k' : Nat} {v x : Int64} (hd : decode by' pc = .ok (.lstore k', 2)) (hv : x = v) (hl : storeLocals Ls k' (.long v) = some Ls') (hq : pc + 2 = q) (k : Run p e below s kc kn Q T (mkF m q Ls' st)) : Run p e below s kc kn Q T (mkF m pc Ls (.long x :: st)) := by
  subst hq hv; exact k.by fun t => XS.lstore X.here K.1 rfl (hb K.2.1 hd) rfl hl
theorem k_iconst (K : Fx p s m meth c by' ml own nm ret Z) (X : Stand p l e R s m args below meth c T locs cells slots) {i : Int} {v : Int32} (hd : decode by' pc = .ok (.iconst i, 1)) (hv : Int32.ofInt i = v) (hq : pc + 1 = q) (k : Run p e below s kc kn Q T (mkF m q Ls (.int v :: st))) : Run p e below s kc kn Q T (mkF m pc Ls st) := by
  subst hq hv; exact k.by fun t => XS.iconst X.here K.1 rfl (hb K.2.1 hd)
theorem k_bipush (K : Fx p s m meth c by' ml own nm ret Z) (X : Stand p l e R s m args below meth c T locs cells slots) {i : Int} {v : Int32} (hd : decode by' pc = .ok (.bipush i, 2)) (hv : (Int8.ofInt i).toInt32 = v) (hq : pc + 2 = q) (k : Run p e below s kc kn Q T (mkF m q Ls (.int v :: st))) : Run p e below s kc kn Q T (mkF m pc Ls st) := by
  subst hq hv; exact k.by fun t => XS.bipush X.here K.1 rfl (hb K.2.1 hd)
theorem k_lsub (K : Fx p s m meth c by' ml own nm ret Z) (X : Stand p l e R s m args below meth c T locs cells slots) {x y : Int64} (hd : decode by' pc = .ok (.lsub, 1)) (hq : pc + 1 = q) (k : Run p e below s kc kn Q T (mkF m q Ls (.long (x - y) :: st))) : Run p e below s kc kn Q T (mkF m pc Ls (.long y :: .long x :: st)) := by
  subst hq; exact k.by fun t => XS.lsub X.here K.1 rfl (hb K.2.1 hd) rfl
theorem k_lmul (K : Fx p s m meth c by' ml own nm ret Z) (X : Stand p l e R s m args below meth c T locs cells slots) {x y : Int64} (hd : decode by' pc = .ok (.lmul, 1)) (hq : pc + 1 = q) (k : Run p e below s kc kn Q T (mkF m q Ls (.long (x * y) :: st))) : Run p e below s kc kn Q T (mkF m pc Ls (.long y :: .long x :: st)) := by
  subst hq; exact k.by fun t => XS.lmul X.here K.1 rfl (hb K.2.1 hd) rfl
theorem k_lxor (K : Fx p s m meth c by' ml own nm ret Z) (X : Stand p l e R s m args below meth c T locs cells slots) {x y : Int64} (hd : decode by' pc = .ok (.lxor, 1)) (hq : pc + 1 = q) (k : Run p e below s kc kn Q T (mkF m q Ls (.long (x ^^^ y) :: st))) : Run p e below s kc kn Q T (mkF m pc Ls (.long y :: .long x :: st)) := by
  subst hq; exact k.by fun t => XS.lxor X.here K.1 rfl (hb K.2.1 hd) rfl
theorem k_lushr (K : Fx p s m meth c by' ml own nm ret Z) (X : Stand p l e R s m args below meth c T locs cells slots) {x : Int64} {y : Int32} (hd : decode by' pc = .ok (.lushr, 1)) (hq : pc + 1 = q) (k : Run p e below s kc kn Q T (mkF m q Ls (.long (ushrL x y) :: st))) : Run p e below s kc kn Q T (mkF m pc Ls (.int y :: .long x :: st)) := by
  subst hq; exact k.by fun t => XS.lushr X.here K.1 rfl (hb K.2.1 hd) rfl
theorem k_lcmp (K : Fx p s m meth c by' ml own nm ret Z) (X : Stand p l e R s m args below meth c T locs cells slots) {x y : Int64} (hd : decode by' pc = .ok (.lcmp, 1)) (hq : pc + 1 = q) (k : Run p e below s kc kn Q T (mkF m q Ls (.int (lcmpW x y) :: st))) : Run p e below s kc kn Q T (mkF m pc Ls (.long y :: .long x :: st)) := by
  subst hq; exact k.by fun t => XS.lcmp X.here K.1 rfl (hb K.2.1 hd) rfl
theorem k_goto (K : Fx p s m meth c by' ml own nm ret Z) (X : Stand p l e R s m args below meth c T locs cells slots) {o : Int} (hd : decode by' pc = .ok (.goto o, 3)) (ho : 0 ≤ (pc : Int) + o) (hq : ((pc : Int) + o).toNat = q) (k : Run p e below s kc kn Q T (mkF m q Ls st)) : Run p e below s kc kn Q T (mkF m pc Ls st) := k.by fun t => XS.goto X.here K.1 rfl rfl (hb K.2.1 hd) ho hq
theorem k_nameJ {x v : Int64} (hv : x = v) (k : Run p e below s kc kn Q T (mkF m pc Ls (.long v :: st))) : Run p e below s kc kn Q T (mkF m pc Ls (.long x :: st)) := by
  subst hv; exact k
theorem k_if_ne_y (K : Fx p s m meth c by' ml own nm ret Z) (X : Stand p l e R s m args below meth c T locs cells slots) {x : Int32} {o : Int} (hd : decode by' pc = .ok (.ifCond .ne o, 3)) (hc : ¬ x = 0) (ho : 0 ≤ (pc : Int) + o) (hq : ((pc : Int) + o).toNat = q) (k : Run p e below s kc kn Q T (mkF m q Ls st)) : Run p e below s kc kn Q T (mkF m pc Ls (.int x :: st)) := k.by fun t => XS.ifYes X.here K.1 rfl rfl (hb K.2.1 hd) rfl ((if0 _ _).trans (feq hc).2) ho hq
theorem k_if_ne_n (K : Fx p s m meth c by' ml own nm ret Z) (X : Stand p l e R s m args below meth c T locs cells slots) {x : Int32} {o : Int} (hd : decode by' pc = .ok (.ifCond .ne o, 3)) (hc : x = 0) (hq : pc + 3 = q) (k : Run p e below s kc kn Q T (mkF m q Ls st)) : Run p e below s kc kn Q T (mkF m pc Ls (.int x :: st)) := by
  subst hq; exact k.by fun t => XS.ifNo X.here K.1 rfl (hb K.2.1 hd) rfl ((if0 _ _).trans (teq hc).2)
theorem k_lcmp_ne_y (K : Fx p s m meth c by' ml own nm ret Z) (X : Stand p l e R s m args below meth c T locs cells slots) {x y : Int64} {o : Int} (hd : decode by' pc = .ok (.ifCond .ne o, 3)) (hc : ¬ x = y) (ho : 0 ≤ (pc : Int) + o) (hq : ((pc : Int) + o).toNat = q) (k : Run p e below s kc kn Q T (mkF m q Ls st)) : Run p e below s kc kn Q T (mkF m pc Ls (.int (lcmpW x y) :: st)) := k_if_ne_y K X hd (fun z => hc ((lw_eq x y).mp z)) ho hq k
theorem k_lcmp_ne_n (K : Fx p s m meth c by' ml own nm ret Z) (X : Stand p l e R s m args below meth c T locs cells slots) {x y : Int64} {o : Int} (hd : decode by' pc = .ok (.ifCond .ne o, 3)) (hc : x = y) (hq : pc + 3 = q) (k : Run p e below s kc kn Q T (mkF m q Ls st)) : Run p e below s kc kn Q T (mkF m pc Ls (.int (lcmpW x y) :: st)) := k_if_ne_n K X hd ((lw_eq x y).mpr hc) hq k
theorem k_lcmp_ne (K : Fx p s m meth c by' ml own nm ret Z) (X : Stand p l e R s m args below meth c T locs cells slots) {x y : Int64} {o : Int} (hd : decode by' pc = .ok (.ifCond .ne o, 3)) (ho : 0 ≤ (pc : Int) + o) (hq : ((pc : Int) + o).toNat = q) (hq' : pc + 3 = q') (ky : ¬ x = y → Run p e below s kc kn Q T (mkF m q Ls st)) (kno : x = y → Run p e below s kc kn Q T (mkF m q' Ls st)) : Run p e below s kc kn Q T (mkF m pc Ls (.int (lcmpW x y) :: st)) := by
  by_cases hc : x = y
  · exact k_lcmp_ne_n K X hd hc hq' (kno hc)
  · exact k_lcmp_ne_y K X hd hc ho hq (ky hc)
theorem k_ldc2 (K : Fx p s m meth c by' ml own nm ret Z) (X : Stand p l e R s m args below meth c T locs cells slots) {i : Nat} {v : Int64} (hd : decode by' pc = .ok (.ldc2_w i, 3)) (w : (Cond.constantLong own i v).before a0 Z = true) (hq : pc + 3 = q) (k : Run p e below s kc kn Q T (mkF m q Ls (.long v :: st))) : Run p e below s kc kn Q T (mkF m pc Ls st) := by
  subst hq; exact k.by fun t => X.ldc2Long K.1 K.2.2.2.1 (mvT K.2.2.2.2.1 w) (g := mkF m pc Ls st) rfl (hb K.2.1 hd) t
theorem k_retz (K : Fx p s m meth c by' ml own nm (some .boolean) Z) (X : Stand p l e R s m args below meth c T locs cells slots) {x : Int32} (eT : T.heap = h) (hd : decode by' pc = .ok (.ireturn, 1)) (hc : cells ≤ kc) (hn : slots ≤ kn) (hQ : Q (some (.int (nar .boolean x))) h locs) : Run p e below s kc kn Q T (mkF m pc Ls [.int x]) := by
  subst eT
  have hlk := K.2.2.2.2.2.2.1
  obtain ⟨fs, hr, hrun, hended, hW, hsame⟩ := X.leave (v := (some (.int (nar .boolean x)))) (fun z => by rw [K.2.2.2.2.2.1] at z; cases z)
  exact ⟨_, _, retN X K.1 K.2.2.2.2.2.1 (by simp) (hb K.2.1 hd) hr, hrun, hended, _, _, rfl, hQ, ⟨_, rfl⟩, hW, hsame.mono hc hn⟩
theorem k_retl (K : Fx p s m meth c by' ml own nm (some .long) Z) (X : Stand p l e R s m args below meth c T locs cells slots) {x : Int64} (eT : T.heap = h) (hd : decode by' pc = .ok (.lreturn, 1)) (hc : cells ≤ kc) (hn : slots ≤ kn) (hQ : Q (some (.long x)) h locs) : Run p e below s kc kn Q T (mkF m pc Ls [.long x]) := by
  subst eT
  have hlk := K.2.2.2.2.2.2.1
  obtain ⟨fs, hr, hrun, hended, hW, hsame⟩ := X.leave (v := (some (.long x))) (fun z => by rw [K.2.2.2.2.2.1] at z; cases z)
  exact ⟨_, _, X.lreturnOut K.1 K.2.2.2.2.2.1 (hb K.2.1 hd) hr, hrun, hended, _, _, rfl, hQ, ⟨_, rfl⟩, hW, hsame.mono hc hn⟩
/-- a contract: with these arguments over this heap the body returns as Q says, within the room -/
abbrev Met (l : Launch) (y : MethodName) (bytes : ByteArray) (maxL : Nat) (ret : Option FieldType) (ws : List Jvm.Cond) (rm : Room) (Z : State) (as' : Array Value) (h0 : Heap) (Q : Option Value → Heap → List Loc → Prop) : Prop :=
  MetFree l y (head1 (Jvm.Cond.code y bytes maxL ret :: ws) rm) (fun a U => a = as' ∧ Z.Warmed39 U.vm ∧ U.heap = h0) (fun _ _ _ _ _ => True) (fun _ U o U' => ∃ v L, o = .returned v ∧ Q v U'.heap L ∧ FrameEnd U o U' L rm.cells rm.slots)
theorem enter {y : MethodName} {bytes : ByteArray} {maxL : Nat} {ws : List Jvm.Cond} {rm : Room} {as' : Array Value} {h0 : Heap} (hpl : plainFor y = true) (hef : ∀ m, entryFrame m as' maxL = mkF m 0 Ls [])
    (body : ∀ p e s m below meth c T kc kn Q', rm.cells ≤ kc → rm.slots ≤ kn → (∀ v h L, Q v h L → Q' v h L) → Fx p s m meth c bytes maxL y.cls y.name ret Z → Stand p l e rm s m as' below meth c T [] 0 0 → T.heap = h0 → Run p e below s kc kn Q' T (mkF m 0 Ls [])) : Met l y bytes maxL ret ws rm Z as' h0 Q := by
  refine MetFree.of_bodySF hpl hisR ?_
  intro p e s m args below meth c s₁ Bd hml0 hP hK
  obtain ⟨rfl, hZ, hh⟩ := hP
  obtain ⟨t, o, h1, h2, h3, v, L, h4, h5, h6⟩ := body p e s m below meth c s₁ _ _ Q (Nat.le_refl _) (Nat.le_refl _) (fun _ _ _ z => z) ⟨Bd.exec, Bd.bytes, hml0, findClass_of_methodNamed Bd.named, hZ, Bd.returns, BodyLoose.notSynchronized Bd, (name_of_methodNamed Bd.named Bd.method).1⟩ (Stand.of_body Bd) (by rw [← hh, Bd.state]; rfl)
  exact ⟨t, o, castTop (hef m) h1, h2, h3, v, L, h4, h5, h6⟩
theorem k_static (K : Fx p s m meth c by' ml own nm ret Z) (X : Stand p l e R s m args below meth c T locs cells slots) (eT : T.heap = h) {y : MethodName} {bytes : ByteArray} {maxL i W : Nat} {rt : Option FieldType} {rm : Room} {as' : Array Value} {Q' : Option Value → Heap → List Loc → Prop}
    (hd : decode by' pc = .ok (.invokestatic i, 3)) (w1 : (Cond.methodLink own i y).before a0 Z = true) (w2 : (Cond.static y).before a0 Z = true) (w3 : (Cond.initialized y.cls).before a0 Z = true) (w4 : (Cond.code y bytes maxL rt).before a0 Z = true) (hy : y.cls ≠ "java/lang/invoke/MethodHandle" ∧ y.cls ≠ "java/lang/invoke/VarHandle")
    (hM : Met l y bytes maxL rt [] rm Z as' h Q') (hf : rm.frames + 1 ≤ R.frames) (hl : W + (maxL + 11) + rm.locals ≤ R.locals) (hc : cells + rm.cells ≤ R.cells) (hn : slots + rm.slots ≤ R.slots) (hsz : Ls.size = ml)
    {sig : MethodDescriptor} (hdesc : parseMethodDescriptor y.desc = some sig) {argsL rest : List Value} (ha : as' = argsL.toArray) (hlen : argsL.length = sig.parameters.length) (hst : st = argsL.reverse ++ rest) (hW : (rest.map fun v => v.category).sum ≤ W) (hq : pc + 3 = q)
    (k : ∀ v T' L, Stand p l e R s m args below meth c T' (locs ++ L) (cells + rm.cells) (slots + rm.slots) → Q' v T'.heap L → Run p e below s kc kn Q T' (mkF m q Ls (v.toList ++ rest))) : Run p e below s kc kn Q T (mkF m pc Ls st) := by
  have hZ := K.2.2.2.2.1
  subst hq
  obtain ⟨v, _, ⟨T2, L2, k2, n2⟩, -, X2, ⟨Lc, hQ2, l2, y2, z2⟩, st2⟩ := Jvm.LawKit.callS X K.1 (y := y) K.2.2.2.1 (mvT hZ w1) (mvT hZ w2) (mvT hZ w3) (mvT hZ w4) hy (backOf (W := W) hM hZ w4 w3 hf hl) (g := mkF m pc Ls st) rfl (by rw [K.2.2.1]; exact hsz) (argsL := argsL) (rest := rest) (fun sg hs => by cases hdesc.symm.trans hs; exact hlen) hst (by show 2 * 0 + _ ≤ _; omega) (hb K.2.1 hd) (fun _ _ => ⟨ha.symm, eT, hc, hn⟩)
  dsimp only [Pt.U, Pt.locs, Pt.cells, Pt.slots] at X2 l2 y2 z2 st2 hQ2
  subst l2 y2 z2
  exact (k v T2 Lc X2 hQ2).by st2
/-- a static callee that leaves the heap as it was -/
theorem k_staticP (K : Fx p s m meth c by' ml own nm ret Z) (X : Stand p l e R s m args below meth c T locs cells slots) (eT : T.heap = h) {y : MethodName} {bytes : ByteArray} {maxL i W fr lo : Nat} {rt : Option FieldType} {as' : Array Value} {w : Value}
    (hd : decode by' pc = .ok (.invokestatic i, 3)) (w1 : (Cond.methodLink own i y).before a0 Z = true) (w2 : (Cond.static y).before a0 Z = true) (w3 : (Cond.initialized y.cls).before a0 Z = true) (w4 : (Cond.code y bytes maxL rt).before a0 Z = true) (hy : y.cls ≠ "java/lang/invoke/MethodHandle" ∧ y.cls ≠ "java/lang/invoke/VarHandle")
    (hM : Met l y bytes maxL rt [] { frames := fr, cells := 0, slots := 0, locals := lo } Z as' h (fun v h' L => v = some w ∧ h' = h ∧ L = [])) (hf : fr + 1 ≤ R.frames) (hl : W + (maxL + 11) + lo ≤ R.locals) (hc : cells ≤ R.cells) (hn : slots ≤ R.slots) (hsz : Ls.size = ml)
    {sig : MethodDescriptor} (hdesc : parseMethodDescriptor y.desc = some sig) {argsL rest : List Value} (ha : as' = argsL.toArray) (hlen : argsL.length = sig.parameters.length) (hst : st = argsL.reverse ++ rest) (hW : (rest.map fun v => v.category).sum ≤ W) (hq : pc + 3 = q)
    (k : ∀ T', Stand p l e R s m args below meth c T' locs cells slots → T'.heap = h → Run p e below s kc kn Q T' (mkF m q Ls (w :: rest))) : Run p e below s kc kn Q T (mkF m pc Ls st) := by
  refine k_static K X eT hd w1 w2 w3 w4 hy hM hf hl hc hn hsz hdesc ha hlen hst hW hq ?_
  rintro v T' L X' ⟨rfl, h2, rfl⟩
  rw [List.append_nil] at X'
  exact k T' X' h2
/-- the int j is the place i -/
def Ix (j : Int32) (i : Nat) : Prop := ¬ j < 0 ∧ j.toNatClampNeg = i
theorem Ix.of {j : Int32} {i : Nat} (h : j.toInt = i) : Ix j i := by
  refine ⟨?_, ?_⟩
  · rw [Int32.lt_iff_toInt_lt, h]; have : (0 : Int32).toInt = 0 := rfl
    omega
  · simp only [Int32.toNatClampNeg, h]; omega
end OwnKit

theorem wd {Z : State} {az : Array Value} (hw : ∀ d ∈ tables_1, d.before az Z = true) (k : Nat) {d : Jvm.Cond} (h : tables_1[k]? = some d) : d.before az Z = true := hw _ (List.mem_of_getElem? h)
theorem d1_0 : decode prog_4_method_3_code 0 = .ok (.lload_n 0, 1) := by decide +kernel
theorem d1_1 : decode prog_4_method_3_code 1 = .ok (.lload_n 0, 1) := by decide +kernel
theorem d1_2 : decode prog_4_method_3_code 2 = .ok (.bipush 30, 2) := by decide +kernel
theorem d1_4 : decode prog_4_method_3_code 4 = .ok (.lushr, 1) := by decide +kernel
theorem d1_5 : decode prog_4_method_3_code 5 = .ok (.lxor, 1) := by decide +kernel
theorem d1_6 : decode prog_4_method_3_code 6 = .ok (.ldc2_w 23, 3) := by decide +kernel
theorem d1_9 : decode prog_4_method_3_code 9 = .ok (.lmul, 1) := by decide +kernel
theorem d1_10 : decode prog_4_method_3_code 10 = .ok (.lstore_n 2, 1) := by decide +kernel
theorem d1_11 : decode prog_4_method_3_code 11 = .ok (.lload_n 2, 1) := by decide +kernel
theorem d1_12 : decode prog_4_method_3_code 12 = .ok (.lload_n 2, 1) := by decide +kernel
theorem d1_13 : decode prog_4_method_3_code 13 = .ok (.bipush 27, 2) := by decide +kernel
theorem d1_15 : decode prog_4_method_3_code 15 = .ok (.lushr, 1) := by decide +kernel
theorem d1_16 : decode prog_4_method_3_code 16 = .ok (.lxor, 1) := by decide +kernel
theorem d1_17 : decode prog_4_method_3_code 17 = .ok (.ldc2_w 25, 3) := by decide +kernel
theorem d1_20 : decode prog_4_method_3_code 20 = .ok (.lmul, 1) := by decide +kernel
theorem d1_21 : decode prog_4_method_3_code 21 = .ok (.lstore_n 2, 1) := by decide +kernel
theorem d1_22 : decode prog_4_method_3_code 22 = .ok (.lload_n 2, 1) := by decide +kernel
theorem d1_23 : decode prog_4_method_3_code 23 = .ok (.lload_n 2, 1) := by decide +kernel
theorem d1_24 : decode prog_4_method_3_code 24 = .ok (.bipush 31, 2) := by decide +kernel
theorem d1_26 : decode prog_4_method_3_code 26 = .ok (.lushr, 1) := by decide +kernel
theorem d1_27 : decode prog_4_method_3_code 27 = .ok (.lxor, 1) := by decide +kernel
theorem d1_28 : decode prog_4_method_3_code 28 = .ok (.lreturn, 1) := by decide +kernel
theorem ef_1 (q0 : Int64) : ∀ m : MethodId, entryFrame m #[(.long q0)] 4 = mkF m 0 #[.val (.long q0), .second, .unset, .unset] [] := by intro m; first | (simp [entryFrame, mkF, argsToLocals, Value.category]; done) | rfl
theorem pn_0 : plainName "com/example/adiq/adiq/broker/KeyHash" = true := by first | (simp [plainName, overriddenIn]; done) | decide +kernel
def F_mix (q0 : Int64) : Int64 :=
  let v1 : Int64 := ((q0 ^^^ (ushrL q0 (30 : Int32))) * (-4658895280553007687 : Int64))
  let v2 : Int64 := ((v1 ^^^ (ushrL v1 (27 : Int32))) * (-7723592293110705685 : Int64))
  (v2 ^^^ (ushrL v2 (31 : Int32)))
set_option maxRecDepth 65536 in
set_option maxHeartbeats 40000000 in
theorem rm1 (l : Launch) (Z : State) (az : Array Value) (hw : ∀ d ∈ tables_1, d.before az Z = true) (ws : List Jvm.Cond) (q0 : Int64) (h0 : Heap) :
    Met l (⟨"com/example/adiq/adiq/broker/KeyHash", "mix", "(J)J"⟩ : MethodName) prog_4_method_3_code 4 (some .long) ws ({ frames := 0, cells := 0, slots := 0, locals := 0 } : Room) Z #[(.long q0)] h0 (fun v h' L => v = some (Value.long (F_mix q0)) ∧ h' = h0 ∧ L = []) := by
  refine enter (plainFor_of_name pn_0) (ef_1 q0) ?_
  intro p e s m below meth c T0 kc kn Q hkc hkn hQ K' X0 e0
  have K : Fx p s m meth c prog_4_method_3_code 4 "com/example/adiq/adiq/broker/KeyHash" "mix" (some .long) Z := K'
  refine k_lloadN K X0 d1_0 rfl (q := 1) rfl ?_
  refine k_lloadN K X0 d1_1 rfl (q := 2) rfl ?_
  refine k_bipush K X0 d1_2 (v := (30 : Int32)) rfl (q := 4) rfl ?_
  refine k_lushr K X0 d1_4 (q := 5) rfl ?_
  refine k_lxor K X0 d1_5 (q := 6) rfl ?_
  refine k_ldc2 K X0 d1_6 (wd hw 4 rfl) (q := 9) rfl ?_
  refine k_lmul K X0 d1_9 (q := 10) rfl ?_
  obtain ⟨v1, hv_v1⟩ : ∃ z : Int64, ((q0 ^^^ (ushrL q0 (30 : Int32))) * (-4658895280553007687 : Int64)) = z := ⟨_, rfl⟩
  refine k_lstoreN K X0 d1_10 hv_v1 (Ls' := #[.val (.long q0), .second, .val (.long v1), .second]) rfl (q := 11) rfl ?_
  refine k_lloadN K X0 d1_11 rfl (q := 12) rfl ?_
  refine k_lloadN K X0 d1_12 rfl (q := 13) rfl ?_
  refine k_bipush K X0 d1_13 (v := (27 : Int32)) rfl (q := 15) rfl ?_
  refine k_lushr K X0 d1_15 (q := 16) rfl ?_
  refine k_lxor K X0 d1_16 (q := 17) rfl ?_
  refine k_ldc2 K X0 d1_17 (wd hw 5 rfl) (q := 20) rfl ?_
  refine k_lmul K X0 d1_20 (q := 21) rfl ?_
  obtain ⟨v2, hv_v2⟩ : ∃ z : Int64, ((v1 ^^^ (ushrL v1 (27 : Int32))) * (-7723592293110705685 : Int64)) = z := ⟨_, rfl⟩
  refine k_lstoreN K X0 d1_21 hv_v2 (Ls' := #[.val (.long q0), .second, .val (.long v2), .second]) rfl (q := 22) rfl ?_
  refine k_lloadN K X0 d1_22 rfl (q := 23) rfl ?_
  refine k_lloadN K X0 d1_23 rfl (q := 24) rfl ?_
  refine k_bipush K X0 d1_24 (v := (31 : Int32)) rfl (q := 26) rfl ?_
  refine k_lushr K X0 d1_26 (q := 27) rfl ?_
  refine k_lxor K X0 d1_27 (q := 28) rfl ?_
  exact k_retl K X0 e0 d1_28 (Nat.le_trans (by decide) hkc) (Nat.le_trans (by decide) hkn) (hQ _ _ _ ⟨(by show some (Value.long (v2 ^^^ (ushrL v2 (31 : Int32)))) = some (Value.long (F_mix q0)); simp only [F_mix, hv_v1, hv_v2]), rfl, rfl⟩)
theorem d3_0 : decode method_3_code 0 = .ok (.lload_n 0, 1) := by decide +kernel
theorem d3_1 : decode method_3_code 1 = .ok (.lload_n 0, 1) := by decide +kernel
theorem d3_2 : decode method_3_code 2 = .ok (.bipush 31, 2) := by decide +kernel
theorem d3_4 : decode method_3_code 4 = .ok (.lushr, 1) := by decide +kernel
theorem d3_5 : decode method_3_code 5 = .ok (.lxor, 1) := by decide +kernel
theorem d3_6 : decode method_3_code 6 = .ok (.lstore_n 2, 1) := by decide +kernel
theorem d3_7 : decode method_3_code 7 = .ok (.lload_n 2, 1) := by decide +kernel
theorem d3_8 : decode method_3_code 8 = .ok (.lload_n 2, 1) := by decide +kernel
theorem d3_9 : decode method_3_code 9 = .ok (.bipush 62, 2) := by decide +kernel
theorem d3_11 : decode method_3_code 11 = .ok (.lushr, 1) := by decide +kernel
theorem d3_12 : decode method_3_code 12 = .ok (.lxor, 1) := by decide +kernel
theorem d3_13 : decode method_3_code 13 = .ok (.lreturn, 1) := by decide +kernel
theorem ef_3 (q0 : Int64) : ∀ m : MethodId, entryFrame m #[(.long q0)] 4 = mkF m 0 #[.val (.long q0), .second, .unset, .unset] [] := by intro m; first | (simp [entryFrame, mkF, argsToLocals, Value.category]; done) | rfl
theorem pn_1 : plainName "com/example/adiq/adiq/broker/KeyHashMixPinLaw" = true := by first | (simp [plainName, overriddenIn]; done) | decide +kernel
def F_unshift31 (q0 : Int64) : Int64 :=
  let v3 : Int64 := (q0 ^^^ (ushrL q0 (31 : Int32)))
  (v3 ^^^ (ushrL v3 (62 : Int32)))
set_option maxRecDepth 65536 in
set_option maxHeartbeats 40000000 in
theorem rm3 (l : Launch) (Z : State) (az : Array Value) (hw : ∀ d ∈ tables_1, d.before az Z = true) (ws : List Jvm.Cond) (q0 : Int64) (h0 : Heap) :
    Met l (⟨"com/example/adiq/adiq/broker/KeyHashMixPinLaw", "unshift31", "(J)J"⟩ : MethodName) method_3_code 4 (some .long) ws ({ frames := 0, cells := 0, slots := 0, locals := 0 } : Room) Z #[(.long q0)] h0 (fun v h' L => v = some (Value.long (F_unshift31 q0)) ∧ h' = h0 ∧ L = []) := by
  refine enter (plainFor_of_name pn_1) (ef_3 q0) ?_
  intro p e s m below meth c T0 kc kn Q hkc hkn hQ K' X0 e0
  have K : Fx p s m meth c method_3_code 4 "com/example/adiq/adiq/broker/KeyHashMixPinLaw" "unshift31" (some .long) Z := K'
  refine k_lloadN K X0 d3_0 rfl (q := 1) rfl ?_
  refine k_lloadN K X0 d3_1 rfl (q := 2) rfl ?_
  refine k_bipush K X0 d3_2 (v := (31 : Int32)) rfl (q := 4) rfl ?_
  refine k_lushr K X0 d3_4 (q := 5) rfl ?_
  refine k_lxor K X0 d3_5 (q := 6) rfl ?_
  obtain ⟨v3, hv_v3⟩ : ∃ z : Int64, (q0 ^^^ (ushrL q0 (31 : Int32))) = z := ⟨_, rfl⟩
  refine k_lstoreN K X0 d3_6 hv_v3 (Ls' := #[.val (.long q0), .second, .val (.long v3), .second]) rfl (q := 7) rfl ?_
  refine k_lloadN K X0 d3_7 rfl (q := 8) rfl ?_
  refine k_lloadN K X0 d3_8 rfl (q := 9) rfl ?_
  refine k_bipush K X0 d3_9 (v := (62 : Int32)) rfl (q := 11) rfl ?_
  refine k_lushr K X0 d3_11 (q := 12) rfl ?_
  refine k_lxor K X0 d3_12 (q := 13) rfl ?_
  exact k_retl K X0 e0 d3_13 (Nat.le_trans (by decide) hkc) (Nat.le_trans (by decide) hkn) (hQ _ _ _ ⟨(by show some (Value.long (v3 ^^^ (ushrL v3 (62 : Int32)))) = some (Value.long (F_unshift31 q0)); simp only [F_unshift31, hv_v3]), rfl, rfl⟩)
theorem d4_0 : decode method_2_code 0 = .ok (.lload_n 0, 1) := by decide +kernel
theorem d4_1 : decode method_2_code 1 = .ok (.lstore_n 2, 1) := by decide +kernel
theorem d4_2 : decode method_2_code 2 = .ok (.lload_n 2, 1) := by decide +kernel
theorem d4_3 : decode method_2_code 3 = .ok (.ldc2_w 7, 3) := by decide +kernel
theorem d4_6 : decode method_2_code 6 = .ok (.lload_n 0, 1) := by decide +kernel
theorem d4_7 : decode method_2_code 7 = .ok (.lload_n 2, 1) := by decide +kernel
theorem d4_8 : decode method_2_code 8 = .ok (.lmul, 1) := by decide +kernel
theorem d4_9 : decode method_2_code 9 = .ok (.lsub, 1) := by decide +kernel
theorem d4_10 : decode method_2_code 10 = .ok (.lmul, 1) := by decide +kernel
theorem d4_11 : decode method_2_code 11 = .ok (.lstore_n 2, 1) := by decide +kernel
theorem d4_12 : decode method_2_code 12 = .ok (.lload_n 2, 1) := by decide +kernel
theorem d4_13 : decode method_2_code 13 = .ok (.ldc2_w 7, 3) := by decide +kernel
theorem d4_16 : decode method_2_code 16 = .ok (.lload_n 0, 1) := by decide +kernel
theorem d4_17 : decode method_2_code 17 = .ok (.lload_n 2, 1) := by decide +kernel
theorem d4_18 : decode method_2_code 18 = .ok (.lmul, 1) := by decide +kernel
theorem d4_19 : decode method_2_code 19 = .ok (.lsub, 1) := by decide +kernel
theorem d4_20 : decode method_2_code 20 = .ok (.lmul, 1) := by decide +kernel
theorem d4_21 : decode method_2_code 21 = .ok (.lstore_n 2, 1) := by decide +kernel
theorem d4_22 : decode method_2_code 22 = .ok (.lload_n 2, 1) := by decide +kernel
theorem d4_23 : decode method_2_code 23 = .ok (.ldc2_w 7, 3) := by decide +kernel
theorem d4_26 : decode method_2_code 26 = .ok (.lload_n 0, 1) := by decide +kernel
theorem d4_27 : decode method_2_code 27 = .ok (.lload_n 2, 1) := by decide +kernel
theorem d4_28 : decode method_2_code 28 = .ok (.lmul, 1) := by decide +kernel
theorem d4_29 : decode method_2_code 29 = .ok (.lsub, 1) := by decide +kernel
theorem d4_30 : decode method_2_code 30 = .ok (.lmul, 1) := by decide +kernel
theorem d4_31 : decode method_2_code 31 = .ok (.lstore_n 2, 1) := by decide +kernel
theorem d4_32 : decode method_2_code 32 = .ok (.lload_n 2, 1) := by decide +kernel
theorem d4_33 : decode method_2_code 33 = .ok (.ldc2_w 7, 3) := by decide +kernel
theorem d4_36 : decode method_2_code 36 = .ok (.lload_n 0, 1) := by decide +kernel
theorem d4_37 : decode method_2_code 37 = .ok (.lload_n 2, 1) := by decide +kernel
theorem d4_38 : decode method_2_code 38 = .ok (.lmul, 1) := by decide +kernel
theorem d4_39 : decode method_2_code 39 = .ok (.lsub, 1) := by decide +kernel
theorem d4_40 : decode method_2_code 40 = .ok (.lmul, 1) := by decide +kernel
theorem d4_41 : decode method_2_code 41 = .ok (.lstore_n 2, 1) := by decide +kernel
theorem d4_42 : decode method_2_code 42 = .ok (.lload_n 2, 1) := by decide +kernel
theorem d4_43 : decode method_2_code 43 = .ok (.ldc2_w 7, 3) := by decide +kernel
theorem d4_46 : decode method_2_code 46 = .ok (.lload_n 0, 1) := by decide +kernel
theorem d4_47 : decode method_2_code 47 = .ok (.lload_n 2, 1) := by decide +kernel
theorem d4_48 : decode method_2_code 48 = .ok (.lmul, 1) := by decide +kernel
theorem d4_49 : decode method_2_code 49 = .ok (.lsub, 1) := by decide +kernel
theorem d4_50 : decode method_2_code 50 = .ok (.lmul, 1) := by decide +kernel
theorem d4_51 : decode method_2_code 51 = .ok (.lstore_n 2, 1) := by decide +kernel
theorem d4_52 : decode method_2_code 52 = .ok (.lload_n 2, 1) := by decide +kernel
theorem d4_53 : decode method_2_code 53 = .ok (.ldc2_w 7, 3) := by decide +kernel
theorem d4_56 : decode method_2_code 56 = .ok (.lload_n 0, 1) := by decide +kernel
theorem d4_57 : decode method_2_code 57 = .ok (.lload_n 2, 1) := by decide +kernel
theorem d4_58 : decode method_2_code 58 = .ok (.lmul, 1) := by decide +kernel
theorem d4_59 : decode method_2_code 59 = .ok (.lsub, 1) := by decide +kernel
theorem d4_60 : decode method_2_code 60 = .ok (.lmul, 1) := by decide +kernel
theorem d4_61 : decode method_2_code 61 = .ok (.lstore_n 2, 1) := by decide +kernel
theorem d4_62 : decode method_2_code 62 = .ok (.lload_n 2, 1) := by decide +kernel
theorem d4_63 : decode method_2_code 63 = .ok (.lreturn, 1) := by decide +kernel
theorem ef_4 (q0 : Int64) : ∀ m : MethodId, entryFrame m #[(.long q0)] 4 = mkF m 0 #[.val (.long q0), .second, .unset, .unset] [] := by intro m; first | (simp [entryFrame, mkF, argsToLocals, Value.category]; done) | rfl
def F_inverse (q0 : Int64) : Int64 :=
  let v4 : Int64 := (q0 * ((2 : Int64) - (q0 * q0)))
  let v5 : Int64 := (v4 * ((2 : Int64) - (q0 * v4)))
  let v6 : Int64 := (v5 * ((2 : Int64) - (q0 * v5)))
  let v7 : Int64 := (v6 * ((2 : Int64) - (q0 * v6)))
  let v8 : Int64 := (v7 * ((2 : Int64) - (q0 * v7)))
  let v9 : Int64 := (v8 * ((2 : Int64) - (q0 * v8)))
  v9
set_option maxRecDepth 65536 in
set_option maxHeartbeats 40000000 in
theorem rm4 (l : Launch) (Z : State) (az : Array Value) (hw : ∀ d ∈ tables_1, d.before az Z = true) (ws : List Jvm.Cond) (q0 : Int64) (h0 : Heap) :
    Met l (⟨"com/example/adiq/adiq/broker/KeyHashMixPinLaw", "inverse", "(J)J"⟩ : MethodName) method_2_code 4 (some .long) ws ({ frames := 0, cells := 0, slots := 0, locals := 0 } : Room) Z #[(.long q0)] h0 (fun v h' L => v = some (Value.long (F_inverse q0)) ∧ h' = h0 ∧ L = []) := by
  refine enter (plainFor_of_name pn_1) (ef_4 q0) ?_
  intro p e s m below meth c T0 kc kn Q hkc hkn hQ K' X0 e0
  have K : Fx p s m meth c method_2_code 4 "com/example/adiq/adiq/broker/KeyHashMixPinLaw" "inverse" (some .long) Z := K'
  refine k_lloadN K X0 d4_0 rfl (q := 1) rfl ?_
  refine k_lstoreN K X0 d4_1 rfl (Ls' := #[.val (.long q0), .second, .val (.long q0), .second]) rfl (q := 2) rfl ?_
  refine k_lloadN K X0 d4_2 rfl (q := 3) rfl ?_
  refine k_ldc2 K X0 d4_3 (wd hw 17 rfl) (q := 6) rfl ?_
  refine k_lloadN K X0 d4_6 rfl (q := 7) rfl ?_
  refine k_lloadN K X0 d4_7 rfl (q := 8) rfl ?_
  refine k_lmul K X0 d4_8 (q := 9) rfl ?_
  refine k_lsub K X0 d4_9 (q := 10) rfl ?_
  refine k_lmul K X0 d4_10 (q := 11) rfl ?_
  obtain ⟨v4, hv_v4⟩ : ∃ z : Int64, (q0 * ((2 : Int64) - (q0 * q0))) = z := ⟨_, rfl⟩
  refine k_lstoreN K X0 d4_11 hv_v4 (Ls' := #[.val (.long q0), .second, .val (.long v4), .second]) rfl (q := 12) rfl ?_
  refine k_lloadN K X0 d4_12 rfl (q := 13) rfl ?_
  refine k_ldc2 K X0 d4_13 (wd hw 17 rfl) (q := 16) rfl ?_
  refine k_lloadN K X0 d4_16 rfl (q := 17) rfl ?_
  refine k_lloadN K X0 d4_17 rfl (q := 18) rfl ?_
  refine k_lmul K X0 d4_18 (q := 19) rfl ?_
  refine k_lsub K X0 d4_19 (q := 20) rfl ?_
  refine k_lmul K X0 d4_20 (q := 21) rfl ?_
  obtain ⟨v5, hv_v5⟩ : ∃ z : Int64, (v4 * ((2 : Int64) - (q0 * v4))) = z := ⟨_, rfl⟩
  refine k_lstoreN K X0 d4_21 hv_v5 (Ls' := #[.val (.long q0), .second, .val (.long v5), .second]) rfl (q := 22) rfl ?_
  refine k_lloadN K X0 d4_22 rfl (q := 23) rfl ?_
  refine k_ldc2 K X0 d4_23 (wd hw 17 rfl) (q := 26) rfl ?_
  refine k_lloadN K X0 d4_26 rfl (q := 27) rfl ?_
  refine k_lloadN K X0 d4_27 rfl (q := 28) rfl ?_
  refine k_lmul K X0 d4_28 (q := 29) rfl ?_
  refine k_lsub K X0 d4_29 (q := 30) rfl ?_
  refine k_lmul K X0 d4_30 (q := 31) rfl ?_
  obtain ⟨v6, hv_v6⟩ : ∃ z : Int64, (v5 * ((2 : Int64) - (q0 * v5))) = z := ⟨_, rfl⟩
  refine k_lstoreN K X0 d4_31 hv_v6 (Ls' := #[.val (.long q0), .second, .val (.long v6), .second]) rfl (q := 32) rfl ?_
  refine k_lloadN K X0 d4_32 rfl (q := 33) rfl ?_
  refine k_ldc2 K X0 d4_33 (wd hw 17 rfl) (q := 36) rfl ?_
  refine k_lloadN K X0 d4_36 rfl (q := 37) rfl ?_
  refine k_lloadN K X0 d4_37 rfl (q := 38) rfl ?_
  refine k_lmul K X0 d4_38 (q := 39) rfl ?_
  refine k_lsub K X0 d4_39 (q := 40) rfl ?_
  refine k_lmul K X0 d4_40 (q := 41) rfl ?_
  obtain ⟨v7, hv_v7⟩ : ∃ z : Int64, (v6 * ((2 : Int64) - (q0 * v6))) = z := ⟨_, rfl⟩
  refine k_lstoreN K X0 d4_41 hv_v7 (Ls' := #[.val (.long q0), .second, .val (.long v7), .second]) rfl (q := 42) rfl ?_
  refine k_lloadN K X0 d4_42 rfl (q := 43) rfl ?_
  refine k_ldc2 K X0 d4_43 (wd hw 17 rfl) (q := 46) rfl ?_
  refine k_lloadN K X0 d4_46 rfl (q := 47) rfl ?_
  refine k_lloadN K X0 d4_47 rfl (q := 48) rfl ?_
  refine k_lmul K X0 d4_48 (q := 49) rfl ?_
  refine k_lsub K X0 d4_49 (q := 50) rfl ?_
  refine k_lmul K X0 d4_50 (q := 51) rfl ?_
  obtain ⟨v8, hv_v8⟩ : ∃ z : Int64, (v7 * ((2 : Int64) - (q0 * v7))) = z := ⟨_, rfl⟩
  refine k_lstoreN K X0 d4_51 hv_v8 (Ls' := #[.val (.long q0), .second, .val (.long v8), .second]) rfl (q := 52) rfl ?_
  refine k_lloadN K X0 d4_52 rfl (q := 53) rfl ?_
  refine k_ldc2 K X0 d4_53 (wd hw 17 rfl) (q := 56) rfl ?_
  refine k_lloadN K X0 d4_56 rfl (q := 57) rfl ?_
  refine k_lloadN K X0 d4_57 rfl (q := 58) rfl ?_
  refine k_lmul K X0 d4_58 (q := 59) rfl ?_
  refine k_lsub K X0 d4_59 (q := 60) rfl ?_
  refine k_lmul K X0 d4_60 (q := 61) rfl ?_
  obtain ⟨v9, hv_v9⟩ : ∃ z : Int64, (v8 * ((2 : Int64) - (q0 * v8))) = z := ⟨_, rfl⟩
  refine k_lstoreN K X0 d4_61 hv_v9 (Ls' := #[.val (.long q0), .second, .val (.long v9), .second]) rfl (q := 62) rfl ?_
  refine k_lloadN K X0 d4_62 rfl (q := 63) rfl ?_
  exact k_retl K X0 e0 d4_63 (Nat.le_trans (by decide) hkc) (Nat.le_trans (by decide) hkn) (hQ _ _ _ ⟨(by show some (Value.long v9) = some (Value.long (F_inverse q0)); simp only [F_inverse, hv_v4, hv_v5, hv_v6, hv_v7, hv_v8, hv_v9]), rfl, rfl⟩)
theorem d5_0 : decode method_4_code 0 = .ok (.lload_n 0, 1) := by decide +kernel
theorem d5_1 : decode method_4_code 1 = .ok (.lload_n 0, 1) := by decide +kernel
theorem d5_2 : decode method_4_code 2 = .ok (.bipush 27, 2) := by decide +kernel
theorem d5_4 : decode method_4_code 4 = .ok (.lushr, 1) := by decide +kernel
theorem d5_5 : decode method_4_code 5 = .ok (.lxor, 1) := by decide +kernel
theorem d5_6 : decode method_4_code 6 = .ok (.lstore_n 2, 1) := by decide +kernel
theorem d5_7 : decode method_4_code 7 = .ok (.lload_n 2, 1) := by decide +kernel
theorem d5_8 : decode method_4_code 8 = .ok (.lload_n 2, 1) := by decide +kernel
theorem d5_9 : decode method_4_code 9 = .ok (.bipush 54, 2) := by decide +kernel
theorem d5_11 : decode method_4_code 11 = .ok (.lushr, 1) := by decide +kernel
theorem d5_12 : decode method_4_code 12 = .ok (.lxor, 1) := by decide +kernel
theorem d5_13 : decode method_4_code 13 = .ok (.lreturn, 1) := by decide +kernel
theorem ef_5 (q0 : Int64) : ∀ m : MethodId, entryFrame m #[(.long q0)] 4 = mkF m 0 #[.val (.long q0), .second, .unset, .unset] [] := by intro m; first | (simp [entryFrame, mkF, argsToLocals, Value.category]; done) | rfl
def F_unshift27 (q0 : Int64) : Int64 :=
  let v10 : Int64 := (q0 ^^^ (ushrL q0 (27 : Int32)))
  (v10 ^^^ (ushrL v10 (54 : Int32)))
set_option maxRecDepth 65536 in
set_option maxHeartbeats 40000000 in
theorem rm5 (l : Launch) (Z : State) (az : Array Value) (hw : ∀ d ∈ tables_1, d.before az Z = true) (ws : List Jvm.Cond) (q0 : Int64) (h0 : Heap) :
    Met l (⟨"com/example/adiq/adiq/broker/KeyHashMixPinLaw", "unshift27", "(J)J"⟩ : MethodName) method_4_code 4 (some .long) ws ({ frames := 0, cells := 0, slots := 0, locals := 0 } : Room) Z #[(.long q0)] h0 (fun v h' L => v = some (Value.long (F_unshift27 q0)) ∧ h' = h0 ∧ L = []) := by
  refine enter (plainFor_of_name pn_1) (ef_5 q0) ?_
  intro p e s m below meth c T0 kc kn Q hkc hkn hQ K' X0 e0
  have K : Fx p s m meth c method_4_code 4 "com/example/adiq/adiq/broker/KeyHashMixPinLaw" "unshift27" (some .long) Z := K'
  refine k_lloadN K X0 d5_0 rfl (q := 1) rfl ?_
  refine k_lloadN K X0 d5_1 rfl (q := 2) rfl ?_
  refine k_bipush K X0 d5_2 (v := (27 : Int32)) rfl (q := 4) rfl ?_
  refine k_lushr K X0 d5_4 (q := 5) rfl ?_
  refine k_lxor K X0 d5_5 (q := 6) rfl ?_
  obtain ⟨v10, hv_v10⟩ : ∃ z : Int64, (q0 ^^^ (ushrL q0 (27 : Int32))) = z := ⟨_, rfl⟩
  refine k_lstoreN K X0 d5_6 hv_v10 (Ls' := #[.val (.long q0), .second, .val (.long v10), .second]) rfl (q := 7) rfl ?_
  refine k_lloadN K X0 d5_7 rfl (q := 8) rfl ?_
  refine k_lloadN K X0 d5_8 rfl (q := 9) rfl ?_
  refine k_bipush K X0 d5_9 (v := (54 : Int32)) rfl (q := 11) rfl ?_
  refine k_lushr K X0 d5_11 (q := 12) rfl ?_
  refine k_lxor K X0 d5_12 (q := 13) rfl ?_
  exact k_retl K X0 e0 d5_13 (Nat.le_trans (by decide) hkc) (Nat.le_trans (by decide) hkn) (hQ _ _ _ ⟨(by show some (Value.long (v10 ^^^ (ushrL v10 (54 : Int32)))) = some (Value.long (F_unshift27 q0)); simp only [F_unshift27, hv_v10]), rfl, rfl⟩)
theorem d6_0 : decode method_5_code 0 = .ok (.lload_n 0, 1) := by decide +kernel
theorem d6_1 : decode method_5_code 1 = .ok (.lload_n 0, 1) := by decide +kernel
theorem d6_2 : decode method_5_code 2 = .ok (.bipush 30, 2) := by decide +kernel
theorem d6_4 : decode method_5_code 4 = .ok (.lushr, 1) := by decide +kernel
theorem d6_5 : decode method_5_code 5 = .ok (.lxor, 1) := by decide +kernel
theorem d6_6 : decode method_5_code 6 = .ok (.lstore_n 2, 1) := by decide +kernel
theorem d6_7 : decode method_5_code 7 = .ok (.lload_n 2, 1) := by decide +kernel
theorem d6_8 : decode method_5_code 8 = .ok (.lload_n 2, 1) := by decide +kernel
theorem d6_9 : decode method_5_code 9 = .ok (.bipush 60, 2) := by decide +kernel
theorem d6_11 : decode method_5_code 11 = .ok (.lushr, 1) := by decide +kernel
theorem d6_12 : decode method_5_code 12 = .ok (.lxor, 1) := by decide +kernel
theorem d6_13 : decode method_5_code 13 = .ok (.lreturn, 1) := by decide +kernel
theorem ef_6 (q0 : Int64) : ∀ m : MethodId, entryFrame m #[(.long q0)] 4 = mkF m 0 #[.val (.long q0), .second, .unset, .unset] [] := by intro m; first | (simp [entryFrame, mkF, argsToLocals, Value.category]; done) | rfl
def F_unshift30 (q0 : Int64) : Int64 :=
  let v11 : Int64 := (q0 ^^^ (ushrL q0 (30 : Int32)))
  (v11 ^^^ (ushrL v11 (60 : Int32)))
set_option maxRecDepth 65536 in
set_option maxHeartbeats 40000000 in
theorem rm6 (l : Launch) (Z : State) (az : Array Value) (hw : ∀ d ∈ tables_1, d.before az Z = true) (ws : List Jvm.Cond) (q0 : Int64) (h0 : Heap) :
    Met l (⟨"com/example/adiq/adiq/broker/KeyHashMixPinLaw", "unshift30", "(J)J"⟩ : MethodName) method_5_code 4 (some .long) ws ({ frames := 0, cells := 0, slots := 0, locals := 0 } : Room) Z #[(.long q0)] h0 (fun v h' L => v = some (Value.long (F_unshift30 q0)) ∧ h' = h0 ∧ L = []) := by
  refine enter (plainFor_of_name pn_1) (ef_6 q0) ?_
  intro p e s m below meth c T0 kc kn Q hkc hkn hQ K' X0 e0
  have K : Fx p s m meth c method_5_code 4 "com/example/adiq/adiq/broker/KeyHashMixPinLaw" "unshift30" (some .long) Z := K'
  refine k_lloadN K X0 d6_0 rfl (q := 1) rfl ?_
  refine k_lloadN K X0 d6_1 rfl (q := 2) rfl ?_
  refine k_bipush K X0 d6_2 (v := (30 : Int32)) rfl (q := 4) rfl ?_
  refine k_lushr K X0 d6_4 (q := 5) rfl ?_
  refine k_lxor K X0 d6_5 (q := 6) rfl ?_
  obtain ⟨v11, hv_v11⟩ : ∃ z : Int64, (q0 ^^^ (ushrL q0 (30 : Int32))) = z := ⟨_, rfl⟩
  refine k_lstoreN K X0 d6_6 hv_v11 (Ls' := #[.val (.long q0), .second, .val (.long v11), .second]) rfl (q := 7) rfl ?_
  refine k_lloadN K X0 d6_7 rfl (q := 8) rfl ?_
  refine k_lloadN K X0 d6_8 rfl (q := 9) rfl ?_
  refine k_bipush K X0 d6_9 (v := (60 : Int32)) rfl (q := 11) rfl ?_
  refine k_lushr K X0 d6_11 (q := 12) rfl ?_
  refine k_lxor K X0 d6_12 (q := 13) rfl ?_
  exact k_retl K X0 e0 d6_13 (Nat.le_trans (by decide) hkc) (Nat.le_trans (by decide) hkn) (hQ _ _ _ ⟨(by show some (Value.long (v11 ^^^ (ushrL v11 (60 : Int32)))) = some (Value.long (F_unshift30 q0)); simp only [F_unshift30, hv_v11]), rfl, rfl⟩)
theorem d2_0 : decode method_6_code 0 = .ok (.lload_n 0, 1) := by decide +kernel
theorem d2_1 : decode method_6_code 1 = .ok (.invokestatic 9, 3) := by decide +kernel
theorem pd_0 : parseMethodDescriptor "(J)J" = some ⟨[.long], some .long⟩ := by decide +kernel
theorem d2_4 : decode method_6_code 4 = .ok (.lstore_n 2, 1) := by decide +kernel
theorem d2_5 : decode method_6_code 5 = .ok (.lload_n 2, 1) := by decide +kernel
theorem d2_6 : decode method_6_code 6 = .ok (.ldc2_w 15, 3) := by decide +kernel
theorem d2_9 : decode method_6_code 9 = .ok (.invokestatic 17, 3) := by decide +kernel
theorem d2_12 : decode method_6_code 12 = .ok (.lmul, 1) := by decide +kernel
theorem d2_13 : decode method_6_code 13 = .ok (.lstore 4, 2) := by decide +kernel
theorem d2_15 : decode method_6_code 15 = .ok (.lload 4, 2) := by decide +kernel
theorem d2_17 : decode method_6_code 17 = .ok (.invokestatic 20, 3) := by decide +kernel
theorem d2_20 : decode method_6_code 20 = .ok (.lstore 6, 2) := by decide +kernel
theorem d2_22 : decode method_6_code 22 = .ok (.lload 6, 2) := by decide +kernel
theorem d2_24 : decode method_6_code 24 = .ok (.ldc2_w 23, 3) := by decide +kernel
theorem d2_27 : decode method_6_code 27 = .ok (.invokestatic 17, 3) := by decide +kernel
theorem d2_30 : decode method_6_code 30 = .ok (.lmul, 1) := by decide +kernel
theorem d2_31 : decode method_6_code 31 = .ok (.lstore 8, 2) := by decide +kernel
theorem d2_33 : decode method_6_code 33 = .ok (.lload 8, 2) := by decide +kernel
theorem d2_35 : decode method_6_code 35 = .ok (.invokestatic 25, 3) := by decide +kernel
theorem d2_38 : decode method_6_code 38 = .ok (.lreturn, 1) := by decide +kernel
theorem ef_2 (q0 : Int64) : ∀ m : MethodId, entryFrame m #[(.long q0)] 10 = mkF m 0 #[.val (.long q0), .second, .unset, .unset, .unset, .unset, .unset, .unset, .unset, .unset] [] := by intro m; first | (simp [entryFrame, mkF, argsToLocals, Value.category]; done) | rfl
def F_unmix (q0 : Int64) : Int64 :=
  let v15 : Int64 := (F_unshift31 q0)
  let v19 : Int64 := (v15 * (3573116690164977347 : Int64))
  let v23 : Int64 := (F_unshift27 v19)
  let v27 : Int64 := (v23 * (-7575587736534282103 : Int64))
  (F_unshift30 v27)
set_option maxRecDepth 65536 in
set_option maxHeartbeats 40000000 in
theorem rm2 (l : Launch) (Z : State) (az : Array Value) (hw : ∀ d ∈ tables_1, d.before az Z = true) (ws : List Jvm.Cond) (q0 : Int64) (h0 : Heap) :
    Met l (⟨"com/example/adiq/adiq/broker/KeyHashMixPinLaw", "unmix", "(J)J"⟩ : MethodName) method_6_code 10 (some .long) ws ({ frames := 1, cells := 0, slots := 0, locals := 17 } : Room) Z #[(.long q0)] h0 (fun v h' L => v = some (Value.long (F_unmix q0)) ∧ h' = h0 ∧ L = []) := by
  refine enter (plainFor_of_name pn_1) (ef_2 q0) ?_
  intro p e s m below meth c T0 kc kn Q hkc hkn hQ K' X0 e0
  have K : Fx p s m meth c method_6_code 10 "com/example/adiq/adiq/broker/KeyHashMixPinLaw" "unmix" (some .long) Z := K'
  refine k_lloadN K X0 d2_0 rfl (q := 1) rfl ?_
  refine k_staticP K X0 e0 d2_1 (wd hw 10 rfl) (wd hw 11 rfl) (wd hw 8 rfl) (wd hw 12 rfl) (by decide) (rm3 l Z az hw [] q0 h0) (W := 0) (by decide) (by decide) (by decide) (by decide) rfl pd_0 (argsL := [(.long q0)]) (rest := []) rfl rfl rfl (Nat.le_of_eq rfl) (q := 4) rfl ?_
  intro T12 X13 e14
  obtain ⟨v15, hv_v15⟩ : ∃ z : Int64, (F_unshift31 q0) = z := ⟨_, rfl⟩
  refine k_lstoreN K X13 d2_4 hv_v15 (Ls' := #[.val (.long q0), .second, .val (.long v15), .second, .unset, .unset, .unset, .unset, .unset, .unset]) rfl (q := 5) rfl ?_
  refine k_lloadN K X13 d2_5 rfl (q := 6) rfl ?_
  refine k_ldc2 K X13 d2_6 (wd hw 13 rfl) (q := 9) rfl ?_
  refine k_staticP K X13 e14 d2_9 (wd hw 14 rfl) (wd hw 15 rfl) (wd hw 8 rfl) (wd hw 16 rfl) (by decide) (rm4 l Z az hw [] (-7723592293110705685 : Int64) h0) (W := 2) (by decide) (by decide) (by decide) (by decide) rfl pd_0 (argsL := [(.long (-7723592293110705685 : Int64))]) (rest := [(.long v15)]) rfl rfl rfl (Nat.le_of_eq rfl) (q := 12) rfl ?_
  intro T16 X17 e18
  refine k_nameJ (v := (3573116690164977347 : Int64)) (by decide +kernel) ?_
  refine k_lmul K X17 d2_12 (q := 13) rfl ?_
  obtain ⟨v19, hv_v19⟩ : ∃ z : Int64, (v15 * (3573116690164977347 : Int64)) = z := ⟨_, rfl⟩
  refine k_lstore K X17 d2_13 hv_v19 (Ls' := #[.val (.long q0), .second, .val (.long v15), .second, .val (.long v19), .second, .unset, .unset, .unset, .unset]) rfl (q := 15) rfl ?_
  refine k_lload K X17 d2_15 rfl (q := 17) rfl ?_
  refine k_staticP K X17 e18 d2_17 (wd hw 18 rfl) (wd hw 19 rfl) (wd hw 8 rfl) (wd hw 20 rfl) (by decide) (rm5 l Z az hw [] v19 h0) (W := 0) (by decide) (by decide) (by decide) (by decide) rfl pd_0 (argsL := [(.long v19)]) (rest := []) rfl rfl rfl (Nat.le_of_eq rfl) (q := 20) rfl ?_
  intro T20 X21 e22
  obtain ⟨v23, hv_v23⟩ : ∃ z : Int64, (F_unshift27 v19) = z := ⟨_, rfl⟩
  refine k_lstore K X21 d2_20 hv_v23 (Ls' := #[.val (.long q0), .second, .val (.long v15), .second, .val (.long v19), .second, .val (.long v23), .second, .unset, .unset]) rfl (q := 22) rfl ?_
  refine k_lload K X21 d2_22 rfl (q := 24) rfl ?_
  refine k_ldc2 K X21 d2_24 (wd hw 21 rfl) (q := 27) rfl ?_
  refine k_staticP K X21 e22 d2_27 (wd hw 14 rfl) (wd hw 15 rfl) (wd hw 8 rfl) (wd hw 16 rfl) (by decide) (rm4 l Z az hw [] (-4658895280553007687 : Int64) h0) (W := 2) (by decide) (by decide) (by decide) (by decide) rfl pd_0 (argsL := [(.long (-4658895280553007687 : Int64))]) (rest := [(.long v23)]) rfl rfl rfl (Nat.le_of_eq rfl) (q := 30) rfl ?_
  intro T24 X25 e26
  refine k_nameJ (v := (-7575587736534282103 : Int64)) (by decide +kernel) ?_
  refine k_lmul K X25 d2_30 (q := 31) rfl ?_
  obtain ⟨v27, hv_v27⟩ : ∃ z : Int64, (v23 * (-7575587736534282103 : Int64)) = z := ⟨_, rfl⟩
  refine k_lstore K X25 d2_31 hv_v27 (Ls' := #[.val (.long q0), .second, .val (.long v15), .second, .val (.long v19), .second, .val (.long v23), .second, .val (.long v27), .second]) rfl (q := 33) rfl ?_
  refine k_lload K X25 d2_33 rfl (q := 35) rfl ?_
  refine k_staticP K X25 e26 d2_35 (wd hw 22 rfl) (wd hw 23 rfl) (wd hw 8 rfl) (wd hw 24 rfl) (by decide) (rm6 l Z az hw [] v27 h0) (W := 0) (by decide) (by decide) (by decide) (by decide) rfl pd_0 (argsL := [(.long v27)]) (rest := []) rfl rfl rfl (Nat.le_of_eq rfl) (q := 38) rfl ?_
  intro T28 X29 e30
  exact k_retl K X29 e30 d2_38 (Nat.le_trans (by decide) hkc) (Nat.le_trans (by decide) hkn) (hQ _ _ _ ⟨(by show some (Value.long (F_unshift30 v27)) = some (Value.long (F_unmix q0)); simp only [F_unmix, hv_v15, hv_v19, hv_v23, hv_v27]), rfl, rfl⟩)
theorem ef_0 (q0 : Int64) : ∀ m : MethodId, entryFrame m #[(.long q0)] maxLocals = mkF m 0 #[.val (.long q0), .second, .unset, .unset] [] := by intro m; first | (simp [entryFrame, mkF, argsToLocals, Value.category, maxLocals]; done) | rfl
def F_law (q0 : Int64) : Int32 :=
  let v34 : Int64 := (F_mix q0)
  let d39 : Int32 := (if (F_unmix v34) = q0 then (1 : Int32) else (0 : Int32))
  (nar .boolean d39)
set_option maxRecDepth 65536 in
set_option maxHeartbeats 40000000 in
theorem rm0 (l : Launch) (Z : State) (az : Array Value) (hw : ∀ d ∈ tables_1, d.before az Z = true) (ws : List Jvm.Cond) (q0 : Int64) (h0 : Heap) (n0 : Nat) (Z0 : n0 ≤ h0.size) :
    Met l x code maxLocals ret ws room_1 Z #[(.long q0)] h0 (fun v h' L => v = some (Value.int (F_law q0)) ∧ Fr n0 L) := by
  refine enter (plainFor_of_name pn_1) (ef_0 q0) ?_
  intro p e s m below meth c T0 kc kn Q hkc hkn hQ K' X0 e0
  have K : Fx p s m meth c code 4 "com/example/adiq/adiq/broker/KeyHashMixPinLaw" "law" (some .boolean) Z := K'
  have N0 := Fr.nil n0
  have K0 : Keep h0 h0 [] := Keep.refl _ _
  refine k_lloadN K X0 at_0 rfl (q := 1) rfl ?_
  refine k_staticP K X0 e0 at_1 (wd hw 0 rfl) (wd hw 1 rfl) (wd hw 2 rfl) (wd hw 3 rfl) (by decide) (rm1 l Z az hw [] q0 h0) (W := 0) (by decide) (by decide) (by decide) (by decide) rfl pd_0 (argsL := [(.long q0)]) (rest := []) rfl rfl rfl (Nat.le_of_eq rfl) (q := 4) rfl ?_
  intro T31 X32 e33
  obtain ⟨v34, hv_v34⟩ : ∃ z : Int64, (F_mix q0) = z := ⟨_, rfl⟩
  refine k_lstoreN K X32 at_4 hv_v34 (Ls' := #[.val (.long q0), .second, .val (.long v34), .second]) rfl (q := 5) rfl ?_
  refine k_lloadN K X32 at_5 rfl (q := 6) rfl ?_
  refine k_staticP K X32 e33 at_6 (wd hw 6 rfl) (wd hw 7 rfl) (wd hw 8 rfl) (wd hw 9 rfl) (by decide) (rm2 l Z az hw [] v34 h0) (W := 0) (by decide) (by decide) (by decide) (by decide) rfl pd_0 (argsL := [(.long v34)]) (rest := []) rfl rfl rfl (Nat.le_of_eq rfl) (q := 9) rfl ?_
  intro T35 X36 e37
  refine k_lloadN K X36 at_9 rfl (q := 10) rfl ?_
  refine k_lcmp K X36 at_10 (q := 11) rfl ?_
  have J40 : ∀ (d39 : Int32), (if (F_unmix v34) = q0 then (1 : Int32) else (0 : Int32)) = d39 → Run p e below s kc kn Q T35 (mkF m 19 #[.val (.long q0), .second, .val (.long v34), .second] [(.int d39)]) := by
    intro d39 hv_d39
    exact k_retz K X36 e37 at_19 (Nat.le_trans (by decide) hkc) (Nat.le_trans (by decide) hkn) (hQ _ _ _ ⟨(by show some (Value.int (nar .boolean d39)) = some (Value.int (F_law q0)); simp only [F_law, hv_v34, hv_d39]), N0⟩)
  refine k_lcmp_ne K X36 at_11 (by decide) (q := 18) rfl (q' := 14) rfl ?_ ?_
  · intro hc41
    refine k_iconst K X36 at_18 (v := (0 : Int32)) rfl (q := 19) rfl ?_
    exact J40 _ (by first | rfl | (simp only [if_neg hc41]))
  · intro hc41
    refine k_iconst K X36 at_14 (v := (1 : Int32)) rfl (q := 15) rfl ?_
    refine k_goto K X36 at_15 (by decide) (q := 19) rfl ?_
    exact J40 _ (by first | rfl | (simp only [if_pos hc41]))
theorem own_unshift31 (x : Int64) : F_unshift31 (x ^^^ ushrL x 31) = x := by
  have e1 : ∀ y : Int64, (ushrL y 31).toBitVec = y.toBitVec >>> 31 := fun y => rfl
  have e2 : ∀ y : Int64, (ushrL y 62).toBitVec = y.toBitVec >>> 62 := fun y => rfl
  apply Int64.toBitVec_inj.mp
  simp only [F_unshift31, Int64.toBitVec_xor, e1, e2]
  generalize x.toBitVec = b
  apply BitVec.eq_of_getLsbD_eq
  intro i hi
  simp only [BitVec.getLsbD_xor, BitVec.getLsbD_ushiftRight]
  have a1 : 31 + (31 + i) = 62 + i := by omega
  have a2 : 31 + (31 + (62 + i)) = 124 + i := by omega
  have z : b.getLsbD (124 + i) = false := BitVec.getLsbD_of_ge _ _ (by omega)
  rw [a2, z, a1]
  cases b.getLsbD i <;> cases b.getLsbD (31 + i) <;> cases b.getLsbD (62 + i) <;> cases b.getLsbD (31 + (62 + i)) <;> rfl
theorem own_unshift27 (x : Int64) : F_unshift27 (x ^^^ ushrL x 27) = x := by
  have e1 : ∀ y : Int64, (ushrL y 27).toBitVec = y.toBitVec >>> 27 := fun y => rfl
  have e2 : ∀ y : Int64, (ushrL y 54).toBitVec = y.toBitVec >>> 54 := fun y => rfl
  apply Int64.toBitVec_inj.mp
  simp only [F_unshift27, Int64.toBitVec_xor, e1, e2]
  generalize x.toBitVec = b
  apply BitVec.eq_of_getLsbD_eq
  intro i hi
  simp only [BitVec.getLsbD_xor, BitVec.getLsbD_ushiftRight]
  have a1 : 27 + (27 + i) = 54 + i := by omega
  have a2 : 27 + (27 + (54 + i)) = 108 + i := by omega
  have z : b.getLsbD (108 + i) = false := BitVec.getLsbD_of_ge _ _ (by omega)
  rw [a2, z, a1]
  cases b.getLsbD i <;> cases b.getLsbD (27 + i) <;> cases b.getLsbD (54 + i) <;> cases b.getLsbD (27 + (54 + i)) <;> rfl
theorem own_unshift30 (x : Int64) : F_unshift30 (x ^^^ ushrL x 30) = x := by
  have e1 : ∀ y : Int64, (ushrL y 30).toBitVec = y.toBitVec >>> 30 := fun y => rfl
  have e2 : ∀ y : Int64, (ushrL y 60).toBitVec = y.toBitVec >>> 60 := fun y => rfl
  apply Int64.toBitVec_inj.mp
  simp only [F_unshift30, Int64.toBitVec_xor, e1, e2]
  generalize x.toBitVec = b
  apply BitVec.eq_of_getLsbD_eq
  intro i hi
  simp only [BitVec.getLsbD_xor, BitVec.getLsbD_ushiftRight]
  have a1 : 30 + (30 + i) = 60 + i := by omega
  have a2 : 30 + (30 + (60 + i)) = 120 + i := by omega
  have z : b.getLsbD (120 + i) = false := BitVec.getLsbD_of_ge _ _ (by omega)
  rw [a2, z, a1]
  cases b.getLsbD i <;> cases b.getLsbD (30 + i) <;> cases b.getLsbD (60 + i) <;> cases b.getLsbD (30 + (60 + i)) <;> rfl
theorem own_mul (x c d : Int64) (h : c * d = 1) : x * c * d = x := by
  rw [Int64.mul_assoc, h, Int64.mul_one]
theorem law_eq (q0 : Int64) : F_law q0 = 1 := by
  have h : F_unmix (F_mix q0) = q0 := by
    simp only [F_unmix, F_mix]
    rw [own_unshift31, own_mul _ _ _ (by decide), own_unshift27, own_mul _ _ _ (by decide), own_unshift30]
  simp only [F_law, h, if_true]
  decide
set_option maxRecDepth 65536 in
set_option maxHeartbeats 40000000 in
theorem comes_1 {Post : Tables → Env → Array Value → State → Outcome → State → Prop} (hpost : ∀ tb e args s v u, (limb_1_1.after args s (.returned v) u = true ∧ limb_1_2.after args s (.returned v) u = true ∧ True) → FrameEnd s (.returned v) u (Jvm.fieldLocs frame_1_writes args s ++ Jvm.arrayLocs frame_1_arrays args s ++ Jvm.staticLocs frame_1_statics s) 0 0 → Post tb e args s (.returned v) u) :
    ArmFor flags0 classFile x code maxLocals ret World_1 tables_1 room_1 Calls_1 rest_1 Pre_1 Post := by
  intro l hfl _ _ p e ha hc hk s m args below hf hA hF happ hP
  obtain ⟨hcalls, hrest, hpre⟩ := hP
  obtain ⟨-, -, -, hnamed, -, -, -, hat⟩ := (Spec.applies_iff hf).mp happ
  obtain ⟨hg, hn⟩ := and_e (Cond.before_iff.mp (show (Jvm.Cond.and given_1 narrow_1).before args s = true from hpre))
  obtain ⟨gc, g0⟩ := and_e hg
  obtain ⟨w0, rfl⟩ : ∃ w0 : Value, args = #[w0] := by
    have hs : args.size = 1 := by simpa [Cond.value, given_1] using gc
    obtain ⟨L⟩ := args
    match L, hs with
    | [w0], _ => exact ⟨w0, rfl⟩
  have hw := fun d (hd : d ∈ tables_1) => atoms_spec (ws := Jvm.Cond.code x code maxLocals ret :: tables_1) hat d (List.mem_cons_of_mem _ hd)
  obtain ⟨i0, ei0⟩ := isL_v g0
  obtain rfl : w0 = (.long i0) := Option.some.inj ei0
  obtain ⟨n, o, h1, h2, h3, _, L, rfl, ⟨rfl, N⟩, hq⟩ := rm0 l s _ hw tables_1 i0 s.heap s.heap.size (Nat.le_refl _) p e ha hc hk s m _ below hf ((Spec.applies_iff_loose hf).mp happ).1 ⟨rfl, State.Warmed39.refl s, rfl⟩ trivial
  rw [law_eq] at *
  refine ⟨n, _, h1, h2, h3, hpost _ _ _ _ _ _ ⟨Cond.after_iff.mpr rfl, Cond.after_iff.mpr (eq_i res_at (Term.int_eval (1)) rfl), trivial⟩ ⟨hq.1, hq.2.1, (hq.2.2.sift fun y hy => Or.inr (N y hy)).mono (by decide) (by decide)⟩⟩
theorem main_1_1 : Claimed_1_1 := comes_1 fun _ _ _ _ _ _ h hF => ⟨h.1, hF⟩
theorem main_1_2 : Claimed_1_2 := comes_1 fun _ _ _ _ _ _ h hF => ⟨h.2.1, hF⟩
end Jvm.Pilot.@@N@@
namespace Jvm.Pilot.@@N@@
open Jvm Jvm.ClassFile Sem Op Lib Jvm.Free Jvm.Stand Jvm.Pilot.@@N@@.Jvm.D
/-! MADE BY PROGRAM (witnessworld.py) out of the Statement's table words and the real class files: 9 classes; the members and pool entries that the words name. The judged class is class 1, her method 6. -/
namespace start1
open Jvm.ClassFile
def u (s : String) : CpInfo := .utf8 (stringToUtf16 s)
/-- a pool by its gaps: so many unusable entries, then the entry; so many at the end -/
def gap : Nat → List CpInfo → List CpInfo
  | 0, r => r
  | n + 1, r => .unusable :: gap n r
def poolList (es : List (Nat × CpInfo)) (last : Nat) : List CpInfo := es.foldr (fun e r => gap e.1 (e.2 :: r)) (gap last [])
def pool (es : List (Nat × CpInfo)) (last : Nat) : Array CpInfo := ⟨poolList es last⟩
def fileOf (pool : Array CpInfo) (this : Nat) (attrs : Array Attribute := #[]) (ms : Array MethodInfo := #[]) (fl : Nat := 33) (sup : Nat := 0) (ifs : Array Nat := #[]) (fds : Array FieldInfo := #[]) : ClassFile where
  minorVersion := 0
  majorVersion := 65
  constantPool := pool
  accessFlags := fl
  thisClass := this
  superClass := sup
  interfaces := ifs
  fields := fds
  methods := ms
  attributes := attrs
def plain (name : String) (sup : Option ClassId) : Class where
  name := name
  kind := .ordinary
  loader := none
  accessFlags := 33
  super := sup
  interfaces := #[]
  cf := none
  fields := #[]
  methods := #[]
  instanceTypes := #[]
  staticTypes := #[]
  resolved := #[]
  callSites := []
  init := .initialized
  statics := none
  mirror := none

def pool0 : Array CpInfo := pool [(5, u "<init>"), (0, u "()V"), (1, .class_ 10), (1, u "java/lang/Object")] 113

def k0m0 : Method := { name := "<init>", desc := "()V", sig := { parameters := [], returnType := none }, accessFlags := 1, code := none }
/-- java/lang/Object -/
def k0 : Class := { plain "java/lang/Object" none with
  accessFlags := 33
  interfaces := #[]
  cf := some (fileOf pool0 8 #[] #[{ accessFlags := 1, nameIndex := 5, descriptorIndex := 6, attributes := #[] }] 33 0 #[] #[])
  fields := #[]
  methods := #[k0m0]
  instanceTypes := #[]
  staticTypes := #[]
  resolved := Array.replicate 124 none
  statics := none }

def pool1 : Array CpInfo := pool [(2, .class_ 4), (1, u "java/lang/Object"), (0, u "<init>"), (0, u "()V"), (0, .long 2), (1, .methodref 10 11), (0, .class_ 12), (0, .nameAndType 13 14), (0, u "com/example/adiq/adiq/broker/KeyHashMixPinLaw"), (0, u "unshift31"), (0, u "(J)J"), (0, .long 10723151780598845931), (1, .methodref 10 18), (0, .nameAndType 19 14), (0, u "inverse"), (0, .methodref 10 21), (0, .nameAndType 22 14), (0, u "unshift27"), (0, .long 13787848793156543929), (1, .methodref 10 26), (0, .nameAndType 27 14), (0, u "unshift30"), (0, .methodref 29 30), (0, .class_ 31), (0, .nameAndType 32 14), (0, u "com/example/adiq/adiq/broker/KeyHash"), (0, u "mix"), (0, .methodref 10 34), (0, .nameAndType 35 14), (0, u "unmix"), (2, u "law"), (0, u "(J)Z")] 3

def k1m0 : Method := { name := "<init>", desc := "()V", sig := { parameters := [], returnType := none }, accessFlags := 2, code := none }
def k1c1 : Code := { maxStack := 8, maxLocals := 4, code := method_2_code, exceptionTable := #[], attributes := #[] }
def k1m1 : Method := { name := "inverse", desc := "(J)J", sig := { parameters := [.long], returnType := some .long }, accessFlags := 10, code := some k1c1 }
def k1c2 : Code := { maxStack := 5, maxLocals := 4, code := method_3_code, exceptionTable := #[], attributes := #[] }
def k1m2 : Method := { name := "unshift31", desc := "(J)J", sig := { parameters := [.long], returnType := some .long }, accessFlags := 10, code := some k1c2 }
def k1c3 : Code := { maxStack := 5, maxLocals := 4, code := method_4_code, exceptionTable := #[], attributes := #[] }
def k1m3 : Method := { name := "unshift27", desc := "(J)J", sig := { parameters := [.long], returnType := some .long }, accessFlags := 10, code := some k1c3 }
def k1c4 : Code := { maxStack := 5, maxLocals := 4, code := method_5_code, exceptionTable := #[], attributes := #[] }
def k1m4 : Method := { name := "unshift30", desc := "(J)J", sig := { parameters := [.long], returnType := some .long }, accessFlags := 10, code := some k1c4 }
def k1c5 : Code := { maxStack := 4, maxLocals := 10, code := method_6_code, exceptionTable := #[], attributes := #[] }
def k1m5 : Method := { name := "unmix", desc := "(J)J", sig := { parameters := [.long], returnType := some .long }, accessFlags := 10, code := some k1c5 }
def k1c6 : Code := { maxStack := 4, maxLocals := 4, code := code, exceptionTable := #[], attributes := #[] }
def k1m6 : Method := { name := "law", desc := "(J)Z", sig := { parameters := [.long], returnType := some .boolean }, accessFlags := 9, code := some k1c6 }
/-- com/example/adiq/adiq/broker/KeyHashMixPinLaw -/
def k1 : Class := { plain "com/example/adiq/adiq/broker/KeyHashMixPinLaw" (some 0) with
  accessFlags := 49
  interfaces := #[]
  cf := some (fileOf pool1 10 #[] #[{ accessFlags := 2, nameIndex := 5, descriptorIndex := 6, attributes := #[] }, { accessFlags := 10, nameIndex := 19, descriptorIndex := 14, attributes := #[] }, { accessFlags := 10, nameIndex := 13, descriptorIndex := 14, attributes := #[] }, { accessFlags := 10, nameIndex := 22, descriptorIndex := 14, attributes := #[] }, { accessFlags := 10, nameIndex := 27, descriptorIndex := 14, attributes := #[] }, { accessFlags := 10, nameIndex := 35, descriptorIndex := 14, attributes := #[] }, { accessFlags := 9, nameIndex := 38, descriptorIndex := 39, attributes := #[] }] 49 2 #[] #[])
  fields := #[]
  methods := #[k1m0, k1m1, k1m2, k1m3, k1m4, k1m5, k1m6]
  instanceTypes := #[]
  staticTypes := #[]
  resolved := Array.replicate 43 none
  statics := none }

def pool2 : Array CpInfo := pool [(2, .class_ 4), (1, u "java/lang/Object"), (0, u "<init>"), (0, u "()V"), (0, .class_ 8), (0, u "com/example/adiq/adiq/broker/KeyHash"), (6, u "mix"), (0, u "(J)J"), (6, .long 13787848793156543929), (1, .long 10723151780598845931), (1, u "FNV_OFFSET_BASIS"), (0, u "J"), (1, u "FNV_PRIME")] 9

def k2m0 : Method := { name := "<init>", desc := "()V", sig := { parameters := [], returnType := none }, accessFlags := 2, code := none }
def k2c1 : Code := { maxStack := 5, maxLocals := 4, code := prog_4_method_3_code, exceptionTable := #[], attributes := #[] }
def k2m1 : Method := { name := "mix", desc := "(J)J", sig := { parameters := [.long], returnType := some .long }, accessFlags := 8, code := some k2c1 }
/-- com/example/adiq/adiq/broker/KeyHash -/
def k2 : Class := { plain "com/example/adiq/adiq/broker/KeyHash" (some 0) with
  accessFlags := 32
  interfaces := #[]
  cf := some (fileOf pool2 7 #[] #[{ accessFlags := 2, nameIndex := 5, descriptorIndex := 6, attributes := #[] }, { accessFlags := 8, nameIndex := 15, descriptorIndex := 16, attributes := #[] }] 32 2 #[] #[{ accessFlags := 26, nameIndex := 27, descriptorIndex := 28, attributes := #[] }, { accessFlags := 26, nameIndex := 30, descriptorIndex := 28, attributes := #[] }])
  fields := #[{ name := "FNV_OFFSET_BASIS", type := .long, accessFlags := 26, slot := 0, constantValue := 0 }, { name := "FNV_PRIME", type := .long, accessFlags := 26, slot := 1, constantValue := 0 }]
  methods := #[k2m0, k2m1]
  instanceTypes := #[]
  staticTypes := #[.long, .long]
  resolved := Array.replicate 40 none
  statics := none }

def pool3 : Array CpInfo := pool [(1, u "java/lang/Cloneable"), (0, .class_ 1), (0, u "java/lang/Object"), (0, .class_ 3)] 3

/-- java/lang/Cloneable -/
def k3 : Class := { plain "java/lang/Cloneable" (some 0) with
  accessFlags := 1537
  interfaces := #[]
  cf := some (fileOf pool3 2 #[] #[] 1537 4 #[] #[])
  fields := #[]
  methods := #[]
  instanceTypes := #[]
  staticTypes := #[]
  resolved := Array.replicate 8 none
  statics := none }

def pool4 : Array CpInfo := pool [(1, u "java/io/Serializable"), (0, .class_ 1), (0, u "java/lang/Object"), (0, .class_ 3)] 3

/-- java/io/Serializable -/
def k4 : Class := { plain "java/io/Serializable" (some 0) with
  accessFlags := 1537
  interfaces := #[]
  cf := some (fileOf pool4 2 #[] #[] 1537 4 #[] #[])
  fields := #[]
  methods := #[]
  instanceTypes := #[]
  staticTypes := #[]
  resolved := Array.replicate 8 none
  statics := none }

/-- the primitive byte -/
def k5 : Class := { plain "byte" none with kind := .primitive 'B', accessFlags := 0x411 }
/-- [B -/
def k6 : Class := { plain "[B" (some 0) with kind := .array 5 .byte, interfaces := #[3, 4], accessFlags := 1041 }

/-- the primitive int -/
def k7 : Class := { plain "int" none with kind := .primitive 'I', accessFlags := 0x411 }
/-- [I -/
def k8 : Class := { plain "[I" (some 0) with kind := .array 7 .int, interfaces := #[3, 4], accessFlags := 1041 }

def heap : Heap := #[]
def classes : Array Class := #[k0, k1, k2, k3, k4, k5, k6, k7, k8]
def interned : List (Array UInt16 × Addr) := []
def slotsUsed : Nat := 0
def theMethod : MethodId := ⟨1, 6⟩
def args0 : Array Value := #[.long 5]
def aboutOver (below : List Frame) : State where
  vm := { classes := classes, interned := interned.toArray }
  heap := heap
  slotsUsed := slotsUsed
  threads := #[{ frames := .invoking theMethod args0 :: below }]
def below0 : List Frame := [.native { method := ⟨0, 0⟩, args := #[] }]
def about1 : State := aboutOver below0
def p0 : Program := .bare "" "" ""
def e0 : Env := launch0.env 0 0 0
theorem w_frames : about1.frames = Frame.invoking theMethod args0 :: below0 := rfl
set_option maxRecDepth 65536 in
theorem w_args : argsFit about1.vm theMethod args0 = true := by decide +kernel
set_option maxRecDepth 65536 in
theorem w_heap : heapFits about1 = true := by decide +kernel
set_option maxRecDepth 65536 in
theorem w_runnable : about1.curStatus? = some .runnable := by decide +kernel
set_option maxRecDepth 65536 in
theorem w_alone : about1.alone = true := by decide +kernel
set_option maxRecDepth 65536 in
theorem w_named : about1.methodNamed? x = some theMethod := by decide +kernel
set_option maxRecDepth 65536 in
theorem w_hears : about1.hears theMethod below0 = true := by decide +kernel
set_option maxRecDepth 65536 in
theorem w_ripe : about1.ripe theMethod args0 below0 = true := by decide +kernel
theorem w_running : about1.status = .running := rfl
set_option maxRecDepth 65536 in
theorem w_room : about1.hasRoom e0.platform room_1 = true :=
  launch0.hasRoom_least _ room_1 (by decide +kernel) (by decide +kernel) (by decide +kernel) (by decide +kernel) (by decide +kernel) (by decide +kernel)
theorem allAtoms_all (ts : List Jvm.Cond) (a : Array Jvm.Value) (st : Jvm.State) : (allAtoms ts).before a st = ts.all (fun c => c.before a st) := by
  induction ts with
  | nil => rfl
  | cons c t ih =>
    show (Jvm.Cond.and c (allAtoms t)).before a st = _
    rw [Jvm.Cond.before_and, ih, List.all_cons]
def words1 : List Jvm.Cond := Jvm.Cond.code x code maxLocals ret :: tables_1
/-- a 'code' word, met by the world's own term for the bytes: nothing is compared byte by byte -/
theorem code_word {y : MethodName} {bytes : ByteArray} {mx : Nat} {rt : Option FieldType} {a : Array Value} {s : State} {m : MethodId} {meth : Method} {c : Code} (h1 : s.methodNamed? y = some m) (h2 : s.vm.method? m = some meth) (h3 : meth.code = some c) (h4 : c.code = bytes)
    (h5 : (c.maxLocals == mx && c.exceptionTable.isEmpty && decide (c.maxStack ≤ mostOperands) && decide (meth.sig.returnType = rt) && !meth.locks && decide (parseMethodDescriptor y.desc = some meth.sig)) = true) : (Jvm.Cond.code y bytes mx rt).before a s = true := by
  simp only [Bool.and_eq_true, beq_iff_eq, Bool.not_eq_true', decide_eq_true_eq] at h5
  obtain ⟨⟨⟨⟨⟨g1, g2⟩, g3⟩, g4⟩, g5⟩, g6⟩ := h5
  simp [Cond.before, Cond.holds, Cond.value, h1, h2, h3, h4, g1, g2, g3, g4, g5, g6]
def isCode : Jvm.Cond → Bool
  | .code _ _ _ _ => true
  | _ => false
theorem all_split {L : List Jvm.Cond} {P : Jvm.Cond → Bool} (h1 : L.all (fun c => isCode c || P c) = true) (h2 : ∀ c ∈ L.filter isCode, P c = true) : L.all P = true := by
  refine List.all_eq_true.mpr fun c hc => ?_
  have h := List.all_eq_true.mp h1 c hc
  rcases Bool.eq_false_or_eq_true (isCode c) with hi | hi
  · exact h2 c (List.mem_filter.mpr ⟨hc, hi⟩)
  · simpa [hi] using h
set_option maxRecDepth 65536 in
theorem w_c0 : (Jvm.Cond.code x code maxLocals ret).before args0 about1 = true := code_word (m := ⟨1, 6⟩) (meth := k1m6) (c := k1c6) (by decide +kernel) rfl rfl rfl (by decide +kernel)
set_option maxRecDepth 65536 in
theorem w_c1 : (Jvm.Cond.code ({ cls := "com/example/adiq/adiq/broker/KeyHash", name := "mix", desc := "(J)J" } : Jvm.MethodName) prog_4_method_3_code (4 : Nat) (Option.some Jvm.ClassFile.FieldType.long)).before args0 about1 = true := code_word (m := ⟨2, 1⟩) (meth := k2m1) (c := k2c1) (by decide +kernel) rfl rfl rfl (by decide +kernel)
set_option maxRecDepth 65536 in
theorem w_c2 : (Jvm.Cond.code ({ cls := "com/example/adiq/adiq/broker/KeyHashMixPinLaw", name := "unmix", desc := "(J)J" } : Jvm.MethodName) method_6_code (10 : Nat) (Option.some Jvm.ClassFile.FieldType.long)).before args0 about1 = true := code_word (m := ⟨1, 5⟩) (meth := k1m5) (c := k1c5) (by decide +kernel) rfl rfl rfl (by decide +kernel)
set_option maxRecDepth 65536 in
theorem w_c3 : (Jvm.Cond.code ({ cls := "com/example/adiq/adiq/broker/KeyHashMixPinLaw", name := "unshift31", desc := "(J)J" } : Jvm.MethodName) method_3_code (4 : Nat) (Option.some Jvm.ClassFile.FieldType.long)).before args0 about1 = true := code_word (m := ⟨1, 2⟩) (meth := k1m2) (c := k1c2) (by decide +kernel) rfl rfl rfl (by decide +kernel)
set_option maxRecDepth 65536 in
theorem w_c4 : (Jvm.Cond.code ({ cls := "com/example/adiq/adiq/broker/KeyHashMixPinLaw", name := "inverse", desc := "(J)J" } : Jvm.MethodName) method_2_code (4 : Nat) (Option.some Jvm.ClassFile.FieldType.long)).before args0 about1 = true := code_word (m := ⟨1, 1⟩) (meth := k1m1) (c := k1c1) (by decide +kernel) rfl rfl rfl (by decide +kernel)
set_option maxRecDepth 65536 in
theorem w_c5 : (Jvm.Cond.code ({ cls := "com/example/adiq/adiq/broker/KeyHashMixPinLaw", name := "unshift27", desc := "(J)J" } : Jvm.MethodName) method_4_code (4 : Nat) (Option.some Jvm.ClassFile.FieldType.long)).before args0 about1 = true := code_word (m := ⟨1, 3⟩) (meth := k1m3) (c := k1c3) (by decide +kernel) rfl rfl rfl (by decide +kernel)
set_option maxRecDepth 65536 in
theorem w_c6 : (Jvm.Cond.code ({ cls := "com/example/adiq/adiq/broker/KeyHashMixPinLaw", name := "unshift30", desc := "(J)J" } : Jvm.MethodName) method_5_code (4 : Nat) (Option.some Jvm.ClassFile.FieldType.long)).before args0 about1 = true := code_word (m := ⟨1, 4⟩) (meth := k1m4) (c := k1c4) (by decide +kernel) rfl rfl rfl (by decide +kernel)
def codes1 : List Jvm.Cond := [Jvm.Cond.code x code maxLocals ret, Jvm.Cond.code ({ cls := "com/example/adiq/adiq/broker/KeyHash", name := "mix", desc := "(J)J" } : Jvm.MethodName) prog_4_method_3_code (4 : Nat) (Option.some Jvm.ClassFile.FieldType.long), Jvm.Cond.code ({ cls := "com/example/adiq/adiq/broker/KeyHashMixPinLaw", name := "unmix", desc := "(J)J" } : Jvm.MethodName) method_6_code (10 : Nat) (Option.some Jvm.ClassFile.FieldType.long), Jvm.Cond.code ({ cls := "com/example/adiq/adiq/broker/KeyHashMixPinLaw", name := "unshift31", desc := "(J)J" } : Jvm.MethodName) method_3_code (4 : Nat) (Option.some Jvm.ClassFile.FieldType.long), Jvm.Cond.code ({ cls := "com/example/adiq/adiq/broker/KeyHashMixPinLaw", name := "inverse", desc := "(J)J" } : Jvm.MethodName) method_2_code (4 : Nat) (Option.some Jvm.ClassFile.FieldType.long), Jvm.Cond.code ({ cls := "com/example/adiq/adiq/broker/KeyHashMixPinLaw", name := "unshift27", desc := "(J)J" } : Jvm.MethodName) method_4_code (4 : Nat) (Option.some Jvm.ClassFile.FieldType.long), Jvm.Cond.code ({ cls := "com/example/adiq/adiq/broker/KeyHashMixPinLaw", name := "unshift30", desc := "(J)J" } : Jvm.MethodName) method_5_code (4 : Nat) (Option.some Jvm.ClassFile.FieldType.long)]
set_option maxRecDepth 65536 in
theorem codes_eq : words1.filter isCode = codes1 := rfl
theorem w_codes : ∀ c ∈ words1.filter isCode, c.before args0 about1 = true := by
  rw [codes_eq]
  intro c hc
  simp only [codes1, List.mem_cons, List.not_mem_nil, or_false] at hc
  rcases hc with rfl | rfl | rfl | rfl | rfl | rfl | rfl
  · exact w_c0
  · exact w_c1
  · exact w_c2
  · exact w_c3
  · exact w_c4
  · exact w_c5
  · exact w_c6
set_option maxRecDepth 65536 in
theorem w_t1 : (words1.take 24).all (fun c => isCode c || c.before args0 about1) = true := by decide +kernel
set_option maxRecDepth 65536 in
theorem w_t2 : (words1.drop 24).all (fun c => isCode c || c.before args0 about1) = true := by decide +kernel
theorem w_tables : (allAtoms (Jvm.Cond.code x code maxLocals ret :: tables_1)).before args0 about1 = true := by
  rw [allAtoms_all]
  show words1.all (fun c => c.before args0 about1) = true
  refine all_split ?_ w_codes
  rw [← List.take_append_drop 24 words1, List.all_append, w_t1, w_t2]
  rfl
set_option maxRecDepth 65536 in
theorem w_case : (Jvm.Cond.and given_1 narrow_1).before args0 about1 = true := by decide +kernel
theorem w_applies : (headSpec (Jvm.Cond.code x code maxLocals ret :: tables_1) room_1).applies x e0.platform about1 = true :=
  (Spec.applies_iff w_frames).mpr ⟨w_running, w_runnable, w_alone, w_named, w_hears, w_ripe, w_room, w_tables⟩
theorem atStart : AtStart classFile x code maxLocals ret World_1 tables_1 room_1 Calls_1 rest_1 Pre_1 launch0 p0 e0 about1 theMethod args0 below0 :=
  ⟨lists_1, trivial, launch0.admits_env _ _ _, launch0.least_env, fairChoices_fair.cas, fairChoices_fair.clock, w_frames, w_args, w_heap, w_applies, trivial, trivial, w_case⟩
end start1
theorem witness_1 : WitnessClaimed_1 := ⟨start1.p0, start1.e0, start1.about1, start1.theMethod, start1.args0, start1.below0, start1.atStart⟩
end Jvm.Pilot.@@N@@
