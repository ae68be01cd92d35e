import JvmDerived
import JvmDerived.Pilot.@@N@@Statement
import JvmDerived.Pilot.@@N@@Code
set_option linter.unusedVariables false
set_option linter.unusedSimpArgs false
namespace Jvm.Pilot.@@N@@
open Jvm Jvm.ClassFile Sem Op Lib Jvm.Free Jvm.Stand Jvm.LawKit Jvm.RoadKit Bundle Jvm.Pilot.@@N@@.Jvm.D
section OwnKit
variable {p : Program} {l : Launch} {e : Env} {R : Room} {s : State} {m : MethodId} {args : Array Value} {below : List Frame} {meth : Method} {c : Code} {T T' : State} {locs : List Loc} {cells slots kc kn : Nat} {Q : Option Value → Heap → List Loc → Prop} {f f' : JFrame} {pc q q' : Nat} {Ls Ls' : Array Slot} {st : List Value} {Z : State} {a0 : Array Value} {h : Heap} {by' : ByteArray} {ml : Nat} {own nm : String} {ret : Option FieldType}
/-- from this state, with this frame on top, the body returns as Q says -/
def Run (p : Program) (e : Env) (below : List Frame) (s : State) (kc kn : Nat) (Q : Option Value → Heap → List Loc → Prop) (T : State) (f : JFrame) : Prop :=
  ∃ t o, Steps p.tables e below (T.setTop f) t ∧ t.status = .running ∧ Ended t below o ∧ ∃ v L, o = .returned v ∧ Q v t.heap L ∧ FrameEnd s o t L kc kn
theorem Run.by (st : ∀ t, Steps p.tables e below (T'.setTop f') t → Steps p.tables e below (T.setTop f) t) (k : Run p e below s kc kn Q T' f') : Run p e below s kc kn Q T f := by
  obtain ⟨t, o, h1, r⟩ := k
  exact ⟨t, o, st t h1, r⟩
theorem Run.on (k : Run p e below s kc kn Q T' f') (st : Steps p.tables e below (T.setTop f) (T'.setTop f')) : Run p e below s kc kn Q T f := k.by fun _ h1 => st.trans h1
/-- what a walk knows of its method throughout -/
def Fx (p : Program) (s : State) (m : MethodId) (meth : Method) (c : Code) (by' : ByteArray) (ml : Nat) (own nm : String) (ret : Option FieldType) (Z : State) : Prop :=
  p.tables.exec = Jvm.exec ∧ c.code = by' ∧ c.maxLocals = ml ∧ s.vm.findClass own = some m.cls ∧ Z.Warmed39 s.vm ∧ meth.sig.returnType = ret ∧ meth.locks = false ∧ meth.name = nm
def ushrL (x : Int64) (k : Int32) : Int64 := (x.toUInt64 >>> (k &&& 0x3f).toInt64.toUInt64).toInt64
theorem k_lloadN (K : Fx p s m meth c by' ml own nm ret Z) (X : Stand p l e R s m args below meth c T locs cells slots) {k' : Fin 4} {v : Int64} (hd : decode by' pc = .ok (.lload_n k', 1)) (hl : Ls[k'.val]? = some (.val (.long v))) (hq : pc + 1 = q) (k : Run p e below s kc kn Q T (mkF m q Ls (.long v :: st))) : Run p e below s kc kn Q T (mkF m pc Ls st) := by
  subst hq; exact k.by fun t => XS.lloadN X.here K.1 rfl (hb K.2.1 hd) hl
theorem k_lstoreN (K : Fx p s m meth c by' ml own nm ret Z) (X : Stand p l e R s m args below meth c T locs cells slots) {k' : Fin 4} {v x : Int64} (hd : decode by' pc = .ok (.lstore_n k', 1)) (hv : x = v) (hl : storeLocals Ls k'.val (.long v) = some Ls') (hq : pc + 1 = q) (k : Run p e below s kc kn Q T (mkF m q Ls' st)) : Run p e below s kc kn Q T (mkF m pc Ls (.long x :: st)) := by
  subst hq hv; exact k.by fun t => XS.lstoreN X.here K.1 rfl (hb K.2.1 hd) rfl hl
theorem k_iconst (K : Fx p s m meth c by' ml own nm ret Z) (X : Stand p l e R s m args below meth c T locs cells slots) {i : Int} {v : Int32} (hd : decode by' pc = .ok (.iconst i, 1)) (hv : Int32.ofInt i = v) (hq : pc + 1 = q) (k : Run p e below s kc kn Q T (mkF m q Ls (.int v :: st))) : Run p e below s kc kn Q T (mkF m pc Ls st) := by
  subst hq hv; exact k.by fun t => XS.iconst X.here K.1 rfl (hb K.2.1 hd)
theorem k_bipush (K : Fx p s m meth c by' ml own nm ret Z) (X : Stand p l e R s m args below meth c T locs cells slots) {i : Int} {v : Int32} (hd : decode by' pc = .ok (.bipush i, 2)) (hv : (Int8.ofInt i).toInt32 = v) (hq : pc + 2 = q) (k : Run p e below s kc kn Q T (mkF m q Ls (.int v :: st))) : Run p e below s kc kn Q T (mkF m pc Ls st) := by
  subst hq hv; exact k.by fun t => XS.bipush X.here K.1 rfl (hb K.2.1 hd)
theorem k_lmul (K : Fx p s m meth c by' ml own nm ret Z) (X : Stand p l e R s m args below meth c T locs cells slots) {x y : Int64} (hd : decode by' pc = .ok (.lmul, 1)) (hq : pc + 1 = q) (k : Run p e below s kc kn Q T (mkF m q Ls (.long (x * y) :: st))) : Run p e below s kc kn Q T (mkF m pc Ls (.long y :: .long x :: st)) := by
  subst hq; exact k.by fun t => XS.lmul X.here K.1 rfl (hb K.2.1 hd) rfl
theorem k_lxor (K : Fx p s m meth c by' ml own nm ret Z) (X : Stand p l e R s m args below meth c T locs cells slots) {x y : Int64} (hd : decode by' pc = .ok (.lxor, 1)) (hq : pc + 1 = q) (k : Run p e below s kc kn Q T (mkF m q Ls (.long (x ^^^ y) :: st))) : Run p e below s kc kn Q T (mkF m pc Ls (.long y :: .long x :: st)) := by
  subst hq; exact k.by fun t => XS.lxor X.here K.1 rfl (hb K.2.1 hd) rfl
theorem k_lushr (K : Fx p s m meth c by' ml own nm ret Z) (X : Stand p l e R s m args below meth c T locs cells slots) {x : Int64} {y : Int32} (hd : decode by' pc = .ok (.lushr, 1)) (hq : pc + 1 = q) (k : Run p e below s kc kn Q T (mkF m q Ls (.long (ushrL x y) :: st))) : Run p e below s kc kn Q T (mkF m pc Ls (.int y :: .long x :: st)) := by
  subst hq; exact k.by fun t => XS.lushr X.here K.1 rfl (hb K.2.1 hd) rfl
theorem k_lcmp (K : Fx p s m meth c by' ml own nm ret Z) (X : Stand p l e R s m args below meth c T locs cells slots) {x y : Int64} (hd : decode by' pc = .ok (.lcmp, 1)) (hq : pc + 1 = q) (k : Run p e below s kc kn Q T (mkF m q Ls (.int (lcmpW x y) :: st))) : Run p e below s kc kn Q T (mkF m pc Ls (.long y :: .long x :: st)) := by
  subst hq; exact k.by fun t => XS.lcmp X.here K.1 rfl (hb K.2.1 hd) rfl
theorem k_goto (K : Fx p s m meth c by' ml own nm ret Z) (X : Stand p l e R s m args below meth c T locs cells slots) {o : Int} (hd : decode by' pc = .ok (.goto o, 3)) (ho : 0 ≤ (pc : Int) + o) (hq : ((pc : Int) + o).toNat = q) (k : Run p e below s kc kn Q T (mkF m q Ls st)) : Run p e below s kc kn Q T (mkF m pc Ls st) := k.by fun t => XS.goto X.here K.1 rfl rfl (hb K.2.1 hd) ho hq
theorem k_if_ne_y (K : Fx p s m meth c by' ml own nm ret Z) (X : Stand p l e R s m args below meth c T locs cells slots) {x : Int32} {o : Int} (hd : decode by' pc = .ok (.ifCond .ne o, 3)) (hc : ¬ x = 0) (ho : 0 ≤ (pc : Int) + o) (hq : ((pc : Int) + o).toNat = q) (k : Run p e below s kc kn Q T (mkF m q Ls st)) : Run p e below s kc kn Q T (mkF m pc Ls (.int x :: st)) := k.by fun t => XS.ifYes X.here K.1 rfl rfl (hb K.2.1 hd) rfl ((if0 _ _).trans (feq hc).2) ho hq
theorem k_if_ne_n (K : Fx p s m meth c by' ml own nm ret Z) (X : Stand p l e R s m args below meth c T locs cells slots) {x : Int32} {o : Int} (hd : decode by' pc = .ok (.ifCond .ne o, 3)) (hc : x = 0) (hq : pc + 3 = q) (k : Run p e below s kc kn Q T (mkF m q Ls st)) : Run p e below s kc kn Q T (mkF m pc Ls (.int x :: st)) := by
  subst hq; exact k.by fun t => XS.ifNo X.here K.1 rfl (hb K.2.1 hd) rfl ((if0 _ _).trans (teq hc).2)
theorem k_lcmp_ne_y (K : Fx p s m meth c by' ml own nm ret Z) (X : Stand p l e R s m args below meth c T locs cells slots) {x y : Int64} {o : Int} (hd : decode by' pc = .ok (.ifCond .ne o, 3)) (hc : ¬ x = y) (ho : 0 ≤ (pc : Int) + o) (hq : ((pc : Int) + o).toNat = q) (k : Run p e below s kc kn Q T (mkF m q Ls st)) : Run p e below s kc kn Q T (mkF m pc Ls (.int (lcmpW x y) :: st)) := k_if_ne_y K X hd (fun z => hc ((lw_eq x y).mp z)) ho hq k
theorem k_lcmp_ne_n (K : Fx p s m meth c by' ml own nm ret Z) (X : Stand p l e R s m args below meth c T locs cells slots) {x y : Int64} {o : Int} (hd : decode by' pc = .ok (.ifCond .ne o, 3)) (hc : x = y) (hq : pc + 3 = q) (k : Run p e below s kc kn Q T (mkF m q Ls st)) : Run p e below s kc kn Q T (mkF m pc Ls (.int (lcmpW x y) :: st)) := k_if_ne_n K X hd ((lw_eq x y).mpr hc) hq k
theorem k_lcmp_ne (K : Fx p s m meth c by' ml own nm ret Z) (X : Stand p l e R s m args below meth c T locs cells slots) {x y : Int64} {o : Int} (hd : decode by' pc = .ok (.ifCond .ne o, 3)) (ho : 0 ≤ (pc : Int) + o) (hq : ((pc : Int) + o).toNat = q) (hq' : pc + 3 = q') (ky : ¬ x = y → Run p e below s kc kn Q T (mkF m q Ls st)) (kno : x = y → Run p e below s kc kn Q T (mkF m q' Ls st)) : Run p e below s kc kn Q T (mkF m pc Ls (.int (lcmpW x y) :: st)) := by
  by_cases hc : x = y
  · exact k_lcmp_ne_n K X hd hc hq' (kno hc)
  · exact k_lcmp_ne_y K X hd hc ho hq (ky hc)
theorem k_ldc2 (K : Fx p s m meth c by' ml own nm ret Z) (X : Stand p l e R s m args below meth c T locs cells slots) {i : Nat} {v : Int64} (hd : decode by' pc = .ok (.ldc2_w i, 3)) (w : (Cond.constantLong own i v).before a0 Z = true) (hq : pc + 3 = q) (k : Run p e below s kc kn Q T (mkF m q Ls (.long v :: st))) : Run p e below s kc kn Q T (mkF m pc Ls st) := by
  subst hq; exact k.by fun t => X.ldc2Long K.1 K.2.2.2.1 (mvT K.2.2.2.2.1 w) (g := mkF m pc Ls st) rfl (hb K.2.1 hd) t
theorem k_retz (K : Fx p s m meth c by' ml own nm (some .boolean) Z) (X : Stand p l e R s m args below meth c T locs cells slots) {x : Int32} (eT : T.heap = h) (hd : decode by' pc = .ok (.ireturn, 1)) (hc : cells ≤ kc) (hn : slots ≤ kn) (hQ : Q (some (.int (nar .boolean x))) h locs) : Run p e below s kc kn Q T (mkF m pc Ls [.int x]) := by
  subst eT
  have hlk := K.2.2.2.2.2.2.1
  obtain ⟨fs, hr, hrun, hended, hW, hsame⟩ := X.leave (v := (some (.int (nar .boolean x)))) (fun z => by rw [K.2.2.2.2.2.1] at z; first | rfl | cases z)
  exact ⟨_, _, retN X K.1 K.2.2.2.2.2.1 (by simp) (hb K.2.1 hd) hr, hrun, hended, _, _, rfl, hQ, ⟨_, rfl⟩, hW, hsame.mono hc hn⟩
theorem k_retl (K : Fx p s m meth c by' ml own nm (some .long) Z) (X : Stand p l e R s m args below meth c T locs cells slots) {x : Int64} (eT : T.heap = h) (hd : decode by' pc = .ok (.lreturn, 1)) (hc : cells ≤ kc) (hn : slots ≤ kn) (hQ : Q (some (.long x)) h locs) : Run p e below s kc kn Q T (mkF m pc Ls [.long x]) := by
  subst eT
  have hlk := K.2.2.2.2.2.2.1
  obtain ⟨fs, hr, hrun, hended, hW, hsame⟩ := X.leave (v := (some (.long x))) (fun z => by rw [K.2.2.2.2.2.1] at z; first | rfl | cases z)
  exact ⟨_, _, X.lreturnOut K.1 K.2.2.2.2.2.1 (hb K.2.1 hd) hr, hrun, hended, _, _, rfl, hQ, ⟨_, rfl⟩, hW, hsame.mono hc hn⟩
/-- a contract: with these arguments over this heap the body returns as Q says, within the room -/
abbrev Met (l : Launch) (y : MethodName) (bytes : ByteArray) (maxL : Nat) (ret : Option FieldType) (ws : List Jvm.Cond) (rm : Room) (Z : State) (as' : Array Value) (h0 : Heap) (Q : Option Value → Heap → List Loc → Prop) : Prop :=
  MetFree l y (head1 (Jvm.Cond.code y bytes maxL ret :: ws) rm) (fun a U => a = as' ∧ Z.Warmed39 U.vm ∧ U.heap = h0) (fun _ _ _ _ _ => True) (fun _ U o U' => ∃ v L, o = .returned v ∧ Q v U'.heap L ∧ FrameEnd U o U' L rm.cells rm.slots)
theorem enter {y : MethodName} {bytes : ByteArray} {maxL : Nat} {ws : List Jvm.Cond} {rm : Room} {as' : Array Value} {h0 : Heap} (hpl : plainFor y = true) (hef : ∀ m, entryFrame m as' maxL = mkF m 0 Ls [])
    (body : ∀ p e s m below meth c T kc kn Q', rm.cells ≤ kc → rm.slots ≤ kn → (∀ v h L, Q v h L → Q' v h L) → Fx p s m meth c bytes maxL y.cls y.name ret Z → Stand p l e rm s m as' below meth c T [] 0 0 → T.heap = h0 → Run p e below s kc kn Q' T (mkF m 0 Ls [])) : Met l y bytes maxL ret ws rm Z as' h0 Q := by
  refine MetFree.of_bodySF hpl hisR ?_
  intro p e s m args below meth c s₁ Bd hml0 hP hK
  obtain ⟨rfl, hZ, hh⟩ := hP
  obtain ⟨t, o, h1, h2, h3, v, L, h4, h5, h6⟩ := body p e s m below meth c s₁ _ _ Q (Nat.le_refl _) (Nat.le_refl _) (fun _ _ _ z => z) ⟨Bd.exec, Bd.bytes, hml0, findClass_of_methodNamed Bd.named, hZ, Bd.returns, BodyLoose.notSynchronized Bd, (name_of_methodNamed Bd.named Bd.method).1⟩ (Stand.of_body Bd) (by rw [← hh, Bd.state]; rfl)
  exact ⟨t, o, castTop (hef m) h1, h2, h3, v, L, h4, h5, h6⟩
theorem k_static (K : Fx p s m meth c by' ml own nm ret Z) (X : Stand p l e R s m args below meth c T locs cells slots) (eT : T.heap = h) {y : MethodName} {bytes : ByteArray} {maxL i W : Nat} {rt : Option FieldType} {rm : Room} {as' : Array Value} {Q' : Option Value → Heap → List Loc → Prop}
    (hd : decode by' pc = .ok (.invokestatic i, 3)) (w1 : (Cond.methodLink own i y).before a0 Z = true) (w2 : (Cond.static y).before a0 Z = true) (w3 : (Cond.initialized y.cls).before a0 Z = true) (w4 : (Cond.code y bytes maxL rt).before a0 Z = true) (hy : y.cls ≠ "java/lang/invoke/MethodHandle" ∧ y.cls ≠ "java/lang/invoke/VarHandle")
    (hM : Met l y bytes maxL rt [] rm Z as' h Q') (hf : rm.frames + 1 ≤ R.frames) (hl : W + (maxL + 11) + rm.locals ≤ R.locals) (hc : cells + rm.cells ≤ R.cells) (hn : slots + rm.slots ≤ R.slots) (hsz : Ls.size = ml)
    {sig : MethodDescriptor} (hdesc : parseMethodDescriptor y.desc = some sig) {argsL rest : List Value} (ha : as' = argsL.toArray) (hlen : argsL.length = sig.parameters.length) (hst : st = argsL.reverse ++ rest) (hW : (rest.map fun v => v.category).sum ≤ W) (hq : pc + 3 = q)
    (k : ∀ v T' L, Stand p l e R s m args below meth c T' (locs ++ L) (cells + rm.cells) (slots + rm.slots) → Q' v T'.heap L → Run p e below s kc kn Q T' (mkF m q Ls (v.toList ++ rest))) : Run p e below s kc kn Q T (mkF m pc Ls st) := by
  have hZ := K.2.2.2.2.1
  subst hq
  obtain ⟨v, _, ⟨T2, L2, k2, n2⟩, -, X2, ⟨Lc, hQ2, l2, y2, z2⟩, st2⟩ := Jvm.LawKit.callS X K.1 (y := y) K.2.2.2.1 (mvT hZ w1) (mvT hZ w2) (mvT hZ w3) (mvT hZ w4) hy (backOf (W := W) hM hZ w4 w3 hf hl) (g := mkF m pc Ls st) rfl (by rw [K.2.2.1]; exact hsz) (argsL := argsL) (rest := rest) (fun sg hs => by cases hdesc.symm.trans hs; exact hlen) hst (by show 2 * 0 + _ ≤ _; omega) (hb K.2.1 hd) (fun _ _ => ⟨ha.symm, eT, hc, hn⟩)
  dsimp only [Pt.U, Pt.locs, Pt.cells, Pt.slots] at X2 l2 y2 z2 st2 hQ2
  subst l2 y2 z2
  exact (k v T2 Lc X2 hQ2).by st2
/-- a static callee that leaves the heap as it was -/
theorem k_staticP (K : Fx p s m meth c by' ml own nm ret Z) (X : Stand p l e R s m args below meth c T locs cells slots) (eT : T.heap = h) {y : MethodName} {bytes : ByteArray} {maxL i W fr lo : Nat} {rt : Option FieldType} {as' : Array Value} {w : Value}
    (hd : decode by' pc = .ok (.invokestatic i, 3)) (w1 : (Cond.methodLink own i y).before a0 Z = true) (w2 : (Cond.static y).before a0 Z = true) (w3 : (Cond.initialized y.cls).before a0 Z = true) (w4 : (Cond.code y bytes maxL rt).before a0 Z = true) (hy : y.cls ≠ "java/lang/invoke/MethodHandle" ∧ y.cls ≠ "java/lang/invoke/VarHandle")
    (hM : Met l y bytes maxL rt [] { frames := fr, cells := 0, slots := 0, locals := lo } Z as' h (fun v h' L => v = some w ∧ h' = h ∧ L = [])) (hf : fr + 1 ≤ R.frames) (hl : W + (maxL + 11) + lo ≤ R.locals) (hc : cells ≤ R.cells) (hn : slots ≤ R.slots) (hsz : Ls.size = ml)
    {sig : MethodDescriptor} (hdesc : parseMethodDescriptor y.desc = some sig) {argsL rest : List Value} (ha : as' = argsL.toArray) (hlen : argsL.length = sig.parameters.length) (hst : st = argsL.reverse ++ rest) (hW : (rest.map fun v => v.category).sum ≤ W) (hq : pc + 3 = q)
    (k : ∀ T', Stand p l e R s m args below meth c T' locs cells slots → T'.heap = h → Run p e below s kc kn Q T' (mkF m q Ls (w :: rest))) : Run p e below s kc kn Q T (mkF m pc Ls st) := by
  refine k_static K X eT hd w1 w2 w3 w4 hy hM hf hl hc hn hsz hdesc ha hlen hst hW hq ?_
  rintro v T' L X' ⟨rfl, h2, rfl⟩
  rw [List.append_nil] at X'
  exact k T' X' h2
/-- the int j is the place i -/
def Ix (j : Int32) (i : Nat) : Prop := ¬ j < 0 ∧ j.toNatClampNeg = i
theorem Ix.of {j : Int32} {i : Nat} (h : j.toInt = i) : Ix j i := by
  refine ⟨?_, ?_⟩
  · rw [Int32.lt_iff_toInt_lt, h]; have : (0 : Int32).toInt = 0 := rfl
    omega
  · simp only [Int32.toNatClampNeg, h]; omega
end OwnKit

theorem wd {Z : State} {az : Array Value} (hw : ∀ d ∈ tables_1, d.before az Z = true) (k : Nat) {d : Jvm.Cond} (h : tables_1[k]? = some d) : d.before az Z = true := hw _ (List.mem_of_getElem? h)
theorem d1_0 : decode prog_34_method_9_code 0 = .ok (.lload_n 0, 1) := by decide +kernel
theorem d1_1 : decode prog_34_method_9_code 1 = .ok (.lload_n 0, 1) := by decide +kernel
theorem d1_2 : decode prog_34_method_9_code 2 = .ok (.bipush 33, 2) := by decide +kernel
theorem d1_4 : decode prog_34_method_9_code 4 = .ok (.lushr, 1) := by decide +kernel
theorem d1_5 : decode prog_34_method_9_code 5 = .ok (.lxor, 1) := by decide +kernel
theorem d1_6 : decode prog_34_method_9_code 6 = .ok (.ldc2_w 157, 3) := by decide +kernel
theorem d1_9 : decode prog_34_method_9_code 9 = .ok (.lmul, 1) := by decide +kernel
theorem d1_10 : decode prog_34_method_9_code 10 = .ok (.lstore_n 2, 1) := by decide +kernel
theorem d1_11 : decode prog_34_method_9_code 11 = .ok (.lload_n 2, 1) := by decide +kernel
theorem d1_12 : decode prog_34_method_9_code 12 = .ok (.lload_n 2, 1) := by decide +kernel
theorem d1_13 : decode prog_34_method_9_code 13 = .ok (.bipush 33, 2) := by decide +kernel
theorem d1_15 : decode prog_34_method_9_code 15 = .ok (.lushr, 1) := by decide +kernel
theorem d1_16 : decode prog_34_method_9_code 16 = .ok (.lxor, 1) := by decide +kernel
theorem d1_17 : decode prog_34_method_9_code 17 = .ok (.ldc2_w 159, 3) := by decide +kernel
theorem d1_20 : decode prog_34_method_9_code 20 = .ok (.lmul, 1) := by decide +kernel
theorem d1_21 : decode prog_34_method_9_code 21 = .ok (.lstore_n 2, 1) := by decide +kernel
theorem d1_22 : decode prog_34_method_9_code 22 = .ok (.lload_n 2, 1) := by decide +kernel
theorem d1_23 : decode prog_34_method_9_code 23 = .ok (.lload_n 2, 1) := by decide +kernel
theorem d1_24 : decode prog_34_method_9_code 24 = .ok (.bipush 33, 2) := by decide +kernel
theorem d1_26 : decode prog_34_method_9_code 26 = .ok (.lushr, 1) := by decide +kernel
theorem d1_27 : decode prog_34_method_9_code 27 = .ok (.lxor, 1) := by decide +kernel
theorem d1_28 : decode prog_34_method_9_code 28 = .ok (.lreturn, 1) := by decide +kernel
theorem ef_1 (q0 : Int64) : ∀ m : MethodId, entryFrame m #[(.long q0)] 4 = mkF m 0 #[.val (.long q0), .second, .unset, .unset] [] := by intro m; first | (simp [entryFrame, mkF, argsToLocals, Value.category]; done) | rfl
theorem pn_0 : plainName "com/example/centime/centime/Partition" = true := by first | (simp [plainName, overriddenIn]; done) | decide +kernel
def F_spread (q0 : Int64) : Int64 :=
  let v1 : Int64 := ((q0 ^^^ (ushrL q0 (33 : Int32))) * (-49064778989728563 : Int64))
  let v2 : Int64 := ((v1 ^^^ (ushrL v1 (33 : Int32))) * (-4265267296055464877 : Int64))
  (v2 ^^^ (ushrL v2 (33 : Int32)))
set_option maxRecDepth 65536 in
set_option maxHeartbeats 40000000 in
theorem rm1 (l : Launch) (Z : State) (az : Array Value) (hw : ∀ d ∈ tables_1, d.before az Z = true) (ws : List Jvm.Cond) (q0 : Int64) (h0 : Heap) :
    Met l (⟨"com/example/centime/centime/Partition", "spread", "(J)J"⟩ : MethodName) prog_34_method_9_code 4 (some .long) ws ({ frames := 0, cells := 0, slots := 0, locals := 0 } : Room) Z #[(.long q0)] h0 (fun v h' L => v = some (Value.long (F_spread q0)) ∧ h' = h0 ∧ L = []) := by
  refine enter (plainFor_of_name pn_0) (ef_1 q0) ?_
  intro p e s m below meth c T0 kc kn Q hkc hkn hQ K' X0 e0
  have K : Fx p s m meth c prog_34_method_9_code 4 "com/example/centime/centime/Partition" "spread" (some .long) Z := K'
  refine k_lloadN K X0 d1_0 rfl (q := 1) rfl ?_
  refine k_lloadN K X0 d1_1 rfl (q := 2) rfl ?_
  refine k_bipush K X0 d1_2 (v := (33 : Int32)) rfl (q := 4) rfl ?_
  refine k_lushr K X0 d1_4 (q := 5) rfl ?_
  refine k_lxor K X0 d1_5 (q := 6) rfl ?_
  refine k_ldc2 K X0 d1_6 (wd hw 4 rfl) (q := 9) rfl ?_
  refine k_lmul K X0 d1_9 (q := 10) rfl ?_
  obtain ⟨v1, hv_v1⟩ : ∃ z : Int64, ((q0 ^^^ (ushrL q0 (33 : Int32))) * (-49064778989728563 : Int64)) = z := ⟨_, rfl⟩
  refine k_lstoreN K X0 d1_10 hv_v1 (Ls' := #[.val (.long q0), .second, .val (.long v1), .second]) rfl (q := 11) rfl ?_
  refine k_lloadN K X0 d1_11 rfl (q := 12) rfl ?_
  refine k_lloadN K X0 d1_12 rfl (q := 13) rfl ?_
  refine k_bipush K X0 d1_13 (v := (33 : Int32)) rfl (q := 15) rfl ?_
  refine k_lushr K X0 d1_15 (q := 16) rfl ?_
  refine k_lxor K X0 d1_16 (q := 17) rfl ?_
  refine k_ldc2 K X0 d1_17 (wd hw 5 rfl) (q := 20) rfl ?_
  refine k_lmul K X0 d1_20 (q := 21) rfl ?_
  obtain ⟨v2, hv_v2⟩ : ∃ z : Int64, ((v1 ^^^ (ushrL v1 (33 : Int32))) * (-4265267296055464877 : Int64)) = z := ⟨_, rfl⟩
  refine k_lstoreN K X0 d1_21 hv_v2 (Ls' := #[.val (.long q0), .second, .val (.long v2), .second]) rfl (q := 22) rfl ?_
  refine k_lloadN K X0 d1_22 rfl (q := 23) rfl ?_
  refine k_lloadN K X0 d1_23 rfl (q := 24) rfl ?_
  refine k_bipush K X0 d1_24 (v := (33 : Int32)) rfl (q := 26) rfl ?_
  refine k_lushr K X0 d1_26 (q := 27) rfl ?_
  refine k_lxor K X0 d1_27 (q := 28) rfl ?_
  exact k_retl K X0 e0 d1_28 (Nat.le_trans (by decide) hkc) (Nat.le_trans (by decide) hkn) (hQ _ _ _ ⟨(by show some (Value.long (v2 ^^^ (ushrL v2 (33 : Int32)))) = some (Value.long (F_spread q0)); simp only [F_spread, hv_v1, hv_v2]), rfl, rfl⟩)
theorem d3_0 : decode method_3_code 0 = .ok (.lload_n 0, 1) := by decide +kernel
theorem d3_1 : decode method_3_code 1 = .ok (.lload_n 0, 1) := by decide +kernel
theorem d3_2 : decode method_3_code 2 = .ok (.bipush 33, 2) := by decide +kernel
theorem d3_4 : decode method_3_code 4 = .ok (.lushr, 1) := by decide +kernel
theorem d3_5 : decode method_3_code 5 = .ok (.lxor, 1) := by decide +kernel
theorem d3_6 : decode method_3_code 6 = .ok (.lreturn, 1) := by decide +kernel
theorem ef_3 (q0 : Int64) : ∀ m : MethodId, entryFrame m #[(.long q0)] 2 = mkF m 0 #[.val (.long q0), .second] [] := by intro m; first | (simp [entryFrame, mkF, argsToLocals, Value.category]; done) | rfl
theorem pn_1 : plainName "com/example/centime/centime/PartitionSpreadPinLaw" = true := by first | (simp [plainName, overriddenIn]; done) | decide +kernel
def F_unshift (q0 : Int64) : Int64 :=
  (q0 ^^^ (ushrL q0 (33 : Int32)))
set_option maxRecDepth 65536 in
set_option maxHeartbeats 40000000 in
theorem rm3 (l : Launch) (Z : State) (az : Array Value) (hw : ∀ d ∈ tables_1, d.before az Z = true) (ws : List Jvm.Cond) (q0 : Int64) (h0 : Heap) :
    Met l (⟨"com/example/centime/centime/PartitionSpreadPinLaw", "unshift", "(J)J"⟩ : MethodName) method_3_code 2 (some .long) ws ({ frames := 0, cells := 0, slots := 0, locals := 0 } : Room) Z #[(.long q0)] h0 (fun v h' L => v = some (Value.long (F_unshift q0)) ∧ h' = h0 ∧ L = []) := by
  refine enter (plainFor_of_name pn_1) (ef_3 q0) ?_
  intro p e s m below meth c T0 kc kn Q hkc hkn hQ K' X0 e0
  have K : Fx p s m meth c method_3_code 2 "com/example/centime/centime/PartitionSpreadPinLaw" "unshift" (some .long) Z := K'
  refine k_lloadN K X0 d3_0 rfl (q := 1) rfl ?_
  refine k_lloadN K X0 d3_1 rfl (q := 2) rfl ?_
  refine k_bipush K X0 d3_2 (v := (33 : Int32)) rfl (q := 4) rfl ?_
  refine k_lushr K X0 d3_4 (q := 5) rfl ?_
  refine k_lxor K X0 d3_5 (q := 6) rfl ?_
  exact k_retl K X0 e0 d3_6 (Nat.le_trans (by decide) hkc) (Nat.le_trans (by decide) hkn) (hQ _ _ _ ⟨(by show some (Value.long (q0 ^^^ (ushrL q0 (33 : Int32)))) = some (Value.long (F_unshift q0)); simp only [F_unshift]), rfl, rfl⟩)
theorem d2_0 : decode method_4_code 0 = .ok (.lload_n 0, 1) := by decide +kernel
theorem d2_1 : decode method_4_code 1 = .ok (.invokestatic 18, 3) := by decide +kernel
theorem pd_0 : parseMethodDescriptor "(J)J" = some ⟨[.long], some .long⟩ := by decide +kernel
theorem d2_4 : decode method_4_code 4 = .ok (.lstore_n 2, 1) := by decide +kernel
theorem d2_5 : decode method_4_code 5 = .ok (.lload_n 2, 1) := by decide +kernel
theorem d2_6 : decode method_4_code 6 = .ok (.ldc2_w 21, 3) := by decide +kernel
theorem d2_9 : decode method_4_code 9 = .ok (.lmul, 1) := by decide +kernel
theorem d2_10 : decode method_4_code 10 = .ok (.invokestatic 18, 3) := by decide +kernel
theorem d2_13 : decode method_4_code 13 = .ok (.lstore_n 2, 1) := by decide +kernel
theorem d2_14 : decode method_4_code 14 = .ok (.lload_n 2, 1) := by decide +kernel
theorem d2_15 : decode method_4_code 15 = .ok (.ldc2_w 23, 3) := by decide +kernel
theorem d2_18 : decode method_4_code 18 = .ok (.lmul, 1) := by decide +kernel
theorem d2_19 : decode method_4_code 19 = .ok (.invokestatic 18, 3) := by decide +kernel
theorem d2_22 : decode method_4_code 22 = .ok (.lreturn, 1) := by decide +kernel
theorem ef_2 (q0 : Int64) : ∀ m : MethodId, entryFrame m #[(.long q0)] 4 = mkF m 0 #[.val (.long q0), .second, .unset, .unset] [] := by intro m; first | (simp [entryFrame, mkF, argsToLocals, Value.category]; done) | rfl
def F_unspread (q0 : Int64) : Int64 :=
  let v6 : Int64 := (F_unshift q0)
  let v10 : Int64 := (F_unshift (v6 * (-7154897129451604005 : Int64)))
  (F_unshift (v10 * (5725274745694666757 : Int64)))
set_option maxRecDepth 65536 in
set_option maxHeartbeats 40000000 in
theorem rm2 (l : Launch) (Z : State) (az : Array Value) (hw : ∀ d ∈ tables_1, d.before az Z = true) (ws : List Jvm.Cond) (q0 : Int64) (h0 : Heap) :
    Met l (⟨"com/example/centime/centime/PartitionSpreadPinLaw", "unspread", "(J)J"⟩ : MethodName) method_4_code 4 (some .long) ws ({ frames := 1, cells := 0, slots := 0, locals := 13 } : Room) Z #[(.long q0)] h0 (fun v h' L => v = some (Value.long (F_unspread q0)) ∧ h' = h0 ∧ L = []) := by
  refine enter (plainFor_of_name pn_1) (ef_2 q0) ?_
  intro p e s m below meth c T0 kc kn Q hkc hkn hQ K' X0 e0
  have K : Fx p s m meth c method_4_code 4 "com/example/centime/centime/PartitionSpreadPinLaw" "unspread" (some .long) Z := K'
  refine k_lloadN K X0 d2_0 rfl (q := 1) rfl ?_
  refine k_staticP K X0 e0 d2_1 (wd hw 10 rfl) (wd hw 11 rfl) (wd hw 8 rfl) (wd hw 12 rfl) (by decide) (rm3 l Z az hw [] q0 h0) (W := 0) (by decide) (by decide) (by decide) (by decide) rfl pd_0 (argsL := [(.long q0)]) (rest := []) rfl rfl rfl (by decide) (q := 4) rfl ?_
  intro T3 X4 e5
  obtain ⟨v6, hv_v6⟩ : ∃ z : Int64, (F_unshift q0) = z := ⟨_, rfl⟩
  refine k_lstoreN K X4 d2_4 hv_v6 (Ls' := #[.val (.long q0), .second, .val (.long v6), .second]) rfl (q := 5) rfl ?_
  refine k_lloadN K X4 d2_5 rfl (q := 6) rfl ?_
  refine k_ldc2 K X4 d2_6 (wd hw 13 rfl) (q := 9) rfl ?_
  refine k_lmul K X4 d2_9 (q := 10) rfl ?_
  refine k_staticP K X4 e5 d2_10 (wd hw 10 rfl) (wd hw 11 rfl) (wd hw 8 rfl) (wd hw 12 rfl) (by decide) (rm3 l Z az hw [] (v6 * (-7154897129451604005 : Int64)) h0) (W := 0) (by decide) (by decide) (by decide) (by decide) rfl pd_0 (argsL := [(.long (v6 * (-7154897129451604005 : Int64)))]) (rest := []) rfl rfl rfl (by decide) (q := 13) rfl ?_
  intro T7 X8 e9
  obtain ⟨v10, hv_v10⟩ : ∃ z : Int64, (F_unshift (v6 * (-7154897129451604005 : Int64))) = z := ⟨_, rfl⟩
  refine k_lstoreN K X8 d2_13 hv_v10 (Ls' := #[.val (.long q0), .second, .val (.long v10), .second]) rfl (q := 14) rfl ?_
  refine k_lloadN K X8 d2_14 rfl (q := 15) rfl ?_
  refine k_ldc2 K X8 d2_15 (wd hw 14 rfl) (q := 18) rfl ?_
  refine k_lmul K X8 d2_18 (q := 19) rfl ?_
  refine k_staticP K X8 e9 d2_19 (wd hw 10 rfl) (wd hw 11 rfl) (wd hw 8 rfl) (wd hw 12 rfl) (by decide) (rm3 l Z az hw [] (v10 * (5725274745694666757 : Int64)) h0) (W := 0) (by decide) (by decide) (by decide) (by decide) rfl pd_0 (argsL := [(.long (v10 * (5725274745694666757 : Int64)))]) (rest := []) rfl rfl rfl (by decide) (q := 22) rfl ?_
  intro T11 X12 e13
  exact k_retl K X12 e13 d2_22 (Nat.le_trans (by decide) hkc) (Nat.le_trans (by decide) hkn) (hQ _ _ _ ⟨(by show some (Value.long (F_unshift (v10 * (5725274745694666757 : Int64)))) = some (Value.long (F_unspread q0)); simp only [F_unspread, hv_v6, hv_v10]), rfl, rfl⟩)
theorem ef_0 (q0 : Int64) : ∀ m : MethodId, entryFrame m #[(.long q0)] maxLocals = mkF m 0 #[.val (.long q0), .second] [] := by intro m; first | (simp [entryFrame, mkF, argsToLocals, Value.category, maxLocals]; done) | rfl
def F_law (q0 : Int64) : Int32 :=
  let d21 : Int32 := (if (F_unspread (F_spread q0)) = q0 then (1 : Int32) else (0 : Int32))
  (nar .boolean d21)
set_option maxRecDepth 65536 in
set_option maxHeartbeats 40000000 in
theorem rm0 (l : Launch) (Z : State) (az : Array Value) (hw : ∀ d ∈ tables_1, d.before az Z = true) (ws : List Jvm.Cond) (q0 : Int64) (h0 : Heap) (n0 : Nat) (Z0 : n0 ≤ h0.size) :
    Met l x code maxLocals ret ws room_1 Z #[(.long q0)] h0 (fun v h' L => v = some (Value.int (F_law q0)) ∧ Fr n0 L) := by
  refine enter (plainFor_of_name pn_1) (ef_0 q0) ?_
  intro p e s m below meth c T0 kc kn Q hkc hkn hQ K' X0 e0
  have K : Fx p s m meth c code 2 "com/example/centime/centime/PartitionSpreadPinLaw" "law" (some .boolean) Z := K'
  have N0 := Fr.nil n0
  have K0 : Keep h0 h0 [] := Keep.refl _ _
  refine k_lloadN K X0 at_0 rfl (q := 1) rfl ?_
  refine k_staticP K X0 e0 at_1 (wd hw 0 rfl) (wd hw 1 rfl) (wd hw 2 rfl) (wd hw 3 rfl) (by decide) (rm1 l Z az hw [] q0 h0) (W := 0) (by decide) (by decide) (by decide) (by decide) rfl pd_0 (argsL := [(.long q0)]) (rest := []) rfl rfl rfl (by decide) (q := 4) rfl ?_
  intro T14 X15 e16
  refine k_staticP K X15 e16 at_4 (wd hw 6 rfl) (wd hw 7 rfl) (wd hw 8 rfl) (wd hw 9 rfl) (by decide) (rm2 l Z az hw [] (F_spread q0) h0) (W := 0) (by decide) (by decide) (by decide) (by decide) rfl pd_0 (argsL := [(.long (F_spread q0))]) (rest := []) rfl rfl rfl (by decide) (q := 7) rfl ?_
  intro T17 X18 e19
  refine k_lloadN K X18 at_7 rfl (q := 8) rfl ?_
  refine k_lcmp K X18 at_8 (q := 9) rfl ?_
  have J22 : ∀ (d21 : Int32), (if (F_unspread (F_spread q0)) = q0 then (1 : Int32) else (0 : Int32)) = d21 → Run p e below s kc kn Q T17 (mkF m 17 #[.val (.long q0), .second] [(.int d21)]) := by
    intro d21 hv_d21
    exact k_retz K X18 e19 at_17 (Nat.le_trans (by decide) hkc) (Nat.le_trans (by decide) hkn) (hQ _ _ _ ⟨(by show some (Value.int (nar .boolean d21)) = some (Value.int (F_law q0)); simp only [F_law, hv_d21]), N0⟩)
  refine k_lcmp_ne K X18 at_9 (by decide) (q := 16) rfl (q' := 12) rfl ?_ ?_
  · intro hc23
    refine k_iconst K X18 at_16 (v := (0 : Int32)) rfl (q := 17) rfl ?_
    exact J22 _ (by first | rfl | (simp only [if_neg hc23]))
  · intro hc23
    refine k_iconst K X18 at_12 (v := (1 : Int32)) rfl (q := 13) rfl ?_
    refine k_goto K X18 at_13 (by decide) (q := 17) rfl ?_
    exact J22 _ (by first | rfl | (simp only [if_pos hc23]))
theorem own_sh (x : Int64) : ((x ^^^ ushrL x 33) ^^^ ushrL (x ^^^ ushrL x 33) 33) = x := by
  have e : ∀ y : Int64, (ushrL y 33).toBitVec = y.toBitVec >>> 33 := fun y => rfl
  apply Int64.toBitVec_inj.mp
  rw [Int64.toBitVec_xor, Int64.toBitVec_xor, e, e, Int64.toBitVec_xor, e]
  apply BitVec.eq_of_getLsbD_eq
  intro i hi
  simp only [BitVec.getLsbD_xor, BitVec.getLsbD_ushiftRight]
  have z : x.toBitVec.getLsbD (33 + (33 + i)) = false := BitVec.getLsbD_of_ge _ _ (by omega)
  rw [z]
  cases x.toBitVec.getLsbD i <;> cases x.toBitVec.getLsbD (33 + i) <;> rfl
theorem own_mul (x c d : Int64) (h : c * d = 1) : x * c * d = x := by
  rw [Int64.mul_assoc, h, Int64.mul_one]
theorem law_eq (q0 : Int64) : F_law q0 = 1 := by
  have h : F_unspread (F_spread q0) = q0 := by
    simp only [F_unspread, F_spread, F_unshift]
    rw [own_sh, own_mul _ _ _ (by decide), own_sh, own_mul _ _ _ (by decide), own_sh]
  simp only [F_law, h, if_true]
  decide
set_option maxRecDepth 65536 in
set_option maxHeartbeats 40000000 in
theorem comes_1 {Post : Tables → Env → Array Value → State → Outcome → State → Prop} (hpost : ∀ tb e args s v u, (limb_1_1.after args s (.returned v) u = true ∧ limb_1_2.after args s (.returned v) u = true ∧ True) → FrameEnd s (.returned v) u (Jvm.fieldLocs frame_1_writes args s ++ Jvm.arrayLocs frame_1_arrays args s ++ Jvm.staticLocs frame_1_statics s) 0 0 → Post tb e args s (.returned v) u) :
    ArmFor flags0 classFile x code maxLocals ret World_1 tables_1 room_1 Calls_1 rest_1 Pre_1 Post := by
  intro l hfl _ _ p e ha hc hk s m args below hf hA hF happ hP
  obtain ⟨hcalls, hrest, hpre⟩ := hP
  obtain ⟨-, -, -, hnamed, -, -, -, hat⟩ := (Spec.applies_iff hf).mp happ
  obtain ⟨hg, hn⟩ := and_e (Cond.before_iff.mp (show (Jvm.Cond.and given_1 narrow_1).before args s = true from hpre))
  obtain ⟨gc, g0⟩ := and_e hg
  obtain ⟨w0, rfl⟩ : ∃ w0 : Value, args = #[w0] := by
    have hs : args.size = 1 := by simpa [Cond.value, given_1] using gc
    obtain ⟨L⟩ := args
    match L, hs with
    | [w0], _ => exact ⟨w0, rfl⟩
  have hw := fun d (hd : d ∈ tables_1) => atoms_spec (ws := Jvm.Cond.code x code maxLocals ret :: tables_1) hat d (List.mem_cons_of_mem _ hd)
  obtain ⟨i0, ei0⟩ := isL_v g0
  obtain rfl : w0 = (.long i0) := Option.some.inj ei0
  obtain ⟨n, o, h1, h2, h3, _, L, rfl, ⟨rfl, N⟩, hq⟩ := rm0 l s _ hw tables_1 i0 s.heap s.heap.size (Nat.le_refl _) p e ha hc hk s m _ below hf ((Spec.applies_iff_loose hf).mp happ).1 ⟨rfl, State.Warmed39.refl s, rfl⟩ trivial
  rw [law_eq] at *
  refine ⟨n, _, h1, h2, h3, hpost _ _ _ _ _ _ ⟨Cond.after_iff.mpr rfl, Cond.after_iff.mpr (eq_i res_at (Term.int_eval (1)) rfl), trivial⟩ ⟨hq.1, hq.2.1, (hq.2.2.sift fun y hy => Or.inr (N y hy)).mono (by decide) (by decide)⟩⟩
theorem main_1_1 : Claimed_1_1 := comes_1 fun _ _ _ _ _ _ h hF => ⟨h.1, hF⟩
theorem main_1_2 : Claimed_1_2 := comes_1 fun _ _ _ _ _ _ h hF => ⟨h.2.1, hF⟩
end Jvm.Pilot.@@N@@
namespace Jvm.Pilot.@@N@@
open Jvm Jvm.ClassFile Sem Op Lib Jvm.Free Jvm.Stand Jvm.Pilot.@@N@@.Jvm.D
/-! MADE BY PROGRAM (witnessworld.py) out of the Statement's table words and the real class files: 11 classes; the members and pool entries that the words name. The judged class is class 1, her method 1. -/
namespace start1
open Jvm.ClassFile
def u (s : String) : CpInfo := .utf8 (stringToUtf16 s)
/-- a pool by its gaps: so many unusable entries, then the entry; so many at the end -/
def gap : Nat → List CpInfo → List CpInfo
  | 0, r => r
  | n + 1, r => .unusable :: gap n r
def poolList (es : List (Nat × CpInfo)) (last : Nat) : List CpInfo := es.foldr (fun e r => gap e.1 (e.2 :: r)) (gap last [])
def pool (es : List (Nat × CpInfo)) (last : Nat) : Array CpInfo := ⟨poolList es last⟩
def fileOf (pool : Array CpInfo) (this : Nat) (attrs : Array Attribute := #[]) (ms : Array MethodInfo := #[]) (fl : Nat := 33) (sup : Nat := 0) (ifs : Array Nat := #[]) (fds : Array FieldInfo := #[]) : ClassFile where
  minorVersion := 0
  majorVersion := 65
  constantPool := pool
  accessFlags := fl
  thisClass := this
  superClass := sup
  interfaces := ifs
  fields := fds
  methods := ms
  attributes := attrs
def plain (name : String) (sup : Option ClassId) : Class where
  name := name
  kind := .ordinary
  loader := none
  accessFlags := 33
  super := sup
  interfaces := #[]
  cf := none
  fields := #[]
  methods := #[]
  instanceTypes := #[]
  staticTypes := #[]
  resolved := #[]
  callSites := []
  init := .initialized
  statics := none
  mirror := none

def pool0 : Array CpInfo := pool [(5, u "<init>"), (0, u "()V"), (1, .class_ 10), (1, u "java/lang/Object")] 113

def k0m0 : Method := { name := "<init>", desc := "()V", sig := { parameters := [], returnType := none }, accessFlags := 1, code := none }
/-- java/lang/Object -/
def k0 : Class := { plain "java/lang/Object" none with
  accessFlags := 33
  interfaces := #[]
  cf := some (fileOf pool0 8 #[] #[{ accessFlags := 1, nameIndex := 5, descriptorIndex := 6, attributes := #[] }] 33 0 #[] #[])
  fields := #[]
  methods := #[k0m0]
  instanceTypes := #[]
  staticTypes := #[]
  resolved := Array.replicate 124 none
  statics := none }

def pool1 : Array CpInfo := pool [(2, .class_ 4), (1, u "java/lang/Object"), (0, u "<init>"), (0, u "()V"), (0, .methodref 8 9), (0, .class_ 10), (0, .nameAndType 11 12), (0, u "com/example/centime/centime/Partition"), (0, u "spread"), (0, u "(J)J"), (0, .methodref 14 15), (0, .class_ 16), (0, .nameAndType 17 12), (0, u "com/example/centime/centime/PartitionSpreadPinLaw"), (0, u "unspread"), (0, .methodref 14 19), (0, .nameAndType 20 12), (0, u "unshift"), (0, .long 11291846944257947611), (1, .long 5725274745694666757), (3, u "law"), (0, u "(J)Z")] 3

def k1m0 : Method := { name := "<init>", desc := "()V", sig := { parameters := [], returnType := none }, accessFlags := 2, code := none }
def k1c1 : Code := { maxStack := 4, maxLocals := 2, code := code, exceptionTable := #[], attributes := #[] }
def k1m1 : Method := { name := "law", desc := "(J)Z", sig := { parameters := [.long], returnType := some .boolean }, accessFlags := 9, code := some k1c1 }
def k1c2 : Code := { maxStack := 5, maxLocals := 2, code := method_3_code, exceptionTable := #[], attributes := #[] }
def k1m2 : Method := { name := "unshift", desc := "(J)J", sig := { parameters := [.long], returnType := some .long }, accessFlags := 10, code := some k1c2 }
def k1c3 : Code := { maxStack := 4, maxLocals := 4, code := method_4_code, exceptionTable := #[], attributes := #[] }
def k1m3 : Method := { name := "unspread", desc := "(J)J", sig := { parameters := [.long], returnType := some .long }, accessFlags := 10, code := some k1c3 }
/-- com/example/centime/centime/PartitionSpreadPinLaw -/
def k1 : Class := { plain "com/example/centime/centime/PartitionSpreadPinLaw" (some 0) with
  accessFlags := 49
  interfaces := #[]
  cf := some (fileOf pool1 14 #[] #[{ accessFlags := 2, nameIndex := 5, descriptorIndex := 6, attributes := #[] }, { accessFlags := 9, nameIndex := 27, descriptorIndex := 28, attributes := #[] }, { accessFlags := 10, nameIndex := 20, descriptorIndex := 12, attributes := #[] }, { accessFlags := 10, nameIndex := 17, descriptorIndex := 12, attributes := #[] }] 49 2 #[] #[])
  fields := #[]
  methods := #[k1m0, k1m1, k1m2, k1m3]
  instanceTypes := #[]
  staticTypes := #[]
  resolved := Array.replicate 32 none
  statics := none }

def pool2 : Array CpInfo := pool [(1, .class_ 2), (0, u "java/lang/AutoCloseable"), (0, .class_ 4), (0, u "java/lang/Object")] 7

/-- java/lang/AutoCloseable -/
def k2 : Class := { plain "java/lang/AutoCloseable" (some 0) with
  accessFlags := 1537
  interfaces := #[]
  cf := some (fileOf pool2 1 #[] #[] 1537 3 #[] #[])
  fields := #[]
  methods := #[]
  instanceTypes := #[]
  staticTypes := #[]
  resolved := Array.replicate 12 none
  statics := none }

def pool3 : Array CpInfo := pool [(1, .class_ 2), (0, u "java/io/Closeable"), (0, .class_ 4), (0, u "java/lang/Object"), (0, .class_ 6), (0, u "java/lang/AutoCloseable")] 7

/-- java/io/Closeable -/
def k3 : Class := { plain "java/io/Closeable" (some 0) with
  accessFlags := 1537
  interfaces := #[2]
  cf := some (fileOf pool3 1 #[] #[] 1537 3 #[5] #[])
  fields := #[]
  methods := #[]
  instanceTypes := #[]
  staticTypes := #[]
  resolved := Array.replicate 14 none
  statics := none }

def pool4 : Array CpInfo := pool [(2, .class_ 4), (1, u "java/lang/Object"), (3, .class_ 10), (1, u "com/example/centime/centime/Partition"), (0, u "format"), (0, u "Lcom/example/centime/centime/Partition$Format;"), (2, u "shift"), (0, u "I"), (2, u "bits"), (4, u "files"), (0, u "[Ljava/nio/file/Path;"), (4, u "outs"), (0, u "[Ljava/io/OutputStream;"), (2, u "recordsPerFile"), (0, u "[J"), (2, u "heldBytesPerFile"), (1, .class_ 42), (1, u "com/example/centime/centime/Partition$Format"), (37, .class_ 81), (0, u "com/example/centime/centime/Partition$Part"), (75, .long 18397679294719823053), (1, .long 14181476777654086739), (1, .class_ 162), (0, u "java/io/Closeable"), (0, u "MAX_BITS"), (18, u "spread"), (0, u "(J)J")] 7

def k4c0 : Code := { maxStack := 5, maxLocals := 4, code := prog_34_method_9_code, exceptionTable := #[], attributes := #[] }
def k4m0 : Method := { name := "spread", desc := "(J)J", sig := { parameters := [.long], returnType := some .long }, accessFlags := 8, code := some k4c0 }
/-- com/example/centime/centime/Partition -/
def k4 : Class := { plain "com/example/centime/centime/Partition" (some 0) with
  accessFlags := 48
  interfaces := #[3]
  cf := some (fileOf pool4 8 #[.nestMembers #[80, 40]] #[{ accessFlags := 8, nameIndex := 182, descriptorIndex := 183, attributes := #[] }] 48 2 #[161] #[{ accessFlags := 24, nameIndex := 163, descriptorIndex := 16, attributes := #[] }, { accessFlags := 18, nameIndex := 11, descriptorIndex := 12, attributes := #[] }, { accessFlags := 18, nameIndex := 15, descriptorIndex := 16, attributes := #[] }, { accessFlags := 18, nameIndex := 19, descriptorIndex := 16, attributes := #[] }, { accessFlags := 18, nameIndex := 24, descriptorIndex := 25, attributes := #[] }, { accessFlags := 18, nameIndex := 30, descriptorIndex := 31, attributes := #[] }, { accessFlags := 18, nameIndex := 34, descriptorIndex := 35, attributes := #[] }, { accessFlags := 18, nameIndex := 38, descriptorIndex := 35, attributes := #[] }])
  fields := #[{ name := "MAX_BITS", type := .int, accessFlags := 24, slot := 0, constantValue := 0 }, { name := "format", type := (.object "com/example/centime/centime/Partition$Format"), accessFlags := 18, slot := 0, constantValue := 0 }, { name := "shift", type := .int, accessFlags := 18, slot := 1, constantValue := 0 }, { name := "bits", type := .int, accessFlags := 18, slot := 2, constantValue := 0 }, { name := "files", type := (.array (.object "java/nio/file/Path")), accessFlags := 18, slot := 3, constantValue := 0 }, { name := "outs", type := (.array (.object "java/io/OutputStream")), accessFlags := 18, slot := 4, constantValue := 0 }, { name := "recordsPerFile", type := (.array .long), accessFlags := 18, slot := 5, constantValue := 0 }, { name := "heldBytesPerFile", type := (.array .long), accessFlags := 18, slot := 6, constantValue := 0 }]
  methods := #[k4m0]
  instanceTypes := #[(.object "com/example/centime/centime/Partition$Format"), .int, .int, (.array (.object "java/nio/file/Path")), (.array (.object "java/io/OutputStream")), (.array .long), (.array .long)]
  staticTypes := #[.int]
  resolved := Array.replicate 191 none
  statics := none }

def pool5 : Array CpInfo := pool [(1, u "java/lang/Cloneable"), (0, .class_ 1), (0, u "java/lang/Object"), (0, .class_ 3)] 3

/-- java/lang/Cloneable -/
def k5 : Class := { plain "java/lang/Cloneable" (some 0) with
  accessFlags := 1537
  interfaces := #[]
  cf := some (fileOf pool5 2 #[] #[] 1537 4 #[] #[])
  fields := #[]
  methods := #[]
  instanceTypes := #[]
  staticTypes := #[]
  resolved := Array.replicate 8 none
  statics := none }

def pool6 : Array CpInfo := pool [(1, u "java/io/Serializable"), (0, .class_ 1), (0, u "java/lang/Object"), (0, .class_ 3)] 3

/-- java/io/Serializable -/
def k6 : Class := { plain "java/io/Serializable" (some 0) with
  accessFlags := 1537
  interfaces := #[]
  cf := some (fileOf pool6 2 #[] #[] 1537 4 #[] #[])
  fields := #[]
  methods := #[]
  instanceTypes := #[]
  staticTypes := #[]
  resolved := Array.replicate 8 none
  statics := none }

/-- the primitive byte -/
def k7 : Class := { plain "byte" none with kind := .primitive 'B', accessFlags := 0x411 }
/-- [B -/
def k8 : Class := { plain "[B" (some 0) with kind := .array 7 .byte, interfaces := #[5, 6], accessFlags := 1041 }

/-- the primitive int -/
def k9 : Class := { plain "int" none with kind := .primitive 'I', accessFlags := 0x411 }
/-- [I -/
def k10 : Class := { plain "[I" (some 0) with kind := .array 9 .int, interfaces := #[5, 6], accessFlags := 1041 }

def heap : Heap := #[]
def classes : Array Class := #[k0, k1, k2, k3, k4, k5, k6, k7, k8, k9, k10]
def interned : List (Array UInt16 × Addr) := []
def slotsUsed : Nat := 0
def theMethod : MethodId := ⟨1, 1⟩
def args0 : Array Value := #[.long 5]
def aboutOver (below : List Frame) : State where
  vm := { classes := classes, interned := interned.toArray }
  heap := heap
  slotsUsed := slotsUsed
  threads := #[{ frames := .invoking theMethod args0 :: below }]
def below0 : List Frame := [.native { method := ⟨0, 0⟩, args := #[] }]
def about1 : State := aboutOver below0
def p0 : Program := .bare "" "" ""
def e0 : Env := launch0.env 0 0 0
theorem w_frames : about1.frames = Frame.invoking theMethod args0 :: below0 := rfl
set_option maxRecDepth 65536 in
theorem w_args : argsFit about1.vm theMethod args0 = true := by decide +kernel
set_option maxRecDepth 65536 in
theorem w_heap : heapFits about1 = true := by decide +kernel
set_option maxRecDepth 65536 in
theorem w_runnable : about1.curStatus? = some .runnable := by decide +kernel
set_option maxRecDepth 65536 in
theorem w_alone : about1.alone = true := by decide +kernel
set_option maxRecDepth 65536 in
theorem w_named : about1.methodNamed? x = some theMethod := by decide +kernel
set_option maxRecDepth 65536 in
theorem w_hears : about1.hears theMethod below0 = true := by decide +kernel
set_option maxRecDepth 65536 in
theorem w_ripe : about1.ripe theMethod args0 below0 = true := by decide +kernel
theorem w_running : about1.status = .running := rfl
set_option maxRecDepth 65536 in
theorem w_room : about1.hasRoom e0.platform room_1 = true :=
  launch0.hasRoom_least _ room_1 (by decide +kernel) (by decide +kernel) (by decide +kernel) (by decide +kernel) (by decide +kernel) (by decide +kernel)
theorem allAtoms_all (ts : List Jvm.Cond) (a : Array Jvm.Value) (st : Jvm.State) : (allAtoms ts).before a st = ts.all (fun c => c.before a st) := by
  induction ts with
  | nil => rfl
  | cons c t ih =>
    show (Jvm.Cond.and c (allAtoms t)).before a st = _
    rw [Jvm.Cond.before_and, ih, List.all_cons]
def words1 : List Jvm.Cond := Jvm.Cond.code x code maxLocals ret :: tables_1
/-- a 'code' word, met by the world's own term for the bytes: nothing is compared byte by byte -/
theorem code_word {y : MethodName} {bytes : ByteArray} {mx : Nat} {rt : Option FieldType} {a : Array Value} {s : State} {m : MethodId} {meth : Method} {c : Code} (h1 : s.methodNamed? y = some m) (h2 : s.vm.method? m = some meth) (h3 : meth.code = some c) (h4 : c.code = bytes)
    (h5 : (c.maxLocals == mx && c.exceptionTable.isEmpty && decide (c.maxStack ≤ mostOperands) && decide (meth.sig.returnType = rt) && !meth.locks && decide (parseMethodDescriptor y.desc = some meth.sig)) = true) : (Jvm.Cond.code y bytes mx rt).before a s = true := by
  simp only [Bool.and_eq_true, beq_iff_eq, Bool.not_eq_true', decide_eq_true_eq] at h5
  obtain ⟨⟨⟨⟨⟨g1, g2⟩, g3⟩, g4⟩, g5⟩, g6⟩ := h5
  simp [Cond.before, Cond.holds, Cond.value, h1, h2, h3, h4, g1, g2, g3, g4, g5, g6]
def isCode : Jvm.Cond → Bool
  | .code _ _ _ _ => true
  | _ => false
theorem all_split {L : List Jvm.Cond} {P : Jvm.Cond → Bool} (h1 : L.all (fun c => isCode c || P c) = true) (h2 : ∀ c ∈ L.filter isCode, P c = true) : L.all P = true := by
  refine List.all_eq_true.mpr fun c hc => ?_
  have h := List.all_eq_true.mp h1 c hc
  rcases Bool.eq_false_or_eq_true (isCode c) with hi | hi
  · exact h2 c (List.mem_filter.mpr ⟨hc, hi⟩)
  · simpa [hi] using h
set_option maxRecDepth 65536 in
theorem w_c0 : (Jvm.Cond.code x code maxLocals ret).before args0 about1 = true := code_word (m := ⟨1, 1⟩) (meth := k1m1) (c := k1c1) (by decide +kernel) rfl rfl rfl (by decide +kernel)
set_option maxRecDepth 65536 in
theorem w_c1 : (Jvm.Cond.code ({ cls := "com/example/centime/centime/Partition", name := "spread", desc := "(J)J" } : Jvm.MethodName) prog_34_method_9_code (4 : Nat) (Option.some Jvm.ClassFile.FieldType.long)).before args0 about1 = true := code_word (m := ⟨4, 0⟩) (meth := k4m0) (c := k4c0) (by decide +kernel) rfl rfl rfl (by decide +kernel)
set_option maxRecDepth 65536 in
theorem w_c2 : (Jvm.Cond.code ({ cls := "com/example/centime/centime/PartitionSpreadPinLaw", name := "unspread", desc := "(J)J" } : Jvm.MethodName) method_4_code (4 : Nat) (Option.some Jvm.ClassFile.FieldType.long)).before args0 about1 = true := code_word (m := ⟨1, 3⟩) (meth := k1m3) (c := k1c3) (by decide +kernel) rfl rfl rfl (by decide +kernel)
set_option maxRecDepth 65536 in
theorem w_c3 : (Jvm.Cond.code ({ cls := "com/example/centime/centime/PartitionSpreadPinLaw", name := "unshift", desc := "(J)J" } : Jvm.MethodName) method_3_code (2 : Nat) (Option.some Jvm.ClassFile.FieldType.long)).before args0 about1 = true := code_word (m := ⟨1, 2⟩) (meth := k1m2) (c := k1c2) (by decide +kernel) rfl rfl rfl (by decide +kernel)
def codes1 : List Jvm.Cond := [Jvm.Cond.code x code maxLocals ret, Jvm.Cond.code ({ cls := "com/example/centime/centime/Partition", name := "spread", desc := "(J)J" } : Jvm.MethodName) prog_34_method_9_code (4 : Nat) (Option.some Jvm.ClassFile.FieldType.long), Jvm.Cond.code ({ cls := "com/example/centime/centime/PartitionSpreadPinLaw", name := "unspread", desc := "(J)J" } : Jvm.MethodName) method_4_code (4 : Nat) (Option.some Jvm.ClassFile.FieldType.long), Jvm.Cond.code ({ cls := "com/example/centime/centime/PartitionSpreadPinLaw", name := "unshift", desc := "(J)J" } : Jvm.MethodName) method_3_code (2 : Nat) (Option.some Jvm.ClassFile.FieldType.long)]
set_option maxRecDepth 65536 in
theorem codes_eq : words1.filter isCode = codes1 := rfl
theorem w_codes : ∀ c ∈ words1.filter isCode, c.before args0 about1 = true := by
  rw [codes_eq]
  intro c hc
  simp only [codes1, List.mem_cons, List.not_mem_nil, or_false] at hc
  rcases hc with rfl | rfl | rfl | rfl
  · exact w_c0
  · exact w_c1
  · exact w_c2
  · exact w_c3
set_option maxRecDepth 65536 in
theorem w_t1 : words1.all (fun c => isCode c || c.before args0 about1) = true := by decide +kernel
theorem w_tables : (allAtoms (Jvm.Cond.code x code maxLocals ret :: tables_1)).before args0 about1 = true := by
  rw [allAtoms_all]
  show words1.all (fun c => c.before args0 about1) = true
  refine all_split ?_ w_codes
  rw [w_t1]
set_option maxRecDepth 65536 in
theorem w_case : (Jvm.Cond.and given_1 narrow_1).before args0 about1 = true := by decide +kernel
theorem w_applies : (headSpec (Jvm.Cond.code x code maxLocals ret :: tables_1) room_1).applies x e0.platform about1 = true :=
  (Spec.applies_iff w_frames).mpr ⟨w_running, w_runnable, w_alone, w_named, w_hears, w_ripe, w_room, w_tables⟩
theorem atStart : AtStart classFile x code maxLocals ret World_1 tables_1 room_1 Calls_1 rest_1 Pre_1 launch0 p0 e0 about1 theMethod args0 below0 :=
  ⟨lists_1, trivial, launch0.admits_env _ _ _, launch0.least_env, fairChoices_fair.cas, fairChoices_fair.clock, w_frames, w_args, w_heap, w_applies, trivial, trivial, w_case⟩
end start1
theorem witness_1 : WitnessClaimed_1 := ⟨start1.p0, start1.e0, start1.about1, start1.theMethod, start1.args0, start1.below0, start1.atStart⟩
end Jvm.Pilot.@@N@@
