import JvmDerived
import JvmDerived.Pilot.@@N@@Statement
import JvmDerived.Pilot.@@N@@Code
set_option linter.unusedVariables false
set_option linter.unusedSimpArgs false
namespace Jvm.Pilot.@@N@@
open Jvm Jvm.ClassFile Sem Op Lib Jvm.Free Jvm.Stand Jvm.LawKit Jvm.RoadKit Bundle Jvm.Pilot.@@N@@.Jvm.D
section Own
variable {p : Program} {l : Launch} {e : Env} {R : Room} {s : State} {m : MethodId} {args : Array Value} {below : List Frame} {meth : Method} {c : Code} {T : State} {locs : List Loc} {cells slots : Nat}
/-- from t on the body comes to an end, with at most C cells and S slots made, and Q says of it -/
def own_Comes (p : Program) (e : Env) (below : List Frame) (s : State) (C S : Nat) (Q : Option Value → Heap → List Loc → Prop) (t : State) : Prop :=
  ∃ (U : State) (o : Outcome), Steps p.tables e below t U ∧ U.status = .running ∧ Ended U below o ∧ ∃ v L, o = .returned v ∧ Q v U.heap L ∧ FrameEnd s o U L C S
theorem own_by {C S : Nat} {Q : Option Value → Heap → List Loc → Prop} {t t' : State} (st : ∀ target, Steps p.tables e below t' target → Steps p.tables e below t target) (h : own_Comes p e below s C S Q t') : own_Comes p e below s C S Q t := by
  obtain ⟨U, o, h1, h2⟩ := h
  exact ⟨U, o, st _ h1, h2⟩
theorem own_tr {C S : Nat} {Q : Option Value → Heap → List Loc → Prop} {t t' : State} (st : Steps p.tables e below t t') (h : own_Comes p e below s C S Q t') : own_Comes p e below s C S Q t := by
  obtain ⟨U, o, h1, h2⟩ := h
  exact ⟨U, o, st.trans h1, h2⟩
theorem own_ret (X : Stand p l e R s m args below meth c T locs cells slots) {C S : Nat} {Q : Option Value → Heap → List Loc → Prop} {v : Option Value} {t : State} (hv : meth.sig.returnType = none → v = none) (hlk : meth.locks = false) (hC : cells ≤ C) (hS : slots ≤ S) (hQ : Q v T.heap locs)
    (st : ∀ fs, (∀ (f : JFrame) (acts : List Action), f.method = m → f.locked = none → f.entered = [] → (doReturn e (T.setTop f) acts v).1 = T.setFrames fs) → Steps p.tables e below t (T.setFrames fs)) : own_Comes p e below s C S Q t := by
  obtain ⟨fs, hr, hrun, hended, hW, hsame⟩ := X.leave (v := v) hv hlk
  exact ⟨_, _, st fs hr, hrun, hended, v, locs, rfl, hQ, ⟨_, rfl⟩, hW, hsame.mono hC hS⟩
theorem retI (X : Stand p l e R s m args below meth c T locs cells slots) (hx : p.tables.exec = Jvm.exec) {pc : Nat} {Ls : Array Slot} {z : Int32} {rest : List Value} (hret : meth.sig.returnType = some .int) (hd : decode c.code pc = .ok (.ireturn, 1)) {fs : List Frame}
    (hl : ∀ (f : JFrame) (acts : List Action), f.method = m → f.locked = none → f.entered = [] → (doReturn e (T.setTop f) acts (some (.int z))).1 = T.setFrames fs) : Steps p.tables e below (T.setTop (mkF m pc Ls (.int z :: rest))) (T.setFrames fs) := by
  have hm' : T.vm.method? m = some meth := X.method'
  have hn : narrow .int (.int z) = .int z := rfl
  show Steps p.tables e below (T.setTop { method := m, pc := pc, locals := Ls, stack := _ :: rest, locked := none }) _
  jvm_step X.here [X.here.top, hx, hd, hm', hret, hn]
  first | (intro acts; rw [hl _ acts rfl rfl rfl]) | rw [hl _ _ rfl rfl rfl]
  exact Steps.refl _
theorem own_reta (X : Stand p l e R s m args below meth c T locs cells slots) (hx : p.tables.exec = Jvm.exec) {pc : Nat} {Ls : Array Slot} {w : Value} {t : FieldType} {rest : List Value} (hret : meth.sig.returnType = some t) (ht : t.isReference = true) (hw : w.isRef = true) (hd : decode c.code pc = .ok (.areturn, 1)) {fs : List Frame}
    (hl : ∀ (f : JFrame) (acts : List Action), f.method = m → f.locked = none → f.entered = [] → (doReturn e (T.setTop f) acts (some w)).1 = T.setFrames fs) : Steps p.tables e below (T.setTop (mkF m pc Ls (w :: rest))) (T.setFrames fs) := by
  have hm' : T.vm.method? m = some meth := X.method'
  have hn : narrow t w = w := by cases t <;> first | (cases ht; done) | (cases w <;> rfl)
  rcases ref_cases hw with rfl | ⟨z, rfl⟩
  all_goals
    show Steps p.tables e below (T.setTop { method := m, pc := pc, locals := Ls, stack := _ :: rest, locked := none }) _
    jvm_step X.here [X.here.top, hx, hd, hm', hret, hn, Value.isRef]
    try (refine ⟨ht, ?_⟩)
    first | (intro acts; rw [hl _ acts rfl rfl rfl]) | rw [hl _ _ rfl rfl rfl]
    exact Steps.refl _
/-- what is kept with nothing old written is only added to -/
theorem own_ext {h h' : Heap} (K : Keep h h' []) : Ext h h' := ⟨K.1, fun x c q => K.2.1 x c q nin0⟩
/-- the same, where String constants may have been loaded -/
def own_ComesW (p : Program) (e : Env) (below : List Frame) (s : State) (C S : Nat) (Q : Option Value → Heap → List Loc → Prop) (t : State) : Prop :=
  ∃ (U : State) (o : Outcome), Steps p.tables e below t U ∧ U.status = .running ∧ Ended U below o ∧ ∃ v L, o = .returned v ∧ Q v U.heap L ∧ ReturnedEndW s o U L C S
theorem own_byW {C S : Nat} {Q : Option Value → Heap → List Loc → Prop} {t t' : State} (st : ∀ target, Steps p.tables e below t' target → Steps p.tables e below t target) (h : own_ComesW p e below s C S Q t') : own_ComesW p e below s C S Q t := by
  obtain ⟨U, o, h1, h2⟩ := h
  exact ⟨U, o, st _ h1, h2⟩
theorem own_trW {C S : Nat} {Q : Option Value → Heap → List Loc → Prop} {t t' : State} (st : Steps p.tables e below t t') (h : own_ComesW p e below s C S Q t') : own_ComesW p e below s C S Q t := by
  obtain ⟨U, o, h1, h2⟩ := h
  exact ⟨U, o, st.trans h1, h2⟩
theorem own_retW {vm1 : Vm} (X : Stand p l e R (s.setVm vm1) m args below meth c T locs cells slots) {k : Nat} (hS : s.Since vm1 k) (hk : k ≤ T.heap.size) {C S : Nat} {Q : Option Value → Heap → List Loc → Prop} {v : Option Value} {t : State} (hv : meth.sig.returnType = none → v = none) (hlk : meth.locks = false) (hC : cells ≤ C) (hSl : slots ≤ S) (hQ : Q v T.heap locs)
    (st : ∀ fs, (∀ (f : JFrame) (acts : List Action), f.method = m → f.locked = none → f.entered = [] → (doReturn e (T.setTop f) acts v).1 = T.setFrames fs) → Steps p.tables e below t (T.setFrames fs)) : own_ComesW p e below s C S Q t := by
  obtain ⟨fs, hr, hrun, hended, hE⟩ := X.leaveW hS hk (v := v) hv hlk
  exact ⟨_, _, st fs hr, hrun, hended, v, locs, rfl, hQ, hE.1, hE.2.1, hE.2.2.1, hE.2.2.2.mono hC hSl⟩
end Own
theorem own_step {i : Nat} {w w' : Int32} (h : 0 ≤ w.toInt ∧ w.toInt ≤ i) (hi : i < 50) (q : w' = 0 ∨ w' = w + 1) : 0 ≤ w'.toInt ∧ w'.toInt ≤ (i + 1 : Nat) := by
  rcases q with rfl | rfl
  · constructor
    · decide
    · show (0 : Int) ≤ _; omega
  · have e1 : (w + 1).toInt = w.toInt + 1 := by
      rw [Int32.toInt_add]; show (w.toInt + 1).bmod (2 ^ 32) = _
      exact bmod32 (by omega) (by omega)
    rw [e1]; omega
theorem own_far {i : Nat} {w : Int32} (h : 0 ≤ w.toInt ∧ w.toInt ≤ i) (hi : i < 50) : ¬ (w + 1 = (100 : Int32)) := fun q => by
  have e1 : (w + 1).toInt = w.toInt + 1 := by
    rw [Int32.toInt_add]; show (w.toInt + 1).bmod (2 ^ 32) = _
    exact bmod32 (by omega) (by omega)
  rw [q] at e1
  have : (100 : Int32).toInt = 100 := by decide
  omega
def Q1 (Z : State) (r0 : Addr) (h0 : Heap) (n0 : Nat) (v : Option Value) (h : Heap) (L : List Loc) : Prop := v = none ∧ Fr n0 L ∧ Keep h0 h [r0] ∧ Fld Z h r0 "com/example/mixed_margins/mixedmargins/explore/Cooling" "sinceBest" "I" (.int (0 : Int32))
theorem ef_rm1 (m : MethodId) (x0 : Addr) (x1 : UInt64) : entryFrame m #[(.ref x0), (.double x1)] 3 = mkF m 0 #[.val (.ref x0), .val (.double x1), .second] [] := by first | (simp [entryFrame, mkF, argsToLocals, Value.category]; done) | rfl
theorem pn_com_example_mixed_margins_mixedmargins_explore_Cooling : plainName "com/example/mixed_margins/mixedmargins/explore/Cooling" = true := by first | (simp [plainName, overriddenIn]; done) | decide +kernel
theorem d1_0 : decode prog_16_method_1_code 0 = .ok (.aload_n 0, 1) := by decide +kernel
theorem d1_1 : decode prog_16_method_1_code 1 = .ok (.invokespecial 1, 3) := by decide +kernel
theorem d1_4 : decode prog_16_method_1_code 4 = .ok (.aload_n 0, 1) := by decide +kernel
theorem d1_5 : decode prog_16_method_1_code 5 = .ok (.dload_n 1, 1) := by decide +kernel
theorem d1_6 : decode prog_16_method_1_code 6 = .ok (.putfield 7, 3) := by decide +kernel
theorem d1_9 : decode prog_16_method_1_code 9 = .ok (.return_, 1) := by decide +kernel
set_option maxRecDepth 65536 in
set_option maxHeartbeats 40000000 in
theorem rm1 (l : Launch) (Z : State) (a0 : Array Value) (hw : ∀ d ∈ tables_1, d.before a0 Z = true) (ws : List Jvm.Cond) (r0 : Addr) (u1 : UInt64) (t0 : Value) (h0 : Heap) (n0 : Nat) (Z0 : n0 ≤ h0.size) (Et : Exa Z h0 r0 "com/example/mixed_margins/mixedmargins/explore/Cooling") (Ft : Fld Z h0 r0 "com/example/mixed_margins/mixedmargins/explore/Cooling" "temperature" "D" t0) (Fs : Fld Z h0 r0 "com/example/mixed_margins/mixedmargins/explore/Cooling" "sinceBest" "I" (.int (0 : Int32))) (g_r0 : n0 ≤ r0) :
    MetFree l (⟨"com/example/mixed_margins/mixedmargins/explore/Cooling", "<init>", "(D)V"⟩ : MethodName) (head1 (Jvm.Cond.code (⟨"com/example/mixed_margins/mixedmargins/explore/Cooling", "<init>", "(D)V"⟩ : MethodName) prog_16_method_1_code 3 none :: ws) ({ frames := 1, cells := 0, slots := 0, locals := 12 } : Room)) (fun a U => a = #[(.ref r0), (.double u1)] ∧ Z.Warmed39 U.vm ∧ U.heap = h0) (fun _ _ _ _ _ => True) (fun _ U o U' => ∃ v L, o = .returned v ∧ Q1 Z r0 h0 n0 v U'.heap L ∧ FrameEnd U o U' L ({ frames := 1, cells := 0, slots := 0, locals := 12 } : Room).cells ({ frames := 1, cells := 0, slots := 0, locals := 12 } : Room).slots) := by
  refine MetFree.of_bodySF (plainFor_of_name pn_com_example_mixed_margins_mixedmargins_explore_Cooling) hisR ?_
  intro p e s m args below meth c s₁ Bd hml0 hP hK
  obtain ⟨rfl, hZ, hh⟩ := hP
  have hx := Bd.exec
  have hby := Bd.bytes
  have hml : c.maxLocals = 3 := hml0
  have hown : s.vm.findClass "com/example/mixed_margins/mixedmargins/explore/Cooling" = some m.cls := findClass_of_methodNamed Bd.named
  have hnm := (name_of_methodNamed Bd.named Bd.method).1
  have X0 : Stand p l e ({ frames := 1, cells := 0, slots := 0, locals := 12 } : Room) s m #[(.ref r0), (.double u1)] below meth c s₁ [] 0 0 := Stand.of_body Bd
  have e0 : s₁.heap = h0 := by rw [← hh, Bd.state]; rfl
  have N0 := Fr.nil n0
  show own_Comes p e below s ({ frames := 1, cells := 0, slots := 0, locals := 12 } : Room).cells ({ frames := 1, cells := 0, slots := 0, locals := 12 } : Room).slots (Q1 Z r0 h0 n0) _
  rw [show entryFrame m #[(.ref r0), (.double u1)] 3 = mkF m 0 #[.val (.ref r0), .val (.double u1), .second] [] from ef_rm1 m r0 u1]
  show own_Comes p e below s _ _ _ (s₁.setTop (mkF m 0 #[.val (.ref r0), .val (.double u1), .second] []))
  refine own_by (fun _ k => XS.aloadN X0.here hx rfl (hb hby d1_0) rfl rfl k) ?_
  show own_Comes p e below s _ _ _ (s₁.setTop (mkF m 1 #[.val (.ref r0), .val (.double u1), .second] [(.ref r0)]))
  obtain ⟨T1, X1, e1, st1⟩ := initO X0 hx hZ hown (hw _ (List.mem_of_getElem? (i := 6) rfl)) (hw _ (List.mem_of_getElem? (i := 7) rfl)) (hw _ (List.mem_of_getElem? (i := 8) rfl)) e0 (g := (mkF m 1 #[.val (.ref r0), .val (.double u1), .second] [(.ref r0)])) rfl (by rw [hml]; rfl) rfl (hb hby d1_1) (by decide) (W := 0) (by show 2 * 0 + _ ≤ _; exact Nat.le_of_eq rfl) (by decide)
  refine own_by st1 ?_
  show own_Comes p e below s _ _ _ (T1.setTop (mkF m 4 #[.val (.ref r0), .val (.double u1), .second] []))
  refine own_by (fun _ k => XS.aloadN X1.here hx rfl (hb hby d1_4) rfl rfl k) ?_
  show own_Comes p e below s _ _ _ (T1.setTop (mkF m 5 #[.val (.ref r0), .val (.double u1), .second] [(.ref r0)]))
  refine own_by (fun _ k => XS.dloadN X1.here hx rfl (hb hby d1_5) rfl k) ?_
  show own_Comes p e below s _ _ _ (T1.setTop (mkF m 6 #[.val (.ref r0), .val (.double u1), .second] [(.double u1), (.ref r0)]))
  obtain ⟨T2, h2, X2, e2, W2, st2⟩ := putF X1 hx hZ hown (host := "") (Or.inl (hw _ (List.mem_of_getElem? (i := 9) rfl))) Via.refl e1 Ft Et (Or.inl (hw _ (List.mem_of_getElem? (i := 10) rfl))) (hw _ (List.mem_of_getElem? (i := 1) rfl)) (ty := .double) (by decide) rfl rfl (g := (mkF m 6 #[.val (.ref r0), .val (.double u1), .second] [(.double u1), (.ref r0)])) rfl rfl (hb hby d1_6)
  refine own_by st2 ?_
  have Fw2 := Ft.same W2
  have N2 := Fr.snoc X2 N0 g_r0
  show own_Comes p e below s _ _ _ (T2.setTop (mkF m 9 #[.val (.ref r0), .val (.double u1), .second] []))
  have c3 := (Fs.other W2 (Or.inr (slot_ne (Or.inl (hw _ (List.mem_of_getElem? (i := 21) rfl))) (Or.inl (hw _ (List.mem_of_getElem? (i := 10) rfl))) (by decide) (t := .int) (t' := .double) (by decide) (by decide))))
  refine own_ret X2 (v := none) (fun _ => rfl) Bd.notSynchronized (by decide) (by decide) ?_ (fun fs hr => X2.returnOut hx Bd.returns (hb hby d1_9) hr)
  rw [e2]; exact ⟨rfl, N2, (Keep.refl _ _).wr W2 (Or.inl (List.mem_of_getElem? (i := 0) rfl)), c3⟩
def Q3 (Z : State) (h0 : Heap) (n0 : Nat) (v : Option Value) (h : Heap) (L : List Loc) : Prop := ∃ z : Int32, v = some (.int z) ∧ Fr n0 L ∧ h = h0
theorem ef_rm3 (m : MethodId) (x0 : Int32) (x1 : Int32) : entryFrame m #[(.int x0), (.int x1)] 2 = mkF m 0 #[.val (.int x0), .val (.int x1)] [] := by first | (simp [entryFrame, mkF, argsToLocals, Value.category]; done) | rfl
theorem pn_com_example_mixed_margins_mixedmargins_explore_CoolingCountMovePinLaw : plainName "com/example/mixed_margins/mixedmargins/explore/CoolingCountMovePinLaw" = true := by first | (simp [plainName, overriddenIn]; done) | decide +kernel
theorem d3_0 : decode method_2_code 0 = .ok (.iload_n 0, 1) := by decide +kernel
theorem d3_1 : decode method_2_code 1 = .ok (.iload_n 1, 1) := by decide +kernel
theorem d3_2 : decode method_2_code 2 = .ok (.iushr, 1) := by decide +kernel
theorem d3_3 : decode method_2_code 3 = .ok (.iconst 1, 1) := by decide +kernel
theorem d3_4 : decode method_2_code 4 = .ok (.iand, 1) := by decide +kernel
theorem d3_5 : decode method_2_code 5 = .ok (.ifCond .eq 7, 3) := by decide +kernel
theorem d3_12 : decode method_2_code 12 = .ok (.iconst 0, 1) := by decide +kernel
theorem d3_13 : decode method_2_code 13 = .ok (.ireturn, 1) := by decide +kernel
theorem d3_8 : decode method_2_code 8 = .ok (.iconst 1, 1) := by decide +kernel
theorem d3_9 : decode method_2_code 9 = .ok (.goto 4, 3) := by decide +kernel
set_option maxRecDepth 65536 in
set_option maxHeartbeats 40000000 in
theorem rm3 (l : Launch) (Z : State) (a0 : Array Value) (hw : ∀ d ∈ tables_1, d.before a0 Z = true) (ws : List Jvm.Cond) (p0 p1 : Int32) (h0 : Heap) (n0 : Nat) (Z0 : n0 ≤ h0.size) :
    MetFree l (⟨"com/example/mixed_margins/mixedmargins/explore/CoolingCountMovePinLaw", "bit", "(II)Z"⟩ : MethodName) (head1 (Jvm.Cond.code (⟨"com/example/mixed_margins/mixedmargins/explore/CoolingCountMovePinLaw", "bit", "(II)Z"⟩ : MethodName) method_2_code 2 (some .boolean) :: ws) ({ frames := 0, cells := 0, slots := 0, locals := 0 } : Room)) (fun a U => a = #[(.int p0), (.int p1)] ∧ Z.Warmed39 U.vm ∧ U.heap = h0) (fun _ _ _ _ _ => True) (fun _ U o U' => ∃ v L, o = .returned v ∧ Q3 Z  h0 n0 v U'.heap L ∧ FrameEnd U o U' L ({ frames := 0, cells := 0, slots := 0, locals := 0 } : Room).cells ({ frames := 0, cells := 0, slots := 0, locals := 0 } : Room).slots) := by
  refine MetFree.of_bodySF (plainFor_of_name pn_com_example_mixed_margins_mixedmargins_explore_CoolingCountMovePinLaw) hisR ?_
  intro p e s m args below meth c s₁ Bd hml0 hP hK
  obtain ⟨rfl, hZ, hh⟩ := hP
  have hx := Bd.exec
  have hby := Bd.bytes
  have hml : c.maxLocals = 2 := hml0
  have hown : s.vm.findClass "com/example/mixed_margins/mixedmargins/explore/CoolingCountMovePinLaw" = some m.cls := findClass_of_methodNamed Bd.named
  have hnm := (name_of_methodNamed Bd.named Bd.method).1
  have X0 : Stand p l e ({ frames := 0, cells := 0, slots := 0, locals := 0 } : Room) s m #[(.int p0), (.int p1)] below meth c s₁ [] 0 0 := Stand.of_body Bd
  have e0 : s₁.heap = h0 := by rw [← hh, Bd.state]; rfl
  have N0 := Fr.nil n0
  show own_Comes p e below s ({ frames := 0, cells := 0, slots := 0, locals := 0 } : Room).cells ({ frames := 0, cells := 0, slots := 0, locals := 0 } : Room).slots (Q3 Z  h0 n0) _
  rw [show entryFrame m #[(.int p0), (.int p1)] 2 = mkF m 0 #[.val (.int p0), .val (.int p1)] [] from ef_rm3 m p0 p1]
  show own_Comes p e below s _ _ _ (s₁.setTop (mkF m 0 #[.val (.int p0), .val (.int p1)] []))
  refine own_by (fun _ k => XS.iloadN X0.here hx rfl (hb hby d3_0) rfl k) ?_
  show own_Comes p e below s _ _ _ (s₁.setTop (mkF m 1 #[.val (.int p0), .val (.int p1)] [(.int p0)]))
  refine own_by (fun _ k => XS.iloadN X0.here hx rfl (hb hby d3_1) rfl k) ?_
  show own_Comes p e below s _ _ _ (s₁.setTop (mkF m 2 #[.val (.int p0), .val (.int p1)] [(.int p1), (.int p0)]))
  refine own_by (fun _ k => XS.iushr X0.here hx rfl (hb hby d3_2) rfl k) ?_
  show own_Comes p e below s _ _ _ (s₁.setTop (mkF m 3 #[.val (.int p0), .val (.int p1)] [(.int ((p0.toUInt32 >>> (p1 &&& 31).toUInt32).toInt32))]))
  refine own_by (fun _ k => XS.iconst X0.here hx rfl (hb hby d3_3) k) ?_
  show own_Comes p e below s _ _ _ (s₁.setTop (mkF m 4 #[.val (.int p0), .val (.int p1)] [(.int (1 : Int32)), (.int ((p0.toUInt32 >>> (p1 &&& 31).toUInt32).toInt32))]))
  refine own_by (fun _ k => XS.iand X0.here hx rfl (hb hby d3_4) rfl k) ?_
  show own_Comes p e below s _ _ _ (s₁.setTop (mkF m 5 #[.val (.int p0), .val (.int p1)] [(.int (((p0.toUInt32 >>> (p1 &&& 31).toUInt32).toInt32) &&& (1 : Int32)))]))
  by_cases hc5_4 : (((p0.toUInt32 >>> (p1 &&& 31).toUInt32).toInt32) &&& (1 : Int32)) = (0 : Int32)
  · refine own_by (fun _ k => XS.ifYes X0.here hx rfl (pc0 := 5) (pc' := 12) rfl (hb hby d3_5) rfl ((if0 _ _).trans (teq hc5_4).1) (by decide) (by decide) k) ?_
    show own_Comes p e below s _ _ _ (s₁.setTop (mkF m 12 #[.val (.int p0), .val (.int p1)] []))
    refine own_by (fun _ k => XS.iconst X0.here hx rfl (hb hby d3_12) k) ?_
    show own_Comes p e below s _ _ _ (s₁.setTop (mkF m 13 #[.val (.int p0), .val (.int p1)] [(.int (0 : Int32))]))
    refine own_ret X0 (v := some (.int (0 : Int32))) (fun h => by rw [Bd.returns] at h; cases h) Bd.notSynchronized (by decide) (by decide) ?_ (fun fs hr => retN X0 hx (t := .boolean) Bd.returns (by simp) (hb hby d3_13) hr)
    rw [e0]; exact ⟨_, rfl, N0, rfl⟩
  · refine own_by (fun _ k => XS.ifNo X0.here hx rfl (hb hby d3_5) rfl ((if0 _ _).trans (feq hc5_4).1) k) ?_
    show own_Comes p e below s _ _ _ (s₁.setTop (mkF m 8 #[.val (.int p0), .val (.int p1)] []))
    refine own_by (fun _ k => XS.iconst X0.here hx rfl (hb hby d3_8) k) ?_
    show own_Comes p e below s _ _ _ (s₁.setTop (mkF m 9 #[.val (.int p0), .val (.int p1)] [(.int (1 : Int32))]))
    refine own_by (fun _ k => XS.goto X0.here hx rfl (pc0 := 9) (pc' := 13) rfl (hb hby d3_9) (by decide) (by decide) k) ?_
    show own_Comes p e below s _ _ _ (s₁.setTop (mkF m 13 #[.val (.int p0), .val (.int p1)] [(.int (1 : Int32))]))
    refine own_ret X0 (v := some (.int (1 : Int32))) (fun h => by rw [Bd.returns] at h; cases h) Bd.notSynchronized (by decide) (by decide) ?_ (fun fs hr => retN X0 hx (t := .boolean) Bd.returns (by simp) (hb hby d3_13) hr)
    rw [e0]; exact ⟨_, rfl, N0, rfl⟩
def Q4 (Z : State) (r0 : Addr) (w0 : Int32) (h0 : Heap) (n0 : Nat) (v : Option Value) (h : Heap) (L : List Loc) : Prop := v = some (.int (0 : Int32)) ∧ Fr n0 L ∧ Keep h0 h [r0] ∧ ∃ w1 : Int32, Fld Z h r0 "com/example/mixed_margins/mixedmargins/explore/Cooling" "sinceBest" "I" (.int w1) ∧ (w1 = 0 ∨ w1 = w0 + 1)
theorem ef_rm4 (m : MethodId) (x0 : Addr) (x1 : Int32) : entryFrame m #[(.ref x0), (.int x1)] 3 = mkF m 0 #[.val (.ref x0), .val (.int x1), .unset] [] := by first | (simp [entryFrame, mkF, argsToLocals, Value.category]; done) | rfl
theorem d4_0 : decode prog_16_method_3_code 0 = .ok (.iconst 0, 1) := by decide +kernel
theorem d4_1 : decode prog_16_method_3_code 1 = .ok (.istore_n 2, 1) := by decide +kernel
theorem d4_2 : decode prog_16_method_3_code 2 = .ok (.iload_n 1, 1) := by decide +kernel
theorem d4_3 : decode prog_16_method_3_code 3 = .ok (.ifCond .eq 11, 3) := by decide +kernel
theorem d4_14 : decode prog_16_method_3_code 14 = .ok (.aload_n 0, 1) := by decide +kernel
theorem d4_15 : decode prog_16_method_3_code 15 = .ok (.dup, 1) := by decide +kernel
theorem d4_16 : decode prog_16_method_3_code 16 = .ok (.getfield 25, 3) := by decide +kernel
theorem d4_19 : decode prog_16_method_3_code 19 = .ok (.iconst 1, 1) := by decide +kernel
theorem d4_20 : decode prog_16_method_3_code 20 = .ok (.iadd, 1) := by decide +kernel
theorem d4_21 : decode prog_16_method_3_code 21 = .ok (.putfield 25, 3) := by decide +kernel
theorem d4_24 : decode prog_16_method_3_code 24 = .ok (.aload_n 0, 1) := by decide +kernel
theorem d4_25 : decode prog_16_method_3_code 25 = .ok (.getfield 25, 3) := by decide +kernel
theorem d4_28 : decode prog_16_method_3_code 28 = .ok (.bipush 100, 2) := by decide +kernel
theorem d4_30 : decode prog_16_method_3_code 30 = .ok (.if_icmp .ne 22, 3) := by decide +kernel
theorem d4_52 : decode prog_16_method_3_code 52 = .ok (.iload_n 2, 1) := by decide +kernel
theorem d4_53 : decode prog_16_method_3_code 53 = .ok (.ireturn, 1) := by decide +kernel
theorem d4_6 : decode prog_16_method_3_code 6 = .ok (.aload_n 0, 1) := by decide +kernel
theorem d4_7 : decode prog_16_method_3_code 7 = .ok (.iconst 0, 1) := by decide +kernel
theorem d4_8 : decode prog_16_method_3_code 8 = .ok (.putfield 25, 3) := by decide +kernel
theorem d4_11 : decode prog_16_method_3_code 11 = .ok (.goto 41, 3) := by decide +kernel
set_option maxRecDepth 65536 in
set_option maxHeartbeats 40000000 in
theorem rm4 (l : Launch) (Z : State) (a0 : Array Value) (hw : ∀ d ∈ tables_1, d.before a0 Z = true) (ws : List Jvm.Cond) (r0 : Addr) (p1 : Int32) (w0 : Int32) (h0 : Heap) (n0 : Nat) (Z0 : n0 ≤ h0.size) (Et : Exa Z h0 r0 "com/example/mixed_margins/mixedmargins/explore/Cooling") (Fs : Fld Z h0 r0 "com/example/mixed_margins/mixedmargins/explore/Cooling" "sinceBest" "I" (.int w0)) (g_r0 : n0 ≤ r0) (hfar : ¬ (w0 + (1 : Int32) = (100 : Int32))) :
    MetFree l (⟨"com/example/mixed_margins/mixedmargins/explore/Cooling", "countMove", "(Z)Z"⟩ : MethodName) (head1 (Jvm.Cond.code (⟨"com/example/mixed_margins/mixedmargins/explore/Cooling", "countMove", "(Z)Z"⟩ : MethodName) prog_16_method_3_code 3 (some .boolean) :: ws) ({ frames := 0, cells := 0, slots := 0, locals := 0 } : Room)) (fun a U => a = #[(.ref r0), (.int p1)] ∧ Z.Warmed39 U.vm ∧ U.heap = h0) (fun _ _ _ _ _ => True) (fun _ U o U' => ∃ v L, o = .returned v ∧ Q4 Z r0 w0 h0 n0 v U'.heap L ∧ FrameEnd U o U' L ({ frames := 0, cells := 0, slots := 0, locals := 0 } : Room).cells ({ frames := 0, cells := 0, slots := 0, locals := 0 } : Room).slots) := by
  refine MetFree.of_bodySF (plainFor_of_name pn_com_example_mixed_margins_mixedmargins_explore_Cooling) hisR ?_
  intro p e s m args below meth c s₁ Bd hml0 hP hK
  obtain ⟨rfl, hZ, hh⟩ := hP
  have hx := Bd.exec
  have hby := Bd.bytes
  have hml : c.maxLocals = 3 := hml0
  have hown : s.vm.findClass "com/example/mixed_margins/mixedmargins/explore/Cooling" = some m.cls := findClass_of_methodNamed Bd.named
  have hnm := (name_of_methodNamed Bd.named Bd.method).1
  have X0 : Stand p l e ({ frames := 0, cells := 0, slots := 0, locals := 0 } : Room) s m #[(.ref r0), (.int p1)] below meth c s₁ [] 0 0 := Stand.of_body Bd
  have e0 : s₁.heap = h0 := by rw [← hh, Bd.state]; rfl
  have N0 := Fr.nil n0
  show own_Comes p e below s ({ frames := 0, cells := 0, slots := 0, locals := 0 } : Room).cells ({ frames := 0, cells := 0, slots := 0, locals := 0 } : Room).slots (Q4 Z r0 w0 h0 n0) _
  rw [show entryFrame m #[(.ref r0), (.int p1)] 3 = mkF m 0 #[.val (.ref r0), .val (.int p1), .unset] [] from ef_rm4 m r0 p1]
  show own_Comes p e below s _ _ _ (s₁.setTop (mkF m 0 #[.val (.ref r0), .val (.int p1), .unset] []))
  refine own_by (fun _ k => XS.iconst X0.here hx rfl (hb hby d4_0) k) ?_
  show own_Comes p e below s _ _ _ (s₁.setTop (mkF m 1 #[.val (.ref r0), .val (.int p1), .unset] [(.int (0 : Int32))]))
  refine own_by (fun _ k => XS.istoreN X0.here hx rfl (hb hby d4_1) rfl (l' := #[.val (.ref r0), .val (.int p1), .val (.int (0 : Int32))]) rfl k) ?_
  show own_Comes p e below s _ _ _ (s₁.setTop (mkF m 2 #[.val (.ref r0), .val (.int p1), .val (.int (0 : Int32))] []))
  refine own_by (fun _ k => XS.iloadN X0.here hx rfl (hb hby d4_2) rfl k) ?_
  show own_Comes p e below s _ _ _ (s₁.setTop (mkF m 3 #[.val (.ref r0), .val (.int p1), .val (.int (0 : Int32))] [(.int p1)]))
  by_cases hc3_5 : p1 = (0 : Int32)
  · refine own_by (fun _ k => XS.ifYes X0.here hx rfl (pc0 := 3) (pc' := 14) rfl (hb hby d4_3) rfl ((if0 _ _).trans (teq hc3_5).1) (by decide) (by decide) k) ?_
    show own_Comes p e below s _ _ _ (s₁.setTop (mkF m 14 #[.val (.ref r0), .val (.int p1), .val (.int (0 : Int32))] []))
    refine own_by (fun _ k => XS.aloadN X0.here hx rfl (hb hby d4_14) rfl rfl k) ?_
    show own_Comes p e below s _ _ _ (s₁.setTop (mkF m 15 #[.val (.ref r0), .val (.int p1), .val (.int (0 : Int32))] [(.ref r0)]))
    refine own_by (fun _ k => XS.dup X0.here hx rfl (hb hby d4_15) rfl rfl k) ?_
    show own_Comes p e below s _ _ _ (s₁.setTop (mkF m 16 #[.val (.ref r0), .val (.int p1), .val (.int (0 : Int32))] [(.ref r0), (.ref r0)]))
    obtain ⟨T6, X6, e6, st6⟩ := getF X0 hx hZ hown (host := "") (Or.inl (hw _ (List.mem_of_getElem? (i := 20) rfl))) Via.refl e0 Fs (g := (mkF m 16 #[.val (.ref r0), .val (.int p1), .val (.int (0 : Int32))] [(.ref r0), (.ref r0)])) rfl rfl (hb hby d4_16)
    refine own_by st6 ?_
    show own_Comes p e below s _ _ _ (T6.setTop (mkF m 19 #[.val (.ref r0), .val (.int p1), .val (.int (0 : Int32))] [(.int w0), (.ref r0)]))
    refine own_by (fun _ k => XS.iconst X6.here hx rfl (hb hby d4_19) k) ?_
    show own_Comes p e below s _ _ _ (T6.setTop (mkF m 20 #[.val (.ref r0), .val (.int p1), .val (.int (0 : Int32))] [(.int (1 : Int32)), (.int w0), (.ref r0)]))
    refine own_by (fun _ k => XS.iadd X6.here hx rfl (hb hby d4_20) rfl k) ?_
    show own_Comes p e below s _ _ _ (T6.setTop (mkF m 21 #[.val (.ref r0), .val (.int p1), .val (.int (0 : Int32))] [(.int (w0 + (1 : Int32))), (.ref r0)]))
    obtain ⟨T7, h7, X7, e7, W7, st7⟩ := putF X6 hx hZ hown (host := "") (Or.inl (hw _ (List.mem_of_getElem? (i := 20) rfl))) Via.refl e6 Fs Et (Or.inl (hw _ (List.mem_of_getElem? (i := 21) rfl))) (hw _ (List.mem_of_getElem? (i := 1) rfl)) (ty := .int) (by decide) rfl rfl (g := (mkF m 21 #[.val (.ref r0), .val (.int p1), .val (.int (0 : Int32))] [(.int (w0 + (1 : Int32))), (.ref r0)])) rfl rfl (hb hby d4_21)
    refine own_by st7 ?_
    have Fw7 := Fs.same W7
    have N7 := Fr.snoc X7 N0 g_r0
    show own_Comes p e below s _ _ _ (T7.setTop (mkF m 24 #[.val (.ref r0), .val (.int p1), .val (.int (0 : Int32))] []))
    refine own_by (fun _ k => XS.aloadN X7.here hx rfl (hb hby d4_24) rfl rfl k) ?_
    show own_Comes p e below s _ _ _ (T7.setTop (mkF m 25 #[.val (.ref r0), .val (.int p1), .val (.int (0 : Int32))] [(.ref r0)]))
    obtain ⟨T8, X8, e8, st8⟩ := getF X7 hx hZ hown (host := "") (Or.inl (hw _ (List.mem_of_getElem? (i := 20) rfl))) Via.refl e7 Fw7 (g := (mkF m 25 #[.val (.ref r0), .val (.int p1), .val (.int (0 : Int32))] [(.ref r0)])) rfl rfl (hb hby d4_25)
    refine own_by st8 ?_
    show own_Comes p e below s _ _ _ (T8.setTop (mkF m 28 #[.val (.ref r0), .val (.int p1), .val (.int (0 : Int32))] [(.int (w0 + (1 : Int32)))]))
    refine own_by (fun _ k => XS.bipush X8.here hx rfl (hb hby d4_28) k) ?_
    show own_Comes p e below s _ _ _ (T8.setTop (mkF m 30 #[.val (.ref r0), .val (.int p1), .val (.int (0 : Int32))] [(.int (100 : Int32)), (.int (w0 + (1 : Int32)))]))
    refine own_by (fun _ k => XS.icmpYes X8.here hx rfl (pc0 := 30) (pc' := 52) rfl (hb hby d4_30) rfl (feq hfar).2 (by decide) (by decide) k) ?_
    show own_Comes p e below s _ _ _ (T8.setTop (mkF m 52 #[.val (.ref r0), .val (.int p1), .val (.int (0 : Int32))] []))
    refine own_by (fun _ k => XS.iloadN X8.here hx rfl (hb hby d4_52) rfl k) ?_
    show own_Comes p e below s _ _ _ (T8.setTop (mkF m 53 #[.val (.ref r0), .val (.int p1), .val (.int (0 : Int32))] [(.int (0 : Int32))]))
    refine own_ret X8 (v := some (.int (0 : Int32))) (fun h => by rw [Bd.returns] at h; cases h) Bd.notSynchronized (by decide) (by decide) ?_ (fun fs hr => retN X8 hx (t := .boolean) Bd.returns (by simp) (hb hby d4_53) hr)
    rw [e8]; exact ⟨rfl, N7, (Keep.refl _ _).wr W7 (Or.inl (List.mem_of_getElem? (i := 0) rfl)), _, Fw7, Or.inr rfl⟩
  · refine own_by (fun _ k => XS.ifNo X0.here hx rfl (hb hby d4_3) rfl ((if0 _ _).trans (feq hc3_5).1) k) ?_
    show own_Comes p e below s _ _ _ (s₁.setTop (mkF m 6 #[.val (.ref r0), .val (.int p1), .val (.int (0 : Int32))] []))
    refine own_by (fun _ k => XS.aloadN X0.here hx rfl (hb hby d4_6) rfl rfl k) ?_
    show own_Comes p e below s _ _ _ (s₁.setTop (mkF m 7 #[.val (.ref r0), .val (.int p1), .val (.int (0 : Int32))] [(.ref r0)]))
    refine own_by (fun _ k => XS.iconst X0.here hx rfl (hb hby d4_7) k) ?_
    show own_Comes p e below s _ _ _ (s₁.setTop (mkF m 8 #[.val (.ref r0), .val (.int p1), .val (.int (0 : Int32))] [(.int (0 : Int32)), (.ref r0)]))
    obtain ⟨T9, h9, X9, e9, W9, st9⟩ := putF X0 hx hZ hown (host := "") (Or.inl (hw _ (List.mem_of_getElem? (i := 20) rfl))) Via.refl e0 Fs Et (Or.inl (hw _ (List.mem_of_getElem? (i := 21) rfl))) (hw _ (List.mem_of_getElem? (i := 1) rfl)) (ty := .int) (by decide) rfl rfl (g := (mkF m 8 #[.val (.ref r0), .val (.int p1), .val (.int (0 : Int32))] [(.int (0 : Int32)), (.ref r0)])) rfl rfl (hb hby d4_8)
    refine own_by st9 ?_
    have Fw9 := Fs.same W9
    have N9 := Fr.snoc X9 N0 g_r0
    show own_Comes p e below s _ _ _ (T9.setTop (mkF m 11 #[.val (.ref r0), .val (.int p1), .val (.int (0 : Int32))] []))
    refine own_by (fun _ k => XS.goto X9.here hx rfl (pc0 := 11) (pc' := 52) rfl (hb hby d4_11) (by decide) (by decide) k) ?_
    show own_Comes p e below s _ _ _ (T9.setTop (mkF m 52 #[.val (.ref r0), .val (.int p1), .val (.int (0 : Int32))] []))
    refine own_by (fun _ k => XS.iloadN X9.here hx rfl (hb hby d4_52) rfl k) ?_
    show own_Comes p e below s _ _ _ (T9.setTop (mkF m 53 #[.val (.ref r0), .val (.int p1), .val (.int (0 : Int32))] [(.int (0 : Int32))]))
    refine own_ret X9 (v := some (.int (0 : Int32))) (fun h => by rw [Bd.returns] at h; cases h) Bd.notSynchronized (by decide) (by decide) ?_ (fun fs hr => retN X9 hx (t := .boolean) Bd.returns (by simp) (hb hby d4_53) hr)
    rw [e9]; exact ⟨rfl, N9, (Keep.refl _ _).wr W9 (Or.inl (List.mem_of_getElem? (i := 0) rfl)), _, Fw9, Or.inl rfl⟩
def Q0 (Z : State) (h0 : Heap) (n0 : Nat) (v : Option Value) (h : Heap) (L : List Loc) : Prop := v = some (.int (1 : Int32)) ∧ Fr n0 L
theorem ef_rm0 (m : MethodId) (x0 : Int32) (x1 : Int32) : entryFrame m #[(.int x0), (.int x1)] maxLocals = mkF m 0 #[.val (.int x0), .val (.int x1), .unset, .unset, .unset, .unset, .unset, .unset, .unset, .unset, .unset, .unset] [] := by first | (simp [entryFrame, mkF, argsToLocals, Value.category, maxLocals]; done) | rfl
theorem pd__D_V_235 : parseMethodDescriptor "(D)V" = some ⟨[.double], none⟩ := by decide +kernel
theorem pd__II_Z_317 : parseMethodDescriptor "(II)Z" = some ⟨[.int, .int], some .boolean⟩ := by decide +kernel
theorem pd__Z_Z_261 : parseMethodDescriptor "(Z)Z" = some ⟨[.boolean], some .boolean⟩ := by decide +kernel
set_option maxRecDepth 65536 in
set_option maxHeartbeats 40000000 in
theorem rm0 (l : Launch) (Z : State) (a0 : Array Value) (hw : ∀ d ∈ tables_1, d.before a0 Z = true) (ws : List Jvm.Cond) (p0 p1 : Int32) (h0 : Heap) (n0 : Nat) (Z0 : n0 ≤ h0.size) :
    MetFree l x (head1 (Jvm.Cond.code x code maxLocals ret :: ws) room_1) (fun a U => a = #[(.int p0), (.int p1)] ∧ Z.Warmed39 U.vm ∧ U.heap = h0) (fun _ _ _ _ _ => True) (fun _ U o U' => ∃ v L, o = .returned v ∧ Q0 Z  h0 n0 v U'.heap L ∧ FrameEnd U o U' L room_1.cells room_1.slots) := by
  refine MetFree.of_bodySF (plainFor_of_name pn_com_example_mixed_margins_mixedmargins_explore_CoolingCountMovePinLaw) hisR ?_
  intro p e s m args below meth c s₁ Bd hml0 hP hK
  obtain ⟨rfl, hZ, hh⟩ := hP
  have hx := Bd.exec
  have hby := Bd.bytes
  have hml : c.maxLocals = 12 := hml0
  have hown : s.vm.findClass "com/example/mixed_margins/mixedmargins/explore/CoolingCountMovePinLaw" = some m.cls := findClass_of_methodNamed Bd.named
  have hnm := (name_of_methodNamed Bd.named Bd.method).1
  have X0 : Stand p l e room_1 s m #[(.int p0), (.int p1)] below meth c s₁ [] 0 0 := Stand.of_body Bd
  have e0 : s₁.heap = h0 := by rw [← hh, Bd.state]; rfl
  have N0 := Fr.nil n0
  show own_Comes p e below s room_1.cells room_1.slots (Q0 Z  h0 n0) _
  rw [show entryFrame m #[(.int p0), (.int p1)] maxLocals = mkF m 0 #[.val (.int p0), .val (.int p1), .unset, .unset, .unset, .unset, .unset, .unset, .unset, .unset, .unset, .unset] [] from ef_rm0 m p0 p1]
  show own_Comes p e below s _ _ _ (s₁.setTop (mkF m 0 #[.val (.int p0), .val (.int p1), .unset, .unset, .unset, .unset, .unset, .unset, .unset, .unset, .unset, .unset] []))
  obtain ⟨T10, h10, X10, e10, E10, A10, D10, -, st10⟩ := newO X0 hx hZ hown (hw _ (List.mem_of_getElem? (i := 0) rfl)) (hw _ (List.mem_of_getElem? (i := 1) rfl)) (hw _ (List.mem_of_getElem? (i := 2) rfl)) e0 (g := (mkF m 0 #[.val (.int p0), .val (.int p1), .unset, .unset, .unset, .unset, .unset, .unset, .unset, .unset, .unset, .unset] [])) rfl (hb hby at_0) (by decide) (by decide)
  obtain ⟨b10, g10⟩ : ∃ z, z = h0.size := ⟨_, rfl⟩
  rw [← g10] at A10 D10 st10
  have g_b10 : n0 ≤ b10 := Nat.le_trans Z0 (Nat.le_of_eq g10.symm)
  refine own_by st10 ?_
  show own_Comes p e below s _ _ _ (T10.setTop (mkF m 3 #[.val (.int p0), .val (.int p1), .unset, .unset, .unset, .unset, .unset, .unset, .unset, .unset, .unset, .unset] [(.ref b10)]))
  refine own_by (fun _ k => XS.dup X10.here hx rfl (hb hby at_3) rfl rfl k) ?_
  show own_Comes p e below s _ _ _ (T10.setTop (mkF m 4 #[.val (.int p0), .val (.int p1), .unset, .unset, .unset, .unset, .unset, .unset, .unset, .unset, .unset, .unset] [(.ref b10), (.ref b10)]))
  refine own_by (fun _ k => XS.iloadN X10.here hx rfl (hb hby at_4) rfl k) ?_
  show own_Comes p e below s _ _ _ (T10.setTop (mkF m 5 #[.val (.int p0), .val (.int p1), .unset, .unset, .unset, .unset, .unset, .unset, .unset, .unset, .unset, .unset] [(.int p1), (.ref b10), (.ref b10)]))
  refine own_by (fun _ k => XS.i2dS X10.here hx rfl (hb hby at_5) rfl rfl k) ?_
  show own_Comes p e below s _ _ _ (T10.setTop (mkF m 6 #[.val (.int p0), .val (.int p1), .unset, .unset, .unset, .unset, .unset, .unset, .unset, .unset, .unset, .unset] [(.double (FP.i2d p1)), (.ref b10), (.ref b10)]))
  obtain ⟨_, _, ⟨T11, L11, k11, n11⟩, -, X11, ⟨Lc11, hQ11, l11, y11, z11⟩, st11⟩ := X10.specialBack hx (y := (⟨"com/example/mixed_margins/mixedmargins/explore/Cooling", "<init>", "(D)V"⟩ : MethodName)) rfl hown (mvT hZ (hw _ (List.mem_of_getElem? (i := 3) rfl))) (mvT hZ (hw _ (List.mem_of_getElem? (i := 4) rfl))) (mvT hZ (hw _ (List.mem_of_getElem? (i := 5) rfl))) (by decide) (backOf (W := 1) (rm1 l Z a0 hw [] b10 (FP.i2d p1) (.double 0) h10 n0 (Nat.le_trans Z0 E10.1) A10 (D10 (Or.inl (hw _ (List.mem_of_getElem? (i := 10) rfl))) (ty := .double) (by decide)) (D10 (Or.inl (hw _ (List.mem_of_getElem? (i := 21) rfl))) (ty := .int) (by decide)) g_b10) hZ (hw _ (List.mem_of_getElem? (i := 5) rfl)) (hw _ (List.mem_of_getElem? (i := 2) rfl)) (by decide) (by decide)) (g := (mkF m 6 #[.val (.int p0), .val (.int p1), .unset, .unset, .unset, .unset, .unset, .unset, .unset, .unset, .unset, .unset] [(.double (FP.i2d p1)), (.ref b10), (.ref b10)])) rfl (by rw [hml]; rfl) (Steps.refl _) (a := b10) (argsL := [(.double (FP.i2d p1))]) (rest := [(.ref b10)]) (lenOf pd__D_V_235 rfl) rfl (by show 2 * 0 + _ ≤ _; exact Nat.le_of_eq rfl) (hb hby at_6) (fun _ _ => ⟨rfl, e10, (by decide : 1 + 0 ≤ _), (by decide : 2 + 0 ≤ _)⟩)
  dsimp only [Pt.U, Pt.locs, Pt.cells, Pt.slots] at X11 l11 y11 z11 st11 hQ11
  subst l11 y11 z11
  obtain ⟨rfl, N11q, K11, F11⟩ := hQ11
  have N11 := Fr.app N0 N11q
  refine own_tr st11 ?_
  show own_Comes p e below s _ _ _ (T11.setTop (mkF m 9 #[.val (.int p0), .val (.int p1), .unset, .unset, .unset, .unset, .unset, .unset, .unset, .unset, .unset, .unset] [(.ref b10)]))
  refine own_by (fun _ k => XS.astoreN X11.here hx rfl (hb hby at_9) rfl rfl (l' := #[.val (.int p0), .val (.int p1), .val (.ref b10), .unset, .unset, .unset, .unset, .unset, .unset, .unset, .unset, .unset]) rfl k) ?_
  show own_Comes p e below s _ _ _ (T11.setTop (mkF m 10 #[.val (.int p0), .val (.int p1), .val (.ref b10), .unset, .unset, .unset, .unset, .unset, .unset, .unset, .unset, .unset] []))
  refine own_by (fun _ k => XS.aloadN X11.here hx rfl (hb hby at_10) rfl rfl k) ?_
  show own_Comes p e below s _ _ _ (T11.setTop (mkF m 11 #[.val (.int p0), .val (.int p1), .val (.ref b10), .unset, .unset, .unset, .unset, .unset, .unset, .unset, .unset, .unset] [(.ref b10)]))
  refine own_by (fun _ k => XS.iloadN X11.here hx rfl (hb hby at_11) rfl k) ?_
  show own_Comes p e below s _ _ _ (T11.setTop (mkF m 12 #[.val (.int p0), .val (.int p1), .val (.ref b10), .unset, .unset, .unset, .unset, .unset, .unset, .unset, .unset, .unset] [(.int p0), (.ref b10)]))
  refine own_by (fun _ k => XS.iconst X11.here hx rfl (hb hby at_12) k) ?_
  show own_Comes p e below s _ _ _ (T11.setTop (mkF m 13 #[.val (.int p0), .val (.int p1), .val (.ref b10), .unset, .unset, .unset, .unset, .unset, .unset, .unset, .unset, .unset] [(.int (0 : Int32)), (.int p0), (.ref b10)]))
  obtain ⟨_, _, ⟨T12, L12, k12, n12⟩, -, X12, ⟨Lc12, hQ12, l12, y12, z12⟩, st12⟩ := Jvm.LawKit.callS X11 hx (y := (⟨"com/example/mixed_margins/mixedmargins/explore/CoolingCountMovePinLaw", "bit", "(II)Z"⟩ : MethodName)) hown (mvT hZ (hw _ (List.mem_of_getElem? (i := 11) rfl))) (mvT hZ (hw _ (List.mem_of_getElem? (i := 12) rfl))) (mvT hZ (hw _ (List.mem_of_getElem? (i := 13) rfl))) (mvT hZ (hw _ (List.mem_of_getElem? (i := 14) rfl))) (by decide) (backOf (W := 1) (rm3 l Z a0 hw [] p0 (0 : Int32) T11.heap n0 (Nat.le_trans (Nat.le_trans Z0 E10.1) K11.1)) hZ (hw _ (List.mem_of_getElem? (i := 14) rfl)) (hw _ (List.mem_of_getElem? (i := 13) rfl)) (by decide) (by decide)) (g := (mkF m 13 #[.val (.int p0), .val (.int p1), .val (.ref b10), .unset, .unset, .unset, .unset, .unset, .unset, .unset, .unset, .unset] [(.int (0 : Int32)), (.int p0), (.ref b10)])) rfl (by rw [hml]; rfl) (argsL := [(.int p0), (.int (0 : Int32))]) (rest := [(.ref b10)]) (lenOf pd__II_Z_317 rfl) rfl (by show 2 * 0 + _ ≤ _; exact Nat.le_of_eq rfl) (hb hby at_13) (fun _ _ => ⟨rfl, rfl, (by decide : 1 + 0 ≤ _), (by decide : 2 + 0 ≤ _)⟩)
  dsimp only [Pt.U, Pt.locs, Pt.cells, Pt.slots] at X12 l12 y12 z12 st12 hQ12
  subst l12 y12 z12
  obtain ⟨z12, rfl, N12q, e12q⟩ := hQ12
  have N12 := Fr.app N11 N12q
  refine own_by st12 ?_
  have e12 : T12.heap = T11.heap := e12q
  show own_Comes p e below s _ _ _ (T12.setTop (mkF m 16 #[.val (.int p0), .val (.int p1), .val (.ref b10), .unset, .unset, .unset, .unset, .unset, .unset, .unset, .unset, .unset] [(.int z12), (.ref b10)]))
  have hB0 := (⟨by decide, by decide⟩ : 0 ≤ (0 : Int32).toInt ∧ (0 : Int32).toInt ≤ ((0 : Nat) : Int))
  obtain ⟨cq13, kq13, q13a, q13b, q13c⟩ := isOf hZ e12 (A10.keep K11)
  obtain ⟨_, _, ⟨T13, L13, k13, n13⟩, -, X13, ⟨Lc13, hQ13, l13, y13, z13⟩, st13⟩ := X12.virtualBack hx (y := (⟨"com/example/mixed_margins/mixedmargins/explore/Cooling", "countMove", "(Z)Z"⟩ : MethodName)) (z := (⟨"com/example/mixed_margins/mixedmargins/explore/Cooling", "countMove", "(Z)Z"⟩ : MethodName)) hown (mvT hZ (hw _ (List.mem_of_getElem? (i := 15) rfl))) (mvT hZ (hw _ (List.mem_of_getElem? (i := 16) rfl))) (notFace_of_selects (args := #[]) (mvT hZ (hw _ (List.mem_of_getElem? (i := 18) rfl)))) (mvT hZ (hw _ (List.mem_of_getElem? (i := 18) rfl))) (mvT hZ (hw _ (List.mem_of_getElem? (i := 17) rfl))) (by decide) (backOf (W := 0) (rm4 l Z a0 hw [] b10 z12 (0 : Int32) T11.heap n0 (Nat.le_trans (Nat.le_trans Z0 E10.1) K11.1) (A10.keep K11) F11 g_b10 (own_far hB0 (by decide))) hZ (hw _ (List.mem_of_getElem? (i := 19) rfl)) (hw _ (List.mem_of_getElem? (i := 2) rfl)) (by decide) (by decide)) q13a q13c (g := (mkF m 16 #[.val (.int p0), .val (.int p1), .val (.ref b10), .unset, .unset, .unset, .unset, .unset, .unset, .unset, .unset, .unset] [(.int z12), (.ref b10)])) rfl (by rw [hml]; rfl) (Steps.refl _) (argsL := [(.int z12)]) (rest := []) (lenOf pd__Z_Z_261 rfl) rfl (by show 2 * 0 + _ ≤ _; exact Nat.le_of_eq rfl) (hb hby at_16) (fun _ _ => ⟨rfl, e12, (by decide : 1 + 0 ≤ _), (by decide : 2 + 0 ≤ _)⟩)
  dsimp only [Pt.U, Pt.locs, Pt.cells, Pt.slots] at X13 l13 y13 z13 st13 hQ13
  subst l13 y13 z13
  obtain ⟨rfl, N13q, K13, w13, F13, hw13⟩ := hQ13
  have N13 := Fr.app N12 N13q
  refine own_tr st13 ?_
  show own_Comes p e below s _ _ _ (T13.setTop (mkF m 19 #[.val (.int p0), .val (.int p1), .val (.ref b10), .unset, .unset, .unset, .unset, .unset, .unset, .unset, .unset, .unset] [(.int (0 : Int32))]))
  refine own_by (fun _ k => XS.istoreN X13.here hx rfl (hb hby at_19) rfl (l' := #[.val (.int p0), .val (.int p1), .val (.ref b10), .val (.int (0 : Int32)), .unset, .unset, .unset, .unset, .unset, .unset, .unset, .unset]) rfl k) ?_
  show own_Comes p e below s _ _ _ (T13.setTop (mkF m 20 #[.val (.int p0), .val (.int p1), .val (.ref b10), .val (.int (0 : Int32)), .unset, .unset, .unset, .unset, .unset, .unset, .unset, .unset] []))
  refine own_by (fun _ k => XS.aloadN X13.here hx rfl (hb hby at_20) rfl rfl k) ?_
  show own_Comes p e below s _ _ _ (T13.setTop (mkF m 21 #[.val (.int p0), .val (.int p1), .val (.ref b10), .val (.int (0 : Int32)), .unset, .unset, .unset, .unset, .unset, .unset, .unset, .unset] [(.ref b10)]))
  refine own_by (fun _ k => XS.iloadN X13.here hx rfl (hb hby at_21) rfl k) ?_
  show own_Comes p e below s _ _ _ (T13.setTop (mkF m 22 #[.val (.int p0), .val (.int p1), .val (.ref b10), .val (.int (0 : Int32)), .unset, .unset, .unset, .unset, .unset, .unset, .unset, .unset] [(.int p0), (.ref b10)]))
  refine own_by (fun _ k => XS.iconst X13.here hx rfl (hb hby at_22) k) ?_
  show own_Comes p e below s _ _ _ (T13.setTop (mkF m 23 #[.val (.int p0), .val (.int p1), .val (.ref b10), .val (.int (0 : Int32)), .unset, .unset, .unset, .unset, .unset, .unset, .unset, .unset] [(.int (1 : Int32)), (.int p0), (.ref b10)]))
  obtain ⟨_, _, ⟨T14, L14, k14, n14⟩, -, X14, ⟨Lc14, hQ14, l14, y14, z14⟩, st14⟩ := Jvm.LawKit.callS X13 hx (y := (⟨"com/example/mixed_margins/mixedmargins/explore/CoolingCountMovePinLaw", "bit", "(II)Z"⟩ : MethodName)) hown (mvT hZ (hw _ (List.mem_of_getElem? (i := 11) rfl))) (mvT hZ (hw _ (List.mem_of_getElem? (i := 12) rfl))) (mvT hZ (hw _ (List.mem_of_getElem? (i := 13) rfl))) (mvT hZ (hw _ (List.mem_of_getElem? (i := 14) rfl))) (by decide) (backOf (W := 1) (rm3 l Z a0 hw [] p0 (1 : Int32) T13.heap n0 (Nat.le_trans (Nat.le_trans (Nat.le_trans Z0 E10.1) K11.1) K13.1)) hZ (hw _ (List.mem_of_getElem? (i := 14) rfl)) (hw _ (List.mem_of_getElem? (i := 13) rfl)) (by decide) (by decide)) (g := (mkF m 23 #[.val (.int p0), .val (.int p1), .val (.ref b10), .val (.int (0 : Int32)), .unset, .unset, .unset, .unset, .unset, .unset, .unset, .unset] [(.int (1 : Int32)), (.int p0), (.ref b10)])) rfl (by rw [hml]; rfl) (argsL := [(.int p0), (.int (1 : Int32))]) (rest := [(.ref b10)]) (lenOf pd__II_Z_317 rfl) rfl (by show 2 * 0 + _ ≤ _; exact Nat.le_of_eq rfl) (hb hby at_23) (fun _ _ => ⟨rfl, rfl, (by decide : 1 + 0 ≤ _), (by decide : 2 + 0 ≤ _)⟩)
  dsimp only [Pt.U, Pt.locs, Pt.cells, Pt.slots] at X14 l14 y14 z14 st14 hQ14
  subst l14 y14 z14
  obtain ⟨z14, rfl, N14q, e14q⟩ := hQ14
  have N14 := Fr.app N13 N14q
  refine own_by st14 ?_
  have e14 : T14.heap = T13.heap := e14q
  show own_Comes p e below s _ _ _ (T14.setTop (mkF m 26 #[.val (.int p0), .val (.int p1), .val (.ref b10), .val (.int (0 : Int32)), .unset, .unset, .unset, .unset, .unset, .unset, .unset, .unset] [(.int z14), (.ref b10)]))
  have hB1 := own_step hB0 (by decide) hw13
  obtain ⟨cq15, kq15, q15a, q15b, q15c⟩ := isOf hZ e14 ((A10.keep K11).keep K13)
  obtain ⟨_, _, ⟨T15, L15, k15, n15⟩, -, X15, ⟨Lc15, hQ15, l15, y15, z15⟩, st15⟩ := X14.virtualBack hx (y := (⟨"com/example/mixed_margins/mixedmargins/explore/Cooling", "countMove", "(Z)Z"⟩ : MethodName)) (z := (⟨"com/example/mixed_margins/mixedmargins/explore/Cooling", "countMove", "(Z)Z"⟩ : MethodName)) hown (mvT hZ (hw _ (List.mem_of_getElem? (i := 15) rfl))) (mvT hZ (hw _ (List.mem_of_getElem? (i := 16) rfl))) (notFace_of_selects (args := #[]) (mvT hZ (hw _ (List.mem_of_getElem? (i := 18) rfl)))) (mvT hZ (hw _ (List.mem_of_getElem? (i := 18) rfl))) (mvT hZ (hw _ (List.mem_of_getElem? (i := 17) rfl))) (by decide) (backOf (W := 0) (rm4 l Z a0 hw [] b10 z14 w13 T13.heap n0 (Nat.le_trans (Nat.le_trans (Nat.le_trans Z0 E10.1) K11.1) K13.1) ((A10.keep K11).keep K13) F13 g_b10 (own_far hB1 (by decide))) hZ (hw _ (List.mem_of_getElem? (i := 19) rfl)) (hw _ (List.mem_of_getElem? (i := 2) rfl)) (by decide) (by decide)) q15a q15c (g := (mkF m 26 #[.val (.int p0), .val (.int p1), .val (.ref b10), .val (.int (0 : Int32)), .unset, .unset, .unset, .unset, .unset, .unset, .unset, .unset] [(.int z14), (.ref b10)])) rfl (by rw [hml]; rfl) (Steps.refl _) (argsL := [(.int z14)]) (rest := []) (lenOf pd__Z_Z_261 rfl) rfl (by show 2 * 0 + _ ≤ _; exact Nat.le_of_eq rfl) (hb hby at_26) (fun _ _ => ⟨rfl, e14, (by decide : 1 + 0 ≤ _), (by decide : 2 + 0 ≤ _)⟩)
  dsimp only [Pt.U, Pt.locs, Pt.cells, Pt.slots] at X15 l15 y15 z15 st15 hQ15
  subst l15 y15 z15
  obtain ⟨rfl, N15q, K15, w15, F15, hw15⟩ := hQ15
  have N15 := Fr.app N14 N15q
  refine own_tr st15 ?_
  show own_Comes p e below s _ _ _ (T15.setTop (mkF m 29 #[.val (.int p0), .val (.int p1), .val (.ref b10), .val (.int (0 : Int32)), .unset, .unset, .unset, .unset, .unset, .unset, .unset, .unset] [(.int (0 : Int32))]))
  refine own_by (fun _ k => XS.istore X15.here hx rfl (hb hby at_29) rfl (l' := #[.val (.int p0), .val (.int p1), .val (.ref b10), .val (.int (0 : Int32)), .val (.int (0 : Int32)), .unset, .unset, .unset, .unset, .unset, .unset, .unset]) rfl k) ?_
  show own_Comes p e below s _ _ _ (T15.setTop (mkF m 31 #[.val (.int p0), .val (.int p1), .val (.ref b10), .val (.int (0 : Int32)), .val (.int (0 : Int32)), .unset, .unset, .unset, .unset, .unset, .unset, .unset] []))
  refine own_by (fun _ k => XS.aloadN X15.here hx rfl (hb hby at_31) rfl rfl k) ?_
  show own_Comes p e below s _ _ _ (T15.setTop (mkF m 32 #[.val (.int p0), .val (.int p1), .val (.ref b10), .val (.int (0 : Int32)), .val (.int (0 : Int32)), .unset, .unset, .unset, .unset, .unset, .unset, .unset] [(.ref b10)]))
  refine own_by (fun _ k => XS.iloadN X15.here hx rfl (hb hby at_32) rfl k) ?_
  show own_Comes p e below s _ _ _ (T15.setTop (mkF m 33 #[.val (.int p0), .val (.int p1), .val (.ref b10), .val (.int (0 : Int32)), .val (.int (0 : Int32)), .unset, .unset, .unset, .unset, .unset, .unset, .unset] [(.int p0), (.ref b10)]))
  refine own_by (fun _ k => XS.iconst X15.here hx rfl (hb hby at_33) k) ?_
  show own_Comes p e below s _ _ _ (T15.setTop (mkF m 34 #[.val (.int p0), .val (.int p1), .val (.ref b10), .val (.int (0 : Int32)), .val (.int (0 : Int32)), .unset, .unset, .unset, .unset, .unset, .unset, .unset] [(.int (2 : Int32)), (.int p0), (.ref b10)]))
  obtain ⟨_, _, ⟨T16, L16, k16, n16⟩, -, X16, ⟨Lc16, hQ16, l16, y16, z16⟩, st16⟩ := Jvm.LawKit.callS X15 hx (y := (⟨"com/example/mixed_margins/mixedmargins/explore/CoolingCountMovePinLaw", "bit", "(II)Z"⟩ : MethodName)) hown (mvT hZ (hw _ (List.mem_of_getElem? (i := 11) rfl))) (mvT hZ (hw _ (List.mem_of_getElem? (i := 12) rfl))) (mvT hZ (hw _ (List.mem_of_getElem? (i := 13) rfl))) (mvT hZ (hw _ (List.mem_of_getElem? (i := 14) rfl))) (by decide) (backOf (W := 1) (rm3 l Z a0 hw [] p0 (2 : Int32) T15.heap n0 (Nat.le_trans (Nat.le_trans (Nat.le_trans (Nat.le_trans Z0 E10.1) K11.1) K13.1) K15.1)) hZ (hw _ (List.mem_of_getElem? (i := 14) rfl)) (hw _ (List.mem_of_getElem? (i := 13) rfl)) (by decide) (by decide)) (g := (mkF m 34 #[.val (.int p0), .val (.int p1), .val (.ref b10), .val (.int (0 : Int32)), .val (.int (0 : Int32)), .unset, .unset, .unset, .unset, .unset, .unset, .unset] [(.int (2 : Int32)), (.int p0), (.ref b10)])) rfl (by rw [hml]; rfl) (argsL := [(.int p0), (.int (2 : Int32))]) (rest := [(.ref b10)]) (lenOf pd__II_Z_317 rfl) rfl (by show 2 * 0 + _ ≤ _; exact Nat.le_of_eq rfl) (hb hby at_34) (fun _ _ => ⟨rfl, rfl, (by decide : 1 + 0 ≤ _), (by decide : 2 + 0 ≤ _)⟩)
  dsimp only [Pt.U, Pt.locs, Pt.cells, Pt.slots] at X16 l16 y16 z16 st16 hQ16
  subst l16 y16 z16
  obtain ⟨z16, rfl, N16q, e16q⟩ := hQ16
  have N16 := Fr.app N15 N16q
  refine own_by st16 ?_
  have e16 : T16.heap = T15.heap := e16q
  show own_Comes p e below s _ _ _ (T16.setTop (mkF m 37 #[.val (.int p0), .val (.int p1), .val (.ref b10), .val (.int (0 : Int32)), .val (.int (0 : Int32)), .unset, .unset, .unset, .unset, .unset, .unset, .unset] [(.int z16), (.ref b10)]))
  have hB2 := own_step hB1 (by decide) hw15
  obtain ⟨cq17, kq17, q17a, q17b, q17c⟩ := isOf hZ e16 (((A10.keep K11).keep K13).keep K15)
  obtain ⟨_, _, ⟨T17, L17, k17, n17⟩, -, X17, ⟨Lc17, hQ17, l17, y17, z17⟩, st17⟩ := X16.virtualBack hx (y := (⟨"com/example/mixed_margins/mixedmargins/explore/Cooling", "countMove", "(Z)Z"⟩ : MethodName)) (z := (⟨"com/example/mixed_margins/mixedmargins/explore/Cooling", "countMove", "(Z)Z"⟩ : MethodName)) hown (mvT hZ (hw _ (List.mem_of_getElem? (i := 15) rfl))) (mvT hZ (hw _ (List.mem_of_getElem? (i := 16) rfl))) (notFace_of_selects (args := #[]) (mvT hZ (hw _ (List.mem_of_getElem? (i := 18) rfl)))) (mvT hZ (hw _ (List.mem_of_getElem? (i := 18) rfl))) (mvT hZ (hw _ (List.mem_of_getElem? (i := 17) rfl))) (by decide) (backOf (W := 0) (rm4 l Z a0 hw [] b10 z16 w15 T15.heap n0 (Nat.le_trans (Nat.le_trans (Nat.le_trans (Nat.le_trans Z0 E10.1) K11.1) K13.1) K15.1) (((A10.keep K11).keep K13).keep K15) F15 g_b10 (own_far hB2 (by decide))) hZ (hw _ (List.mem_of_getElem? (i := 19) rfl)) (hw _ (List.mem_of_getElem? (i := 2) rfl)) (by decide) (by decide)) q17a q17c (g := (mkF m 37 #[.val (.int p0), .val (.int p1), .val (.ref b10), .val (.int (0 : Int32)), .val (.int (0 : Int32)), .unset, .unset, .unset, .unset, .unset, .unset, .unset] [(.int z16), (.ref b10)])) rfl (by rw [hml]; rfl) (Steps.refl _) (argsL := [(.int z16)]) (rest := []) (lenOf pd__Z_Z_261 rfl) rfl (by show 2 * 0 + _ ≤ _; exact Nat.le_of_eq rfl) (hb hby at_37) (fun _ _ => ⟨rfl, e16, (by decide : 1 + 0 ≤ _), (by decide : 2 + 0 ≤ _)⟩)
  dsimp only [Pt.U, Pt.locs, Pt.cells, Pt.slots] at X17 l17 y17 z17 st17 hQ17
  subst l17 y17 z17
  obtain ⟨rfl, N17q, K17, w17, F17, hw17⟩ := hQ17
  have N17 := Fr.app N16 N17q
  refine own_tr st17 ?_
  show own_Comes p e below s _ _ _ (T17.setTop (mkF m 40 #[.val (.int p0), .val (.int p1), .val (.ref b10), .val (.int (0 : Int32)), .val (.int (0 : Int32)), .unset, .unset, .unset, .unset, .unset, .unset, .unset] [(.int (0 : Int32))]))
  refine own_by (fun _ k => XS.istore X17.here hx rfl (hb hby at_40) rfl (l' := #[.val (.int p0), .val (.int p1), .val (.ref b10), .val (.int (0 : Int32)), .val (.int (0 : Int32)), .val (.int (0 : Int32)), .unset, .unset, .unset, .unset, .unset, .unset]) rfl k) ?_
  show own_Comes p e below s _ _ _ (T17.setTop (mkF m 42 #[.val (.int p0), .val (.int p1), .val (.ref b10), .val (.int (0 : Int32)), .val (.int (0 : Int32)), .val (.int (0 : Int32)), .unset, .unset, .unset, .unset, .unset, .unset] []))
  refine own_by (fun _ k => XS.aloadN X17.here hx rfl (hb hby at_42) rfl rfl k) ?_
  show own_Comes p e below s _ _ _ (T17.setTop (mkF m 43 #[.val (.int p0), .val (.int p1), .val (.ref b10), .val (.int (0 : Int32)), .val (.int (0 : Int32)), .val (.int (0 : Int32)), .unset, .unset, .unset, .unset, .unset, .unset] [(.ref b10)]))
  refine own_by (fun _ k => XS.iloadN X17.here hx rfl (hb hby at_43) rfl k) ?_
  show own_Comes p e below s _ _ _ (T17.setTop (mkF m 44 #[.val (.int p0), .val (.int p1), .val (.ref b10), .val (.int (0 : Int32)), .val (.int (0 : Int32)), .val (.int (0 : Int32)), .unset, .unset, .unset, .unset, .unset, .unset] [(.int p0), (.ref b10)]))
  refine own_by (fun _ k => XS.iconst X17.here hx rfl (hb hby at_44) k) ?_
  show own_Comes p e below s _ _ _ (T17.setTop (mkF m 45 #[.val (.int p0), .val (.int p1), .val (.ref b10), .val (.int (0 : Int32)), .val (.int (0 : Int32)), .val (.int (0 : Int32)), .unset, .unset, .unset, .unset, .unset, .unset] [(.int (3 : Int32)), (.int p0), (.ref b10)]))
  obtain ⟨_, _, ⟨T18, L18, k18, n18⟩, -, X18, ⟨Lc18, hQ18, l18, y18, z18⟩, st18⟩ := Jvm.LawKit.callS X17 hx (y := (⟨"com/example/mixed_margins/mixedmargins/explore/CoolingCountMovePinLaw", "bit", "(II)Z"⟩ : MethodName)) hown (mvT hZ (hw _ (List.mem_of_getElem? (i := 11) rfl))) (mvT hZ (hw _ (List.mem_of_getElem? (i := 12) rfl))) (mvT hZ (hw _ (List.mem_of_getElem? (i := 13) rfl))) (mvT hZ (hw _ (List.mem_of_getElem? (i := 14) rfl))) (by decide) (backOf (W := 1) (rm3 l Z a0 hw [] p0 (3 : Int32) T17.heap n0 (Nat.le_trans (Nat.le_trans (Nat.le_trans (Nat.le_trans (Nat.le_trans Z0 E10.1) K11.1) K13.1) K15.1) K17.1)) hZ (hw _ (List.mem_of_getElem? (i := 14) rfl)) (hw _ (List.mem_of_getElem? (i := 13) rfl)) (by decide) (by decide)) (g := (mkF m 45 #[.val (.int p0), .val (.int p1), .val (.ref b10), .val (.int (0 : Int32)), .val (.int (0 : Int32)), .val (.int (0 : Int32)), .unset, .unset, .unset, .unset, .unset, .unset] [(.int (3 : Int32)), (.int p0), (.ref b10)])) rfl (by rw [hml]; rfl) (argsL := [(.int p0), (.int (3 : Int32))]) (rest := [(.ref b10)]) (lenOf pd__II_Z_317 rfl) rfl (by show 2 * 0 + _ ≤ _; exact Nat.le_of_eq rfl) (hb hby at_45) (fun _ _ => ⟨rfl, rfl, (by decide : 1 + 0 ≤ _), (by decide : 2 + 0 ≤ _)⟩)
  dsimp only [Pt.U, Pt.locs, Pt.cells, Pt.slots] at X18 l18 y18 z18 st18 hQ18
  subst l18 y18 z18
  obtain ⟨z18, rfl, N18q, e18q⟩ := hQ18
  have N18 := Fr.app N17 N18q
  refine own_by st18 ?_
  have e18 : T18.heap = T17.heap := e18q
  show own_Comes p e below s _ _ _ (T18.setTop (mkF m 48 #[.val (.int p0), .val (.int p1), .val (.ref b10), .val (.int (0 : Int32)), .val (.int (0 : Int32)), .val (.int (0 : Int32)), .unset, .unset, .unset, .unset, .unset, .unset] [(.int z18), (.ref b10)]))
  have hB3 := own_step hB2 (by decide) hw17
  obtain ⟨cq19, kq19, q19a, q19b, q19c⟩ := isOf hZ e18 ((((A10.keep K11).keep K13).keep K15).keep K17)
  obtain ⟨_, _, ⟨T19, L19, k19, n19⟩, -, X19, ⟨Lc19, hQ19, l19, y19, z19⟩, st19⟩ := X18.virtualBack hx (y := (⟨"com/example/mixed_margins/mixedmargins/explore/Cooling", "countMove", "(Z)Z"⟩ : MethodName)) (z := (⟨"com/example/mixed_margins/mixedmargins/explore/Cooling", "countMove", "(Z)Z"⟩ : MethodName)) hown (mvT hZ (hw _ (List.mem_of_getElem? (i := 15) rfl))) (mvT hZ (hw _ (List.mem_of_getElem? (i := 16) rfl))) (notFace_of_selects (args := #[]) (mvT hZ (hw _ (List.mem_of_getElem? (i := 18) rfl)))) (mvT hZ (hw _ (List.mem_of_getElem? (i := 18) rfl))) (mvT hZ (hw _ (List.mem_of_getElem? (i := 17) rfl))) (by decide) (backOf (W := 0) (rm4 l Z a0 hw [] b10 z18 w17 T17.heap n0 (Nat.le_trans (Nat.le_trans (Nat.le_trans (Nat.le_trans (Nat.le_trans Z0 E10.1) K11.1) K13.1) K15.1) K17.1) ((((A10.keep K11).keep K13).keep K15).keep K17) F17 g_b10 (own_far hB3 (by decide))) hZ (hw _ (List.mem_of_getElem? (i := 19) rfl)) (hw _ (List.mem_of_getElem? (i := 2) rfl)) (by decide) (by decide)) q19a q19c (g := (mkF m 48 #[.val (.int p0), .val (.int p1), .val (.ref b10), .val (.int (0 : Int32)), .val (.int (0 : Int32)), .val (.int (0 : Int32)), .unset, .unset, .unset, .unset, .unset, .unset] [(.int z18), (.ref b10)])) rfl (by rw [hml]; rfl) (Steps.refl _) (argsL := [(.int z18)]) (rest := []) (lenOf pd__Z_Z_261 rfl) rfl (by show 2 * 0 + _ ≤ _; exact Nat.le_of_eq rfl) (hb hby at_48) (fun _ _ => ⟨rfl, e18, (by decide : 1 + 0 ≤ _), (by decide : 2 + 0 ≤ _)⟩)
  dsimp only [Pt.U, Pt.locs, Pt.cells, Pt.slots] at X19 l19 y19 z19 st19 hQ19
  subst l19 y19 z19
  obtain ⟨rfl, N19q, K19, w19, F19, hw19⟩ := hQ19
  have N19 := Fr.app N18 N19q
  refine own_tr st19 ?_
  show own_Comes p e below s _ _ _ (T19.setTop (mkF m 51 #[.val (.int p0), .val (.int p1), .val (.ref b10), .val (.int (0 : Int32)), .val (.int (0 : Int32)), .val (.int (0 : Int32)), .unset, .unset, .unset, .unset, .unset, .unset] [(.int (0 : Int32))]))
  refine own_by (fun _ k => XS.istore X19.here hx rfl (hb hby at_51) rfl (l' := #[.val (.int p0), .val (.int p1), .val (.ref b10), .val (.int (0 : Int32)), .val (.int (0 : Int32)), .val (.int (0 : Int32)), .val (.int (0 : Int32)), .unset, .unset, .unset, .unset, .unset]) rfl k) ?_
  show own_Comes p e below s _ _ _ (T19.setTop (mkF m 53 #[.val (.int p0), .val (.int p1), .val (.ref b10), .val (.int (0 : Int32)), .val (.int (0 : Int32)), .val (.int (0 : Int32)), .val (.int (0 : Int32)), .unset, .unset, .unset, .unset, .unset] []))
  refine own_by (fun _ k => XS.aloadN X19.here hx rfl (hb hby at_53) rfl rfl k) ?_
  show own_Comes p e below s _ _ _ (T19.setTop (mkF m 54 #[.val (.int p0), .val (.int p1), .val (.ref b10), .val (.int (0 : Int32)), .val (.int (0 : Int32)), .val (.int (0 : Int32)), .val (.int (0 : Int32)), .unset, .unset, .unset, .unset, .unset] [(.ref b10)]))
  refine own_by (fun _ k => XS.iloadN X19.here hx rfl (hb hby at_54) rfl k) ?_
  show own_Comes p e below s _ _ _ (T19.setTop (mkF m 55 #[.val (.int p0), .val (.int p1), .val (.ref b10), .val (.int (0 : Int32)), .val (.int (0 : Int32)), .val (.int (0 : Int32)), .val (.int (0 : Int32)), .unset, .unset, .unset, .unset, .unset] [(.int p0), (.ref b10)]))
  refine own_by (fun _ k => XS.iconst X19.here hx rfl (hb hby at_55) k) ?_
  show own_Comes p e below s _ _ _ (T19.setTop (mkF m 56 #[.val (.int p0), .val (.int p1), .val (.ref b10), .val (.int (0 : Int32)), .val (.int (0 : Int32)), .val (.int (0 : Int32)), .val (.int (0 : Int32)), .unset, .unset, .unset, .unset, .unset] [(.int (4 : Int32)), (.int p0), (.ref b10)]))
  obtain ⟨_, _, ⟨T20, L20, k20, n20⟩, -, X20, ⟨Lc20, hQ20, l20, y20, z20⟩, st20⟩ := Jvm.LawKit.callS X19 hx (y := (⟨"com/example/mixed_margins/mixedmargins/explore/CoolingCountMovePinLaw", "bit", "(II)Z"⟩ : MethodName)) hown (mvT hZ (hw _ (List.mem_of_getElem? (i := 11) rfl))) (mvT hZ (hw _ (List.mem_of_getElem? (i := 12) rfl))) (mvT hZ (hw _ (List.mem_of_getElem? (i := 13) rfl))) (mvT hZ (hw _ (List.mem_of_getElem? (i := 14) rfl))) (by decide) (backOf (W := 1) (rm3 l Z a0 hw [] p0 (4 : Int32) T19.heap n0 (Nat.le_trans (Nat.le_trans (Nat.le_trans (Nat.le_trans (Nat.le_trans (Nat.le_trans Z0 E10.1) K11.1) K13.1) K15.1) K17.1) K19.1)) hZ (hw _ (List.mem_of_getElem? (i := 14) rfl)) (hw _ (List.mem_of_getElem? (i := 13) rfl)) (by decide) (by decide)) (g := (mkF m 56 #[.val (.int p0), .val (.int p1), .val (.ref b10), .val (.int (0 : Int32)), .val (.int (0 : Int32)), .val (.int (0 : Int32)), .val (.int (0 : Int32)), .unset, .unset, .unset, .unset, .unset] [(.int (4 : Int32)), (.int p0), (.ref b10)])) rfl (by rw [hml]; rfl) (argsL := [(.int p0), (.int (4 : Int32))]) (rest := [(.ref b10)]) (lenOf pd__II_Z_317 rfl) rfl (by show 2 * 0 + _ ≤ _; exact Nat.le_of_eq rfl) (hb hby at_56) (fun _ _ => ⟨rfl, rfl, (by decide : 1 + 0 ≤ _), (by decide : 2 + 0 ≤ _)⟩)
  dsimp only [Pt.U, Pt.locs, Pt.cells, Pt.slots] at X20 l20 y20 z20 st20 hQ20
  subst l20 y20 z20
  obtain ⟨z20, rfl, N20q, e20q⟩ := hQ20
  have N20 := Fr.app N19 N20q
  refine own_by st20 ?_
  have e20 : T20.heap = T19.heap := e20q
  show own_Comes p e below s _ _ _ (T20.setTop (mkF m 59 #[.val (.int p0), .val (.int p1), .val (.ref b10), .val (.int (0 : Int32)), .val (.int (0 : Int32)), .val (.int (0 : Int32)), .val (.int (0 : Int32)), .unset, .unset, .unset, .unset, .unset] [(.int z20), (.ref b10)]))
  have hB4 := own_step hB3 (by decide) hw19
  have c21 := (((((A10.keep K11).keep K13).keep K15).keep K17).keep K19)
  obtain ⟨cq22, kq22, q22a, q22b, q22c⟩ := isOf hZ e20 c21
  obtain ⟨_, _, ⟨T22, L22, k22, n22⟩, -, X22, ⟨Lc22, hQ22, l22, y22, z22⟩, st22⟩ := X20.virtualBack hx (y := (⟨"com/example/mixed_margins/mixedmargins/explore/Cooling", "countMove", "(Z)Z"⟩ : MethodName)) (z := (⟨"com/example/mixed_margins/mixedmargins/explore/Cooling", "countMove", "(Z)Z"⟩ : MethodName)) hown (mvT hZ (hw _ (List.mem_of_getElem? (i := 15) rfl))) (mvT hZ (hw _ (List.mem_of_getElem? (i := 16) rfl))) (notFace_of_selects (args := #[]) (mvT hZ (hw _ (List.mem_of_getElem? (i := 18) rfl)))) (mvT hZ (hw _ (List.mem_of_getElem? (i := 18) rfl))) (mvT hZ (hw _ (List.mem_of_getElem? (i := 17) rfl))) (by decide) (backOf (W := 0) (rm4 l Z a0 hw [] b10 z20 w19 T19.heap n0 (Nat.le_trans (Nat.le_trans (Nat.le_trans (Nat.le_trans (Nat.le_trans (Nat.le_trans Z0 E10.1) K11.1) K13.1) K15.1) K17.1) K19.1) c21 F19 g_b10 (own_far hB4 (by decide))) hZ (hw _ (List.mem_of_getElem? (i := 19) rfl)) (hw _ (List.mem_of_getElem? (i := 2) rfl)) (by decide) (by decide)) q22a q22c (g := (mkF m 59 #[.val (.int p0), .val (.int p1), .val (.ref b10), .val (.int (0 : Int32)), .val (.int (0 : Int32)), .val (.int (0 : Int32)), .val (.int (0 : Int32)), .unset, .unset, .unset, .unset, .unset] [(.int z20), (.ref b10)])) rfl (by rw [hml]; rfl) (Steps.refl _) (argsL := [(.int z20)]) (rest := []) (lenOf pd__Z_Z_261 rfl) rfl (by show 2 * 0 + _ ≤ _; exact Nat.le_of_eq rfl) (hb hby at_59) (fun _ _ => ⟨rfl, e20, (by decide : 1 + 0 ≤ _), (by decide : 2 + 0 ≤ _)⟩)
  dsimp only [Pt.U, Pt.locs, Pt.cells, Pt.slots] at X22 l22 y22 z22 st22 hQ22
  subst l22 y22 z22
  obtain ⟨rfl, N22q, K22, w22, F22, hw22⟩ := hQ22
  have N22 := Fr.app N20 N22q
  refine own_tr st22 ?_
  show own_Comes p e below s _ _ _ (T22.setTop (mkF m 62 #[.val (.int p0), .val (.int p1), .val (.ref b10), .val (.int (0 : Int32)), .val (.int (0 : Int32)), .val (.int (0 : Int32)), .val (.int (0 : Int32)), .unset, .unset, .unset, .unset, .unset] [(.int (0 : Int32))]))
  refine own_by (fun _ k => XS.istore X22.here hx rfl (hb hby at_62) rfl (l' := #[.val (.int p0), .val (.int p1), .val (.ref b10), .val (.int (0 : Int32)), .val (.int (0 : Int32)), .val (.int (0 : Int32)), .val (.int (0 : Int32)), .val (.int (0 : Int32)), .unset, .unset, .unset, .unset]) rfl k) ?_
  show own_Comes p e below s _ _ _ (T22.setTop (mkF m 64 #[.val (.int p0), .val (.int p1), .val (.ref b10), .val (.int (0 : Int32)), .val (.int (0 : Int32)), .val (.int (0 : Int32)), .val (.int (0 : Int32)), .val (.int (0 : Int32)), .unset, .unset, .unset, .unset] []))
  refine own_by (fun _ k => XS.aloadN X22.here hx rfl (hb hby at_64) rfl rfl k) ?_
  show own_Comes p e below s _ _ _ (T22.setTop (mkF m 65 #[.val (.int p0), .val (.int p1), .val (.ref b10), .val (.int (0 : Int32)), .val (.int (0 : Int32)), .val (.int (0 : Int32)), .val (.int (0 : Int32)), .val (.int (0 : Int32)), .unset, .unset, .unset, .unset] [(.ref b10)]))
  refine own_by (fun _ k => XS.iloadN X22.here hx rfl (hb hby at_65) rfl k) ?_
  show own_Comes p e below s _ _ _ (T22.setTop (mkF m 66 #[.val (.int p0), .val (.int p1), .val (.ref b10), .val (.int (0 : Int32)), .val (.int (0 : Int32)), .val (.int (0 : Int32)), .val (.int (0 : Int32)), .val (.int (0 : Int32)), .unset, .unset, .unset, .unset] [(.int p0), (.ref b10)]))
  refine own_by (fun _ k => XS.iconst X22.here hx rfl (hb hby at_66) k) ?_
  show own_Comes p e below s _ _ _ (T22.setTop (mkF m 67 #[.val (.int p0), .val (.int p1), .val (.ref b10), .val (.int (0 : Int32)), .val (.int (0 : Int32)), .val (.int (0 : Int32)), .val (.int (0 : Int32)), .val (.int (0 : Int32)), .unset, .unset, .unset, .unset] [(.int (5 : Int32)), (.int p0), (.ref b10)]))
  obtain ⟨_, _, ⟨T23, L23, k23, n23⟩, -, X23, ⟨Lc23, hQ23, l23, y23, z23⟩, st23⟩ := Jvm.LawKit.callS X22 hx (y := (⟨"com/example/mixed_margins/mixedmargins/explore/CoolingCountMovePinLaw", "bit", "(II)Z"⟩ : MethodName)) hown (mvT hZ (hw _ (List.mem_of_getElem? (i := 11) rfl))) (mvT hZ (hw _ (List.mem_of_getElem? (i := 12) rfl))) (mvT hZ (hw _ (List.mem_of_getElem? (i := 13) rfl))) (mvT hZ (hw _ (List.mem_of_getElem? (i := 14) rfl))) (by decide) (backOf (W := 1) (rm3 l Z a0 hw [] p0 (5 : Int32) T22.heap n0 (Nat.le_trans (Nat.le_trans (Nat.le_trans (Nat.le_trans (Nat.le_trans (Nat.le_trans (Nat.le_trans Z0 E10.1) K11.1) K13.1) K15.1) K17.1) K19.1) K22.1)) hZ (hw _ (List.mem_of_getElem? (i := 14) rfl)) (hw _ (List.mem_of_getElem? (i := 13) rfl)) (by decide) (by decide)) (g := (mkF m 67 #[.val (.int p0), .val (.int p1), .val (.ref b10), .val (.int (0 : Int32)), .val (.int (0 : Int32)), .val (.int (0 : Int32)), .val (.int (0 : Int32)), .val (.int (0 : Int32)), .unset, .unset, .unset, .unset] [(.int (5 : Int32)), (.int p0), (.ref b10)])) rfl (by rw [hml]; rfl) (argsL := [(.int p0), (.int (5 : Int32))]) (rest := [(.ref b10)]) (lenOf pd__II_Z_317 rfl) rfl (by show 2 * 0 + _ ≤ _; exact Nat.le_of_eq rfl) (hb hby at_67) (fun _ _ => ⟨rfl, rfl, (by decide : 1 + 0 ≤ _), (by decide : 2 + 0 ≤ _)⟩)
  dsimp only [Pt.U, Pt.locs, Pt.cells, Pt.slots] at X23 l23 y23 z23 st23 hQ23
  subst l23 y23 z23
  obtain ⟨z23, rfl, N23q, e23q⟩ := hQ23
  have N23 := Fr.app N22 N23q
  refine own_by st23 ?_
  have e23 : T23.heap = T22.heap := e23q
  show own_Comes p e below s _ _ _ (T23.setTop (mkF m 70 #[.val (.int p0), .val (.int p1), .val (.ref b10), .val (.int (0 : Int32)), .val (.int (0 : Int32)), .val (.int (0 : Int32)), .val (.int (0 : Int32)), .val (.int (0 : Int32)), .unset, .unset, .unset, .unset] [(.int z23), (.ref b10)]))
  have hB5 := own_step hB4 (by decide) hw22
  obtain ⟨cq24, kq24, q24a, q24b, q24c⟩ := isOf hZ e23 (c21.keep K22)
  obtain ⟨_, _, ⟨T24, L24, k24, n24⟩, -, X24, ⟨Lc24, hQ24, l24, y24, z24⟩, st24⟩ := X23.virtualBack hx (y := (⟨"com/example/mixed_margins/mixedmargins/explore/Cooling", "countMove", "(Z)Z"⟩ : MethodName)) (z := (⟨"com/example/mixed_margins/mixedmargins/explore/Cooling", "countMove", "(Z)Z"⟩ : MethodName)) hown (mvT hZ (hw _ (List.mem_of_getElem? (i := 15) rfl))) (mvT hZ (hw _ (List.mem_of_getElem? (i := 16) rfl))) (notFace_of_selects (args := #[]) (mvT hZ (hw _ (List.mem_of_getElem? (i := 18) rfl)))) (mvT hZ (hw _ (List.mem_of_getElem? (i := 18) rfl))) (mvT hZ (hw _ (List.mem_of_getElem? (i := 17) rfl))) (by decide) (backOf (W := 0) (rm4 l Z a0 hw [] b10 z23 w22 T22.heap n0 (Nat.le_trans (Nat.le_trans (Nat.le_trans (Nat.le_trans (Nat.le_trans (Nat.le_trans (Nat.le_trans Z0 E10.1) K11.1) K13.1) K15.1) K17.1) K19.1) K22.1) (c21.keep K22) F22 g_b10 (own_far hB5 (by decide))) hZ (hw _ (List.mem_of_getElem? (i := 19) rfl)) (hw _ (List.mem_of_getElem? (i := 2) rfl)) (by decide) (by decide)) q24a q24c (g := (mkF m 70 #[.val (.int p0), .val (.int p1), .val (.ref b10), .val (.int (0 : Int32)), .val (.int (0 : Int32)), .val (.int (0 : Int32)), .val (.int (0 : Int32)), .val (.int (0 : Int32)), .unset, .unset, .unset, .unset] [(.int z23), (.ref b10)])) rfl (by rw [hml]; rfl) (Steps.refl _) (argsL := [(.int z23)]) (rest := []) (lenOf pd__Z_Z_261 rfl) rfl (by show 2 * 0 + _ ≤ _; exact Nat.le_of_eq rfl) (hb hby at_70) (fun _ _ => ⟨rfl, e23, (by decide : 1 + 0 ≤ _), (by decide : 2 + 0 ≤ _)⟩)
  dsimp only [Pt.U, Pt.locs, Pt.cells, Pt.slots] at X24 l24 y24 z24 st24 hQ24
  subst l24 y24 z24
  obtain ⟨rfl, N24q, K24, w24, F24, hw24⟩ := hQ24
  have N24 := Fr.app N23 N24q
  refine own_tr st24 ?_
  show own_Comes p e below s _ _ _ (T24.setTop (mkF m 73 #[.val (.int p0), .val (.int p1), .val (.ref b10), .val (.int (0 : Int32)), .val (.int (0 : Int32)), .val (.int (0 : Int32)), .val (.int (0 : Int32)), .val (.int (0 : Int32)), .unset, .unset, .unset, .unset] [(.int (0 : Int32))]))
  refine own_by (fun _ k => XS.istore X24.here hx rfl (hb hby at_73) rfl (l' := #[.val (.int p0), .val (.int p1), .val (.ref b10), .val (.int (0 : Int32)), .val (.int (0 : Int32)), .val (.int (0 : Int32)), .val (.int (0 : Int32)), .val (.int (0 : Int32)), .val (.int (0 : Int32)), .unset, .unset, .unset]) rfl k) ?_
  show own_Comes p e below s _ _ _ (T24.setTop (mkF m 75 #[.val (.int p0), .val (.int p1), .val (.ref b10), .val (.int (0 : Int32)), .val (.int (0 : Int32)), .val (.int (0 : Int32)), .val (.int (0 : Int32)), .val (.int (0 : Int32)), .val (.int (0 : Int32)), .unset, .unset, .unset] []))
  refine own_by (fun _ k => XS.aloadN X24.here hx rfl (hb hby at_75) rfl rfl k) ?_
  show own_Comes p e below s _ _ _ (T24.setTop (mkF m 76 #[.val (.int p0), .val (.int p1), .val (.ref b10), .val (.int (0 : Int32)), .val (.int (0 : Int32)), .val (.int (0 : Int32)), .val (.int (0 : Int32)), .val (.int (0 : Int32)), .val (.int (0 : Int32)), .unset, .unset, .unset] [(.ref b10)]))
  refine own_by (fun _ k => XS.iloadN X24.here hx rfl (hb hby at_76) rfl k) ?_
  show own_Comes p e below s _ _ _ (T24.setTop (mkF m 77 #[.val (.int p0), .val (.int p1), .val (.ref b10), .val (.int (0 : Int32)), .val (.int (0 : Int32)), .val (.int (0 : Int32)), .val (.int (0 : Int32)), .val (.int (0 : Int32)), .val (.int (0 : Int32)), .unset, .unset, .unset] [(.int p0), (.ref b10)]))
  refine own_by (fun _ k => XS.bipush X24.here hx rfl (hb hby at_77) k) ?_
  show own_Comes p e below s _ _ _ (T24.setTop (mkF m 79 #[.val (.int p0), .val (.int p1), .val (.ref b10), .val (.int (0 : Int32)), .val (.int (0 : Int32)), .val (.int (0 : Int32)), .val (.int (0 : Int32)), .val (.int (0 : Int32)), .val (.int (0 : Int32)), .unset, .unset, .unset] [(.int (6 : Int32)), (.int p0), (.ref b10)]))
  obtain ⟨_, _, ⟨T25, L25, k25, n25⟩, -, X25, ⟨Lc25, hQ25, l25, y25, z25⟩, st25⟩ := Jvm.LawKit.callS X24 hx (y := (⟨"com/example/mixed_margins/mixedmargins/explore/CoolingCountMovePinLaw", "bit", "(II)Z"⟩ : MethodName)) hown (mvT hZ (hw _ (List.mem_of_getElem? (i := 11) rfl))) (mvT hZ (hw _ (List.mem_of_getElem? (i := 12) rfl))) (mvT hZ (hw _ (List.mem_of_getElem? (i := 13) rfl))) (mvT hZ (hw _ (List.mem_of_getElem? (i := 14) rfl))) (by decide) (backOf (W := 1) (rm3 l Z a0 hw [] p0 (6 : Int32) T24.heap n0 (Nat.le_trans (Nat.le_trans (Nat.le_trans (Nat.le_trans (Nat.le_trans (Nat.le_trans (Nat.le_trans (Nat.le_trans Z0 E10.1) K11.1) K13.1) K15.1) K17.1) K19.1) K22.1) K24.1)) hZ (hw _ (List.mem_of_getElem? (i := 14) rfl)) (hw _ (List.mem_of_getElem? (i := 13) rfl)) (by decide) (by decide)) (g := (mkF m 79 #[.val (.int p0), .val (.int p1), .val (.ref b10), .val (.int (0 : Int32)), .val (.int (0 : Int32)), .val (.int (0 : Int32)), .val (.int (0 : Int32)), .val (.int (0 : Int32)), .val (.int (0 : Int32)), .unset, .unset, .unset] [(.int (6 : Int32)), (.int p0), (.ref b10)])) rfl (by rw [hml]; rfl) (argsL := [(.int p0), (.int (6 : Int32))]) (rest := [(.ref b10)]) (lenOf pd__II_Z_317 rfl) rfl (by show 2 * 0 + _ ≤ _; exact Nat.le_of_eq rfl) (hb hby at_79) (fun _ _ => ⟨rfl, rfl, (by decide : 1 + 0 ≤ _), (by decide : 2 + 0 ≤ _)⟩)
  dsimp only [Pt.U, Pt.locs, Pt.cells, Pt.slots] at X25 l25 y25 z25 st25 hQ25
  subst l25 y25 z25
  obtain ⟨z25, rfl, N25q, e25q⟩ := hQ25
  have N25 := Fr.app N24 N25q
  refine own_by st25 ?_
  have e25 : T25.heap = T24.heap := e25q
  show own_Comes p e below s _ _ _ (T25.setTop (mkF m 82 #[.val (.int p0), .val (.int p1), .val (.ref b10), .val (.int (0 : Int32)), .val (.int (0 : Int32)), .val (.int (0 : Int32)), .val (.int (0 : Int32)), .val (.int (0 : Int32)), .val (.int (0 : Int32)), .unset, .unset, .unset] [(.int z25), (.ref b10)]))
  have hB6 := own_step hB5 (by decide) hw24
  obtain ⟨cq26, kq26, q26a, q26b, q26c⟩ := isOf hZ e25 ((c21.keep K22).keep K24)
  obtain ⟨_, _, ⟨T26, L26, k26, n26⟩, -, X26, ⟨Lc26, hQ26, l26, y26, z26⟩, st26⟩ := X25.virtualBack hx (y := (⟨"com/example/mixed_margins/mixedmargins/explore/Cooling", "countMove", "(Z)Z"⟩ : MethodName)) (z := (⟨"com/example/mixed_margins/mixedmargins/explore/Cooling", "countMove", "(Z)Z"⟩ : MethodName)) hown (mvT hZ (hw _ (List.mem_of_getElem? (i := 15) rfl))) (mvT hZ (hw _ (List.mem_of_getElem? (i := 16) rfl))) (notFace_of_selects (args := #[]) (mvT hZ (hw _ (List.mem_of_getElem? (i := 18) rfl)))) (mvT hZ (hw _ (List.mem_of_getElem? (i := 18) rfl))) (mvT hZ (hw _ (List.mem_of_getElem? (i := 17) rfl))) (by decide) (backOf (W := 0) (rm4 l Z a0 hw [] b10 z25 w24 T24.heap n0 (Nat.le_trans (Nat.le_trans (Nat.le_trans (Nat.le_trans (Nat.le_trans (Nat.le_trans (Nat.le_trans (Nat.le_trans Z0 E10.1) K11.1) K13.1) K15.1) K17.1) K19.1) K22.1) K24.1) ((c21.keep K22).keep K24) F24 g_b10 (own_far hB6 (by decide))) hZ (hw _ (List.mem_of_getElem? (i := 19) rfl)) (hw _ (List.mem_of_getElem? (i := 2) rfl)) (by decide) (by decide)) q26a q26c (g := (mkF m 82 #[.val (.int p0), .val (.int p1), .val (.ref b10), .val (.int (0 : Int32)), .val (.int (0 : Int32)), .val (.int (0 : Int32)), .val (.int (0 : Int32)), .val (.int (0 : Int32)), .val (.int (0 : Int32)), .unset, .unset, .unset] [(.int z25), (.ref b10)])) rfl (by rw [hml]; rfl) (Steps.refl _) (argsL := [(.int z25)]) (rest := []) (lenOf pd__Z_Z_261 rfl) rfl (by show 2 * 0 + _ ≤ _; exact Nat.le_of_eq rfl) (hb hby at_82) (fun _ _ => ⟨rfl, e25, (by decide : 1 + 0 ≤ _), (by decide : 2 + 0 ≤ _)⟩)
  dsimp only [Pt.U, Pt.locs, Pt.cells, Pt.slots] at X26 l26 y26 z26 st26 hQ26
  subst l26 y26 z26
  obtain ⟨rfl, N26q, K26, w26, F26, hw26⟩ := hQ26
  have N26 := Fr.app N25 N26q
  refine own_tr st26 ?_
  show own_Comes p e below s _ _ _ (T26.setTop (mkF m 85 #[.val (.int p0), .val (.int p1), .val (.ref b10), .val (.int (0 : Int32)), .val (.int (0 : Int32)), .val (.int (0 : Int32)), .val (.int (0 : Int32)), .val (.int (0 : Int32)), .val (.int (0 : Int32)), .unset, .unset, .unset] [(.int (0 : Int32))]))
  refine own_by (fun _ k => XS.istore X26.here hx rfl (hb hby at_85) rfl (l' := #[.val (.int p0), .val (.int p1), .val (.ref b10), .val (.int (0 : Int32)), .val (.int (0 : Int32)), .val (.int (0 : Int32)), .val (.int (0 : Int32)), .val (.int (0 : Int32)), .val (.int (0 : Int32)), .val (.int (0 : Int32)), .unset, .unset]) rfl k) ?_
  show own_Comes p e below s _ _ _ (T26.setTop (mkF m 87 #[.val (.int p0), .val (.int p1), .val (.ref b10), .val (.int (0 : Int32)), .val (.int (0 : Int32)), .val (.int (0 : Int32)), .val (.int (0 : Int32)), .val (.int (0 : Int32)), .val (.int (0 : Int32)), .val (.int (0 : Int32)), .unset, .unset] []))
  refine own_by (fun _ k => XS.aloadN X26.here hx rfl (hb hby at_87) rfl rfl k) ?_
  show own_Comes p e below s _ _ _ (T26.setTop (mkF m 88 #[.val (.int p0), .val (.int p1), .val (.ref b10), .val (.int (0 : Int32)), .val (.int (0 : Int32)), .val (.int (0 : Int32)), .val (.int (0 : Int32)), .val (.int (0 : Int32)), .val (.int (0 : Int32)), .val (.int (0 : Int32)), .unset, .unset] [(.ref b10)]))
  refine own_by (fun _ k => XS.iloadN X26.here hx rfl (hb hby at_88) rfl k) ?_
  show own_Comes p e below s _ _ _ (T26.setTop (mkF m 89 #[.val (.int p0), .val (.int p1), .val (.ref b10), .val (.int (0 : Int32)), .val (.int (0 : Int32)), .val (.int (0 : Int32)), .val (.int (0 : Int32)), .val (.int (0 : Int32)), .val (.int (0 : Int32)), .val (.int (0 : Int32)), .unset, .unset] [(.int p0), (.ref b10)]))
  refine own_by (fun _ k => XS.bipush X26.here hx rfl (hb hby at_89) k) ?_
  show own_Comes p e below s _ _ _ (T26.setTop (mkF m 91 #[.val (.int p0), .val (.int p1), .val (.ref b10), .val (.int (0 : Int32)), .val (.int (0 : Int32)), .val (.int (0 : Int32)), .val (.int (0 : Int32)), .val (.int (0 : Int32)), .val (.int (0 : Int32)), .val (.int (0 : Int32)), .unset, .unset] [(.int (7 : Int32)), (.int p0), (.ref b10)]))
  obtain ⟨_, _, ⟨T27, L27, k27, n27⟩, -, X27, ⟨Lc27, hQ27, l27, y27, z27⟩, st27⟩ := Jvm.LawKit.callS X26 hx (y := (⟨"com/example/mixed_margins/mixedmargins/explore/CoolingCountMovePinLaw", "bit", "(II)Z"⟩ : MethodName)) hown (mvT hZ (hw _ (List.mem_of_getElem? (i := 11) rfl))) (mvT hZ (hw _ (List.mem_of_getElem? (i := 12) rfl))) (mvT hZ (hw _ (List.mem_of_getElem? (i := 13) rfl))) (mvT hZ (hw _ (List.mem_of_getElem? (i := 14) rfl))) (by decide) (backOf (W := 1) (rm3 l Z a0 hw [] p0 (7 : Int32) T26.heap n0 (Nat.le_trans (Nat.le_trans (Nat.le_trans (Nat.le_trans (Nat.le_trans (Nat.le_trans (Nat.le_trans (Nat.le_trans (Nat.le_trans Z0 E10.1) K11.1) K13.1) K15.1) K17.1) K19.1) K22.1) K24.1) K26.1)) hZ (hw _ (List.mem_of_getElem? (i := 14) rfl)) (hw _ (List.mem_of_getElem? (i := 13) rfl)) (by decide) (by decide)) (g := (mkF m 91 #[.val (.int p0), .val (.int p1), .val (.ref b10), .val (.int (0 : Int32)), .val (.int (0 : Int32)), .val (.int (0 : Int32)), .val (.int (0 : Int32)), .val (.int (0 : Int32)), .val (.int (0 : Int32)), .val (.int (0 : Int32)), .unset, .unset] [(.int (7 : Int32)), (.int p0), (.ref b10)])) rfl (by rw [hml]; rfl) (argsL := [(.int p0), (.int (7 : Int32))]) (rest := [(.ref b10)]) (lenOf pd__II_Z_317 rfl) rfl (by show 2 * 0 + _ ≤ _; exact Nat.le_of_eq rfl) (hb hby at_91) (fun _ _ => ⟨rfl, rfl, (by decide : 1 + 0 ≤ _), (by decide : 2 + 0 ≤ _)⟩)
  dsimp only [Pt.U, Pt.locs, Pt.cells, Pt.slots] at X27 l27 y27 z27 st27 hQ27
  subst l27 y27 z27
  obtain ⟨z27, rfl, N27q, e27q⟩ := hQ27
  have N27 := Fr.app N26 N27q
  refine own_by st27 ?_
  have e27 : T27.heap = T26.heap := e27q
  show own_Comes p e below s _ _ _ (T27.setTop (mkF m 94 #[.val (.int p0), .val (.int p1), .val (.ref b10), .val (.int (0 : Int32)), .val (.int (0 : Int32)), .val (.int (0 : Int32)), .val (.int (0 : Int32)), .val (.int (0 : Int32)), .val (.int (0 : Int32)), .val (.int (0 : Int32)), .unset, .unset] [(.int z27), (.ref b10)]))
  have hB7 := own_step hB6 (by decide) hw26
  obtain ⟨cq28, kq28, q28a, q28b, q28c⟩ := isOf hZ e27 (((c21.keep K22).keep K24).keep K26)
  obtain ⟨_, _, ⟨T28, L28, k28, n28⟩, -, X28, ⟨Lc28, hQ28, l28, y28, z28⟩, st28⟩ := X27.virtualBack hx (y := (⟨"com/example/mixed_margins/mixedmargins/explore/Cooling", "countMove", "(Z)Z"⟩ : MethodName)) (z := (⟨"com/example/mixed_margins/mixedmargins/explore/Cooling", "countMove", "(Z)Z"⟩ : MethodName)) hown (mvT hZ (hw _ (List.mem_of_getElem? (i := 15) rfl))) (mvT hZ (hw _ (List.mem_of_getElem? (i := 16) rfl))) (notFace_of_selects (args := #[]) (mvT hZ (hw _ (List.mem_of_getElem? (i := 18) rfl)))) (mvT hZ (hw _ (List.mem_of_getElem? (i := 18) rfl))) (mvT hZ (hw _ (List.mem_of_getElem? (i := 17) rfl))) (by decide) (backOf (W := 0) (rm4 l Z a0 hw [] b10 z27 w26 T26.heap n0 (Nat.le_trans (Nat.le_trans (Nat.le_trans (Nat.le_trans (Nat.le_trans (Nat.le_trans (Nat.le_trans (Nat.le_trans (Nat.le_trans Z0 E10.1) K11.1) K13.1) K15.1) K17.1) K19.1) K22.1) K24.1) K26.1) (((c21.keep K22).keep K24).keep K26) F26 g_b10 (own_far hB7 (by decide))) hZ (hw _ (List.mem_of_getElem? (i := 19) rfl)) (hw _ (List.mem_of_getElem? (i := 2) rfl)) (by decide) (by decide)) q28a q28c (g := (mkF m 94 #[.val (.int p0), .val (.int p1), .val (.ref b10), .val (.int (0 : Int32)), .val (.int (0 : Int32)), .val (.int (0 : Int32)), .val (.int (0 : Int32)), .val (.int (0 : Int32)), .val (.int (0 : Int32)), .val (.int (0 : Int32)), .unset, .unset] [(.int z27), (.ref b10)])) rfl (by rw [hml]; rfl) (Steps.refl _) (argsL := [(.int z27)]) (rest := []) (lenOf pd__Z_Z_261 rfl) rfl (by show 2 * 0 + _ ≤ _; exact Nat.le_of_eq rfl) (hb hby at_94) (fun _ _ => ⟨rfl, e27, (by decide : 1 + 0 ≤ _), (by decide : 2 + 0 ≤ _)⟩)
  dsimp only [Pt.U, Pt.locs, Pt.cells, Pt.slots] at X28 l28 y28 z28 st28 hQ28
  subst l28 y28 z28
  obtain ⟨rfl, N28q, K28, w28, F28, hw28⟩ := hQ28
  have N28 := Fr.app N27 N28q
  refine own_tr st28 ?_
  show own_Comes p e below s _ _ _ (T28.setTop (mkF m 97 #[.val (.int p0), .val (.int p1), .val (.ref b10), .val (.int (0 : Int32)), .val (.int (0 : Int32)), .val (.int (0 : Int32)), .val (.int (0 : Int32)), .val (.int (0 : Int32)), .val (.int (0 : Int32)), .val (.int (0 : Int32)), .unset, .unset] [(.int (0 : Int32))]))
  refine own_by (fun _ k => XS.istore X28.here hx rfl (hb hby at_97) rfl (l' := #[.val (.int p0), .val (.int p1), .val (.ref b10), .val (.int (0 : Int32)), .val (.int (0 : Int32)), .val (.int (0 : Int32)), .val (.int (0 : Int32)), .val (.int (0 : Int32)), .val (.int (0 : Int32)), .val (.int (0 : Int32)), .val (.int (0 : Int32)), .unset]) rfl k) ?_
  show own_Comes p e below s _ _ _ (T28.setTop (mkF m 99 #[.val (.int p0), .val (.int p1), .val (.ref b10), .val (.int (0 : Int32)), .val (.int (0 : Int32)), .val (.int (0 : Int32)), .val (.int (0 : Int32)), .val (.int (0 : Int32)), .val (.int (0 : Int32)), .val (.int (0 : Int32)), .val (.int (0 : Int32)), .unset] []))
  refine own_by (fun _ k => XS.aloadN X28.here hx rfl (hb hby at_99) rfl rfl k) ?_
  show own_Comes p e below s _ _ _ (T28.setTop (mkF m 100 #[.val (.int p0), .val (.int p1), .val (.ref b10), .val (.int (0 : Int32)), .val (.int (0 : Int32)), .val (.int (0 : Int32)), .val (.int (0 : Int32)), .val (.int (0 : Int32)), .val (.int (0 : Int32)), .val (.int (0 : Int32)), .val (.int (0 : Int32)), .unset] [(.ref b10)]))
  refine own_by (fun _ k => XS.iloadN X28.here hx rfl (hb hby at_100) rfl k) ?_
  show own_Comes p e below s _ _ _ (T28.setTop (mkF m 101 #[.val (.int p0), .val (.int p1), .val (.ref b10), .val (.int (0 : Int32)), .val (.int (0 : Int32)), .val (.int (0 : Int32)), .val (.int (0 : Int32)), .val (.int (0 : Int32)), .val (.int (0 : Int32)), .val (.int (0 : Int32)), .val (.int (0 : Int32)), .unset] [(.int p0), (.ref b10)]))
  refine own_by (fun _ k => XS.bipush X28.here hx rfl (hb hby at_101) k) ?_
  show own_Comes p e below s _ _ _ (T28.setTop (mkF m 103 #[.val (.int p0), .val (.int p1), .val (.ref b10), .val (.int (0 : Int32)), .val (.int (0 : Int32)), .val (.int (0 : Int32)), .val (.int (0 : Int32)), .val (.int (0 : Int32)), .val (.int (0 : Int32)), .val (.int (0 : Int32)), .val (.int (0 : Int32)), .unset] [(.int (8 : Int32)), (.int p0), (.ref b10)]))
  obtain ⟨_, _, ⟨T29, L29, k29, n29⟩, -, X29, ⟨Lc29, hQ29, l29, y29, z29⟩, st29⟩ := Jvm.LawKit.callS X28 hx (y := (⟨"com/example/mixed_margins/mixedmargins/explore/CoolingCountMovePinLaw", "bit", "(II)Z"⟩ : MethodName)) hown (mvT hZ (hw _ (List.mem_of_getElem? (i := 11) rfl))) (mvT hZ (hw _ (List.mem_of_getElem? (i := 12) rfl))) (mvT hZ (hw _ (List.mem_of_getElem? (i := 13) rfl))) (mvT hZ (hw _ (List.mem_of_getElem? (i := 14) rfl))) (by decide) (backOf (W := 1) (rm3 l Z a0 hw [] p0 (8 : Int32) T28.heap n0 (Nat.le_trans (Nat.le_trans (Nat.le_trans (Nat.le_trans (Nat.le_trans (Nat.le_trans (Nat.le_trans (Nat.le_trans (Nat.le_trans (Nat.le_trans Z0 E10.1) K11.1) K13.1) K15.1) K17.1) K19.1) K22.1) K24.1) K26.1) K28.1)) hZ (hw _ (List.mem_of_getElem? (i := 14) rfl)) (hw _ (List.mem_of_getElem? (i := 13) rfl)) (by decide) (by decide)) (g := (mkF m 103 #[.val (.int p0), .val (.int p1), .val (.ref b10), .val (.int (0 : Int32)), .val (.int (0 : Int32)), .val (.int (0 : Int32)), .val (.int (0 : Int32)), .val (.int (0 : Int32)), .val (.int (0 : Int32)), .val (.int (0 : Int32)), .val (.int (0 : Int32)), .unset] [(.int (8 : Int32)), (.int p0), (.ref b10)])) rfl (by rw [hml]; rfl) (argsL := [(.int p0), (.int (8 : Int32))]) (rest := [(.ref b10)]) (lenOf pd__II_Z_317 rfl) rfl (by show 2 * 0 + _ ≤ _; exact Nat.le_of_eq rfl) (hb hby at_103) (fun _ _ => ⟨rfl, rfl, (by decide : 1 + 0 ≤ _), (by decide : 2 + 0 ≤ _)⟩)
  dsimp only [Pt.U, Pt.locs, Pt.cells, Pt.slots] at X29 l29 y29 z29 st29 hQ29
  subst l29 y29 z29
  obtain ⟨z29, rfl, N29q, e29q⟩ := hQ29
  have N29 := Fr.app N28 N29q
  refine own_by st29 ?_
  have e29 : T29.heap = T28.heap := e29q
  show own_Comes p e below s _ _ _ (T29.setTop (mkF m 106 #[.val (.int p0), .val (.int p1), .val (.ref b10), .val (.int (0 : Int32)), .val (.int (0 : Int32)), .val (.int (0 : Int32)), .val (.int (0 : Int32)), .val (.int (0 : Int32)), .val (.int (0 : Int32)), .val (.int (0 : Int32)), .val (.int (0 : Int32)), .unset] [(.int z29), (.ref b10)]))
  have hB8 := own_step hB7 (by decide) hw28
  obtain ⟨cq30, kq30, q30a, q30b, q30c⟩ := isOf hZ e29 ((((c21.keep K22).keep K24).keep K26).keep K28)
  obtain ⟨_, _, ⟨T30, L30, k30, n30⟩, -, X30, ⟨Lc30, hQ30, l30, y30, z30⟩, st30⟩ := X29.virtualBack hx (y := (⟨"com/example/mixed_margins/mixedmargins/explore/Cooling", "countMove", "(Z)Z"⟩ : MethodName)) (z := (⟨"com/example/mixed_margins/mixedmargins/explore/Cooling", "countMove", "(Z)Z"⟩ : MethodName)) hown (mvT hZ (hw _ (List.mem_of_getElem? (i := 15) rfl))) (mvT hZ (hw _ (List.mem_of_getElem? (i := 16) rfl))) (notFace_of_selects (args := #[]) (mvT hZ (hw _ (List.mem_of_getElem? (i := 18) rfl)))) (mvT hZ (hw _ (List.mem_of_getElem? (i := 18) rfl))) (mvT hZ (hw _ (List.mem_of_getElem? (i := 17) rfl))) (by decide) (backOf (W := 0) (rm4 l Z a0 hw [] b10 z29 w28 T28.heap n0 (Nat.le_trans (Nat.le_trans (Nat.le_trans (Nat.le_trans (Nat.le_trans (Nat.le_trans (Nat.le_trans (Nat.le_trans (Nat.le_trans (Nat.le_trans Z0 E10.1) K11.1) K13.1) K15.1) K17.1) K19.1) K22.1) K24.1) K26.1) K28.1) ((((c21.keep K22).keep K24).keep K26).keep K28) F28 g_b10 (own_far hB8 (by decide))) hZ (hw _ (List.mem_of_getElem? (i := 19) rfl)) (hw _ (List.mem_of_getElem? (i := 2) rfl)) (by decide) (by decide)) q30a q30c (g := (mkF m 106 #[.val (.int p0), .val (.int p1), .val (.ref b10), .val (.int (0 : Int32)), .val (.int (0 : Int32)), .val (.int (0 : Int32)), .val (.int (0 : Int32)), .val (.int (0 : Int32)), .val (.int (0 : Int32)), .val (.int (0 : Int32)), .val (.int (0 : Int32)), .unset] [(.int z29), (.ref b10)])) rfl (by rw [hml]; rfl) (Steps.refl _) (argsL := [(.int z29)]) (rest := []) (lenOf pd__Z_Z_261 rfl) rfl (by show 2 * 0 + _ ≤ _; exact Nat.le_of_eq rfl) (hb hby at_106) (fun _ _ => ⟨rfl, e29, (by decide : 1 + 0 ≤ _), (by decide : 2 + 0 ≤ _)⟩)
  dsimp only [Pt.U, Pt.locs, Pt.cells, Pt.slots] at X30 l30 y30 z30 st30 hQ30
  subst l30 y30 z30
  obtain ⟨rfl, N30q, K30, w30, F30, hw30⟩ := hQ30
  have N30 := Fr.app N29 N30q
  refine own_tr st30 ?_
  show own_Comes p e below s _ _ _ (T30.setTop (mkF m 109 #[.val (.int p0), .val (.int p1), .val (.ref b10), .val (.int (0 : Int32)), .val (.int (0 : Int32)), .val (.int (0 : Int32)), .val (.int (0 : Int32)), .val (.int (0 : Int32)), .val (.int (0 : Int32)), .val (.int (0 : Int32)), .val (.int (0 : Int32)), .unset] [(.int (0 : Int32))]))
  refine own_by (fun _ k => XS.istore X30.here hx rfl (hb hby at_109) rfl (l' := #[.val (.int p0), .val (.int p1), .val (.ref b10), .val (.int (0 : Int32)), .val (.int (0 : Int32)), .val (.int (0 : Int32)), .val (.int (0 : Int32)), .val (.int (0 : Int32)), .val (.int (0 : Int32)), .val (.int (0 : Int32)), .val (.int (0 : Int32)), .val (.int (0 : Int32))]) rfl k) ?_
  show own_Comes p e below s _ _ _ (T30.setTop (mkF m 111 #[.val (.int p0), .val (.int p1), .val (.ref b10), .val (.int (0 : Int32)), .val (.int (0 : Int32)), .val (.int (0 : Int32)), .val (.int (0 : Int32)), .val (.int (0 : Int32)), .val (.int (0 : Int32)), .val (.int (0 : Int32)), .val (.int (0 : Int32)), .val (.int (0 : Int32))] []))
  refine own_by (fun _ k => XS.iloadN X30.here hx rfl (hb hby at_111) rfl k) ?_
  show own_Comes p e below s _ _ _ (T30.setTop (mkF m 112 #[.val (.int p0), .val (.int p1), .val (.ref b10), .val (.int (0 : Int32)), .val (.int (0 : Int32)), .val (.int (0 : Int32)), .val (.int (0 : Int32)), .val (.int (0 : Int32)), .val (.int (0 : Int32)), .val (.int (0 : Int32)), .val (.int (0 : Int32)), .val (.int (0 : Int32))] [(.int (0 : Int32))]))
  have hb31 : (0 : Int32) = (0 : Int32) := by decide
  refine own_by (fun _ k => XS.ifNo X30.here hx rfl (hb hby at_112) rfl ((if0 _ _).trans (teq hb31).2) k) ?_
  show own_Comes p e below s _ _ _ (T30.setTop (mkF m 115 #[.val (.int p0), .val (.int p1), .val (.ref b10), .val (.int (0 : Int32)), .val (.int (0 : Int32)), .val (.int (0 : Int32)), .val (.int (0 : Int32)), .val (.int (0 : Int32)), .val (.int (0 : Int32)), .val (.int (0 : Int32)), .val (.int (0 : Int32)), .val (.int (0 : Int32))] []))
  refine own_by (fun _ k => XS.iload X30.here hx rfl (hb hby at_115) rfl k) ?_
  show own_Comes p e below s _ _ _ (T30.setTop (mkF m 117 #[.val (.int p0), .val (.int p1), .val (.ref b10), .val (.int (0 : Int32)), .val (.int (0 : Int32)), .val (.int (0 : Int32)), .val (.int (0 : Int32)), .val (.int (0 : Int32)), .val (.int (0 : Int32)), .val (.int (0 : Int32)), .val (.int (0 : Int32)), .val (.int (0 : Int32))] [(.int (0 : Int32))]))
  have hb32 : (0 : Int32) = (0 : Int32) := by decide
  refine own_by (fun _ k => XS.ifNo X30.here hx rfl (hb hby at_117) rfl ((if0 _ _).trans (teq hb32).2) k) ?_
  show own_Comes p e below s _ _ _ (T30.setTop (mkF m 120 #[.val (.int p0), .val (.int p1), .val (.ref b10), .val (.int (0 : Int32)), .val (.int (0 : Int32)), .val (.int (0 : Int32)), .val (.int (0 : Int32)), .val (.int (0 : Int32)), .val (.int (0 : Int32)), .val (.int (0 : Int32)), .val (.int (0 : Int32)), .val (.int (0 : Int32))] []))
  refine own_by (fun _ k => XS.iload X30.here hx rfl (hb hby at_120) rfl k) ?_
  show own_Comes p e below s _ _ _ (T30.setTop (mkF m 122 #[.val (.int p0), .val (.int p1), .val (.ref b10), .val (.int (0 : Int32)), .val (.int (0 : Int32)), .val (.int (0 : Int32)), .val (.int (0 : Int32)), .val (.int (0 : Int32)), .val (.int (0 : Int32)), .val (.int (0 : Int32)), .val (.int (0 : Int32)), .val (.int (0 : Int32))] [(.int (0 : Int32))]))
  have hb33 : (0 : Int32) = (0 : Int32) := by decide
  refine own_by (fun _ k => XS.ifNo X30.here hx rfl (hb hby at_122) rfl ((if0 _ _).trans (teq hb33).2) k) ?_
  show own_Comes p e below s _ _ _ (T30.setTop (mkF m 125 #[.val (.int p0), .val (.int p1), .val (.ref b10), .val (.int (0 : Int32)), .val (.int (0 : Int32)), .val (.int (0 : Int32)), .val (.int (0 : Int32)), .val (.int (0 : Int32)), .val (.int (0 : Int32)), .val (.int (0 : Int32)), .val (.int (0 : Int32)), .val (.int (0 : Int32))] []))
  refine own_by (fun _ k => XS.iload X30.here hx rfl (hb hby at_125) rfl k) ?_
  show own_Comes p e below s _ _ _ (T30.setTop (mkF m 127 #[.val (.int p0), .val (.int p1), .val (.ref b10), .val (.int (0 : Int32)), .val (.int (0 : Int32)), .val (.int (0 : Int32)), .val (.int (0 : Int32)), .val (.int (0 : Int32)), .val (.int (0 : Int32)), .val (.int (0 : Int32)), .val (.int (0 : Int32)), .val (.int (0 : Int32))] [(.int (0 : Int32))]))
  have hb34 : (0 : Int32) = (0 : Int32) := by decide
  refine own_by (fun _ k => XS.ifNo X30.here hx rfl (hb hby at_127) rfl ((if0 _ _).trans (teq hb34).2) k) ?_
  show own_Comes p e below s _ _ _ (T30.setTop (mkF m 130 #[.val (.int p0), .val (.int p1), .val (.ref b10), .val (.int (0 : Int32)), .val (.int (0 : Int32)), .val (.int (0 : Int32)), .val (.int (0 : Int32)), .val (.int (0 : Int32)), .val (.int (0 : Int32)), .val (.int (0 : Int32)), .val (.int (0 : Int32)), .val (.int (0 : Int32))] []))
  refine own_by (fun _ k => XS.iload X30.here hx rfl (hb hby at_130) rfl k) ?_
  show own_Comes p e below s _ _ _ (T30.setTop (mkF m 132 #[.val (.int p0), .val (.int p1), .val (.ref b10), .val (.int (0 : Int32)), .val (.int (0 : Int32)), .val (.int (0 : Int32)), .val (.int (0 : Int32)), .val (.int (0 : Int32)), .val (.int (0 : Int32)), .val (.int (0 : Int32)), .val (.int (0 : Int32)), .val (.int (0 : Int32))] [(.int (0 : Int32))]))
  have hb35 : (0 : Int32) = (0 : Int32) := by decide
  refine own_by (fun _ k => XS.ifNo X30.here hx rfl (hb hby at_132) rfl ((if0 _ _).trans (teq hb35).2) k) ?_
  show own_Comes p e below s _ _ _ (T30.setTop (mkF m 135 #[.val (.int p0), .val (.int p1), .val (.ref b10), .val (.int (0 : Int32)), .val (.int (0 : Int32)), .val (.int (0 : Int32)), .val (.int (0 : Int32)), .val (.int (0 : Int32)), .val (.int (0 : Int32)), .val (.int (0 : Int32)), .val (.int (0 : Int32)), .val (.int (0 : Int32))] []))
  refine own_by (fun _ k => XS.iload X30.here hx rfl (hb hby at_135) rfl k) ?_
  show own_Comes p e below s _ _ _ (T30.setTop (mkF m 137 #[.val (.int p0), .val (.int p1), .val (.ref b10), .val (.int (0 : Int32)), .val (.int (0 : Int32)), .val (.int (0 : Int32)), .val (.int (0 : Int32)), .val (.int (0 : Int32)), .val (.int (0 : Int32)), .val (.int (0 : Int32)), .val (.int (0 : Int32)), .val (.int (0 : Int32))] [(.int (0 : Int32))]))
  have hb36 : (0 : Int32) = (0 : Int32) := by decide
  refine own_by (fun _ k => XS.ifNo X30.here hx rfl (hb hby at_137) rfl ((if0 _ _).trans (teq hb36).2) k) ?_
  show own_Comes p e below s _ _ _ (T30.setTop (mkF m 140 #[.val (.int p0), .val (.int p1), .val (.ref b10), .val (.int (0 : Int32)), .val (.int (0 : Int32)), .val (.int (0 : Int32)), .val (.int (0 : Int32)), .val (.int (0 : Int32)), .val (.int (0 : Int32)), .val (.int (0 : Int32)), .val (.int (0 : Int32)), .val (.int (0 : Int32))] []))
  refine own_by (fun _ k => XS.iload X30.here hx rfl (hb hby at_140) rfl k) ?_
  show own_Comes p e below s _ _ _ (T30.setTop (mkF m 142 #[.val (.int p0), .val (.int p1), .val (.ref b10), .val (.int (0 : Int32)), .val (.int (0 : Int32)), .val (.int (0 : Int32)), .val (.int (0 : Int32)), .val (.int (0 : Int32)), .val (.int (0 : Int32)), .val (.int (0 : Int32)), .val (.int (0 : Int32)), .val (.int (0 : Int32))] [(.int (0 : Int32))]))
  have hb37 : (0 : Int32) = (0 : Int32) := by decide
  refine own_by (fun _ k => XS.ifNo X30.here hx rfl (hb hby at_142) rfl ((if0 _ _).trans (teq hb37).2) k) ?_
  show own_Comes p e below s _ _ _ (T30.setTop (mkF m 145 #[.val (.int p0), .val (.int p1), .val (.ref b10), .val (.int (0 : Int32)), .val (.int (0 : Int32)), .val (.int (0 : Int32)), .val (.int (0 : Int32)), .val (.int (0 : Int32)), .val (.int (0 : Int32)), .val (.int (0 : Int32)), .val (.int (0 : Int32)), .val (.int (0 : Int32))] []))
  refine own_by (fun _ k => XS.iload X30.here hx rfl (hb hby at_145) rfl k) ?_
  show own_Comes p e below s _ _ _ (T30.setTop (mkF m 147 #[.val (.int p0), .val (.int p1), .val (.ref b10), .val (.int (0 : Int32)), .val (.int (0 : Int32)), .val (.int (0 : Int32)), .val (.int (0 : Int32)), .val (.int (0 : Int32)), .val (.int (0 : Int32)), .val (.int (0 : Int32)), .val (.int (0 : Int32)), .val (.int (0 : Int32))] [(.int (0 : Int32))]))
  have hb38 : (0 : Int32) = (0 : Int32) := by decide
  refine own_by (fun _ k => XS.ifNo X30.here hx rfl (hb hby at_147) rfl ((if0 _ _).trans (teq hb38).2) k) ?_
  show own_Comes p e below s _ _ _ (T30.setTop (mkF m 150 #[.val (.int p0), .val (.int p1), .val (.ref b10), .val (.int (0 : Int32)), .val (.int (0 : Int32)), .val (.int (0 : Int32)), .val (.int (0 : Int32)), .val (.int (0 : Int32)), .val (.int (0 : Int32)), .val (.int (0 : Int32)), .val (.int (0 : Int32)), .val (.int (0 : Int32))] []))
  refine own_by (fun _ k => XS.iload X30.here hx rfl (hb hby at_150) rfl k) ?_
  show own_Comes p e below s _ _ _ (T30.setTop (mkF m 152 #[.val (.int p0), .val (.int p1), .val (.ref b10), .val (.int (0 : Int32)), .val (.int (0 : Int32)), .val (.int (0 : Int32)), .val (.int (0 : Int32)), .val (.int (0 : Int32)), .val (.int (0 : Int32)), .val (.int (0 : Int32)), .val (.int (0 : Int32)), .val (.int (0 : Int32))] [(.int (0 : Int32))]))
  have hb39 : (0 : Int32) = (0 : Int32) := by decide
  refine own_by (fun _ k => XS.ifNo X30.here hx rfl (hb hby at_152) rfl ((if0 _ _).trans (teq hb39).2) k) ?_
  show own_Comes p e below s _ _ _ (T30.setTop (mkF m 155 #[.val (.int p0), .val (.int p1), .val (.ref b10), .val (.int (0 : Int32)), .val (.int (0 : Int32)), .val (.int (0 : Int32)), .val (.int (0 : Int32)), .val (.int (0 : Int32)), .val (.int (0 : Int32)), .val (.int (0 : Int32)), .val (.int (0 : Int32)), .val (.int (0 : Int32))] []))
  refine own_by (fun _ k => XS.iconst X30.here hx rfl (hb hby at_155) k) ?_
  show own_Comes p e below s _ _ _ (T30.setTop (mkF m 156 #[.val (.int p0), .val (.int p1), .val (.ref b10), .val (.int (0 : Int32)), .val (.int (0 : Int32)), .val (.int (0 : Int32)), .val (.int (0 : Int32)), .val (.int (0 : Int32)), .val (.int (0 : Int32)), .val (.int (0 : Int32)), .val (.int (0 : Int32)), .val (.int (0 : Int32))] [(.int (1 : Int32))]))
  refine own_by (fun _ k => XS.goto X30.here hx rfl (pc0 := 156) (pc' := 160) rfl (hb hby at_156) (by decide) (by decide) k) ?_
  show own_Comes p e below s _ _ _ (T30.setTop (mkF m 160 #[.val (.int p0), .val (.int p1), .val (.ref b10), .val (.int (0 : Int32)), .val (.int (0 : Int32)), .val (.int (0 : Int32)), .val (.int (0 : Int32)), .val (.int (0 : Int32)), .val (.int (0 : Int32)), .val (.int (0 : Int32)), .val (.int (0 : Int32)), .val (.int (0 : Int32))] [(.int (1 : Int32))]))
  refine own_ret X30 (v := some (.int (1 : Int32))) (fun h => by rw [Bd.returns] at h; cases h) Bd.notSynchronized (by decide) (by decide) ?_ (fun fs hr => retN X30 hx (t := .boolean) Bd.returns (by simp) (hb hby at_160) hr)
  exact ⟨rfl, N30⟩
set_option maxRecDepth 65536 in
set_option maxHeartbeats 40000000 in
theorem comes_1 {Post : Tables → Env → Array Value → State → Outcome → State → Prop} (hpost : ∀ tb e args s v u, (limb_1_1.after args s (.returned v) u = true ∧ limb_1_2.after args s (.returned v) u = true ∧ True) → FrameEnd s (.returned v) u (Jvm.fieldLocs frame_1_writes args s ++ Jvm.arrayLocs frame_1_arrays args s ++ Jvm.staticLocs frame_1_statics s) 16 128 → Post tb e args s (.returned v) u) :
    ArmFor flags0 classFile x code maxLocals ret World_1 tables_1 room_1 Calls_1 rest_1 Pre_1 Post := by
  intro l hfl _ _ p e ha hc hk s m args below hf hA hF happ hP
  obtain ⟨hcalls, hrest, hpre⟩ := hP
  obtain ⟨-, -, -, hnamed, -, -, -, hat⟩ := (Spec.applies_iff hf).mp happ
  obtain ⟨hg, hn⟩ := and_e (Cond.before_iff.mp (show (Jvm.Cond.and given_1 narrow_1).before args s = true from hpre))
  obtain ⟨hcount, hk0⟩ := and_e hg
  obtain ⟨ha0, hk1⟩ := and_e hk0
  have ha1 := hk1
  obtain ⟨w0, w1, rfl⟩ : ∃ w0 w1 : Value, args = #[w0, w1] := by
    have hs : args.size = 2 := by simpa [Cond.value, given_1] using hcount
    obtain ⟨L⟩ := args
    match L, hs with
    | [w0, w1], _ => exact ⟨w0, w1, rfl⟩
  have hw := fun d (hd : d ∈ tables_1) => atoms_spec (ws := Jvm.Cond.code x code maxLocals ret :: tables_1) hat d (List.mem_cons_of_mem _ hd)
  have hfit : Fit s := fun {y c} hc i hi => by
    obtain ⟨ha, rfl⟩ := Array.getElem?_eq_some_iff.mp hc
    have q := List.all_eq_true.mp ((Array.all_eq_true_iff_forall_mem.mp hF) _ (Array.getElem_mem ha)) i (List.mem_range.mpr hi)
    simpa [Array.getElem?_eq_getElem hi] using q
  obtain ⟨i0, ei0⟩ := is_v ha0
  obtain rfl : w0 = (.int i0) := Option.some.inj ei0
  obtain ⟨i1, ei1⟩ := is_v ha1
  obtain rfl : w1 = (.int i1) := Option.some.inj ei1
  obtain ⟨n, o, h1, h2, h3, _, L, rfl, ⟨rfl, N⟩, hq⟩ := rm0 l s _ hw tables_1 i0 i1  s.heap s.heap.size (Nat.le_refl _)  p e ha hc hk s m _ below hf ((Spec.applies_iff_loose hf).mp happ).1 ⟨rfl, State.Warmed39.refl s, rfl⟩ trivial
  refine ⟨n, _, h1, h2, h3, hpost _ _ _ _ _ _ ⟨Cond.after_iff.mpr rfl, Cond.after_iff.mpr (eq_i res_at (Term.int_eval (1)) rfl), trivial⟩ ⟨hq.1, hq.2.1, (hq.2.2.sift fun y hy => Or.inr (N y hy)).mono (by decide) (by decide)⟩⟩
theorem main_1_1 : Claimed_1_1 := comes_1 fun _ _ _ _ _ _ h hF => ⟨h.1, hF⟩
theorem main_1_2 : Claimed_1_2 := comes_1 fun _ _ _ _ _ _ h hF => ⟨h.2.1, hF⟩
end Jvm.Pilot.@@N@@
namespace Jvm.Pilot.@@N@@
open Jvm Jvm.ClassFile Sem Op Lib Jvm.Free Jvm.Stand Jvm.Pilot.@@N@@.Jvm.D
/-! MADE BY PROGRAM (witnessworld.py) out of the Statement's table words and the real class files: 9 classes; the members and pool entries that the words name. The judged class is class 1, her method 2. -/
namespace start1
open Jvm.ClassFile
def u (s : String) : CpInfo := .utf8 (stringToUtf16 s)
/-- a pool by its gaps: so many unusable entries, then the entry; so many at the end -/
def gap : Nat → List CpInfo → List CpInfo
  | 0, r => r
  | n + 1, r => .unusable :: gap n r
def poolList (es : List (Nat × CpInfo)) (last : Nat) : List CpInfo := es.foldr (fun e r => gap e.1 (e.2 :: r)) (gap last [])
def pool (es : List (Nat × CpInfo)) (last : Nat) : Array CpInfo := ⟨poolList es last⟩
def fileOf (pool : Array CpInfo) (this : Nat) (attrs : Array Attribute := #[]) (ms : Array MethodInfo := #[]) (fl : Nat := 33) (sup : Nat := 0) (ifs : Array Nat := #[]) (fds : Array FieldInfo := #[]) : ClassFile where
  minorVersion := 0
  majorVersion := 65
  constantPool := pool
  accessFlags := fl
  thisClass := this
  superClass := sup
  interfaces := ifs
  fields := fds
  methods := ms
  attributes := attrs
def plain (name : String) (sup : Option ClassId) : Class where
  name := name
  kind := .ordinary
  loader := none
  accessFlags := 33
  super := sup
  interfaces := #[]
  cf := none
  fields := #[]
  methods := #[]
  instanceTypes := #[]
  staticTypes := #[]
  resolved := #[]
  callSites := []
  init := .initialized
  statics := none
  mirror := none

def pool0 : Array CpInfo := pool [(5, u "<init>"), (0, u "()V"), (1, .class_ 10), (1, u "java/lang/Object")] 113

def k0c0 : Code := { maxStack := 0, maxLocals := 1, code := object_method_1_code, exceptionTable := #[], attributes := #[] }
def k0m0 : Method := { name := "<init>", desc := "()V", sig := { parameters := [], returnType := none }, accessFlags := 1, code := some k0c0 }
/-- java/lang/Object -/
def k0 : Class := { plain "java/lang/Object" none with
  accessFlags := 33
  interfaces := #[]
  cf := some (fileOf pool0 8 #[] #[{ accessFlags := 1, nameIndex := 5, descriptorIndex := 6, attributes := #[] }] 33 0 #[] #[])
  fields := #[]
  methods := #[k0m0]
  instanceTypes := #[]
  staticTypes := #[]
  resolved := Array.replicate 124 none
  statics := none }

def pool1 : Array CpInfo := pool [(2, .class_ 4), (1, u "java/lang/Object"), (0, u "<init>"), (0, u "()V"), (0, .class_ 8), (0, u "com/example/mixed_margins/mixedmargins/explore/Cooling"), (0, .methodref 7 10), (0, .nameAndType 5 11), (0, u "(D)V"), (0, .methodref 13 14), (0, .class_ 15), (0, .nameAndType 16 17), (0, u "com/example/mixed_margins/mixedmargins/explore/CoolingCountMovePinLaw"), (0, u "bit"), (0, u "(II)Z"), (0, .methodref 7 19), (0, .nameAndType 20 21), (0, u "countMove"), (0, u "(Z)Z"), (3, u "law")] 2

def k1m0 : Method := { name := "<init>", desc := "()V", sig := { parameters := [], returnType := none }, accessFlags := 1, code := none }
def k1c1 : Code := { maxStack := 2, maxLocals := 2, code := method_2_code, exceptionTable := #[], attributes := #[] }
def k1m1 : Method := { name := "bit", desc := "(II)Z", sig := { parameters := [.int, .int], returnType := some .boolean }, accessFlags := 10, code := some k1c1 }
def k1c2 : Code := { maxStack := 4, maxLocals := 12, code := code, exceptionTable := #[], attributes := #[] }
def k1m2 : Method := { name := "law", desc := "(II)Z", sig := { parameters := [.int, .int], returnType := some .boolean }, accessFlags := 9, code := some k1c2 }
/-- com/example/mixed_margins/mixedmargins/explore/CoolingCountMovePinLaw -/
def k1 : Class := { plain "com/example/mixed_margins/mixedmargins/explore/CoolingCountMovePinLaw" (some 0) with
  accessFlags := 49
  interfaces := #[]
  cf := some (fileOf pool1 13 #[] #[{ accessFlags := 1, nameIndex := 5, descriptorIndex := 6, attributes := #[] }, { accessFlags := 10, nameIndex := 16, descriptorIndex := 17, attributes := #[] }, { accessFlags := 9, nameIndex := 25, descriptorIndex := 17, attributes := #[] }] 49 2 #[] #[])
  fields := #[]
  methods := #[k1m0, k1m1, k1m2]
  instanceTypes := #[]
  staticTypes := #[]
  resolved := Array.replicate 28 none
  statics := none }

def pool2 : Array CpInfo := pool [(1, .methodref 2 3), (0, .class_ 4), (0, .nameAndType 5 6), (0, u "java/lang/Object"), (0, u "<init>"), (0, u "()V"), (0, .fieldref 8 9), (0, .class_ 10), (0, .nameAndType 11 12), (0, u "com/example/mixed_margins/mixedmargins/explore/Cooling"), (0, u "temperature"), (0, u "D"), (12, .fieldref 8 26), (0, .nameAndType 27 28), (0, u "sinceBest"), (0, u "I"), (0, .double 4605380978949069210), (1, u "MOVES_PER_TEMPERATURE"), (2, u "COOLING"), (0, u "(D)V"), (5, u "countMove"), (0, u "(Z)Z")] 2

def k2c0 : Code := { maxStack := 3, maxLocals := 3, code := prog_16_method_1_code, exceptionTable := #[], attributes := #[] }
def k2m0 : Method := { name := "<init>", desc := "(D)V", sig := { parameters := [.double], returnType := none }, accessFlags := 0, code := some k2c0 }
def k2c1 : Code := { maxStack := 5, maxLocals := 3, code := prog_16_method_3_code, exceptionTable := #[], attributes := #[] }
def k2m1 : Method := { name := "countMove", desc := "(Z)Z", sig := { parameters := [.boolean], returnType := some .boolean }, accessFlags := 0, code := some k2c1 }
/-- com/example/mixed_margins/mixedmargins/explore/Cooling -/
def k2 : Class := { plain "com/example/mixed_margins/mixedmargins/explore/Cooling" (some 0) with
  accessFlags := 32
  interfaces := #[]
  cf := some (fileOf pool2 8 #[] #[{ accessFlags := 0, nameIndex := 5, descriptorIndex := 35, attributes := #[] }, { accessFlags := 0, nameIndex := 41, descriptorIndex := 42, attributes := #[] }] 32 2 #[] #[{ accessFlags := 24, nameIndex := 31, descriptorIndex := 28, attributes := #[] }, { accessFlags := 24, nameIndex := 34, descriptorIndex := 12, attributes := #[] }, { accessFlags := 2, nameIndex := 11, descriptorIndex := 12, attributes := #[] }, { accessFlags := 2, nameIndex := 27, descriptorIndex := 28, attributes := #[] }])
  fields := #[{ name := "MOVES_PER_TEMPERATURE", type := .int, accessFlags := 24, slot := 0, constantValue := 0 }, { name := "COOLING", type := .double, accessFlags := 24, slot := 1, constantValue := 0 }, { name := "temperature", type := .double, accessFlags := 2, slot := 0, constantValue := 0 }, { name := "sinceBest", type := .int, accessFlags := 2, slot := 1, constantValue := 0 }]
  methods := #[k2m0, k2m1]
  instanceTypes := #[.double, .int]
  staticTypes := #[.int, .double]
  resolved := Array.replicate 45 none
  statics := none }

def pool3 : Array CpInfo := pool [(1, u "java/lang/Cloneable"), (0, .class_ 1), (0, u "java/lang/Object"), (0, .class_ 3)] 3

/-- java/lang/Cloneable -/
def k3 : Class := { plain "java/lang/Cloneable" (some 0) with
  accessFlags := 1537
  interfaces := #[]
  cf := some (fileOf pool3 2 #[] #[] 1537 4 #[] #[])
  fields := #[]
  methods := #[]
  instanceTypes := #[]
  staticTypes := #[]
  resolved := Array.replicate 8 none
  statics := none }

def pool4 : Array CpInfo := pool [(1, u "java/io/Serializable"), (0, .class_ 1), (0, u "java/lang/Object"), (0, .class_ 3)] 3

/-- java/io/Serializable -/
def k4 : Class := { plain "java/io/Serializable" (some 0) with
  accessFlags := 1537
  interfaces := #[]
  cf := some (fileOf pool4 2 #[] #[] 1537 4 #[] #[])
  fields := #[]
  methods := #[]
  instanceTypes := #[]
  staticTypes := #[]
  resolved := Array.replicate 8 none
  statics := none }

/-- the primitive byte -/
def k5 : Class := { plain "byte" none with kind := .primitive 'B', accessFlags := 0x411 }
/-- [B -/
def k6 : Class := { plain "[B" (some 0) with kind := .array 5 .byte, interfaces := #[3, 4], accessFlags := 1041 }

/-- the primitive int -/
def k7 : Class := { plain "int" none with kind := .primitive 'I', accessFlags := 0x411 }
/-- [I -/
def k8 : Class := { plain "[I" (some 0) with kind := .array 7 .int, interfaces := #[3, 4], accessFlags := 1041 }

def heap : Heap := #[]
def classes : Array Class := #[k0, k1, k2, k3, k4, k5, k6, k7, k8]
def interned : List (Array UInt16 × Addr) := []
def slotsUsed : Nat := 0
def theMethod : MethodId := ⟨1, 2⟩
def args0 : Array Value := #[.int 5, .int 3]
def aboutOver (below : List Frame) : State where
  vm := { classes := classes, interned := interned.toArray }
  heap := heap
  slotsUsed := slotsUsed
  threads := #[{ frames := .invoking theMethod args0 :: below }]
def below0 : List Frame := [.native { method := ⟨0, 0⟩, args := #[] }]
def about1 : State := aboutOver below0
def p0 : Program := .bare "" "" ""
def e0 : Env := launch0.env 0 0 0
theorem w_frames : about1.frames = Frame.invoking theMethod args0 :: below0 := rfl
set_option maxRecDepth 65536 in
theorem w_args : argsFit about1.vm theMethod args0 = true := by decide +kernel
set_option maxRecDepth 65536 in
theorem w_heap : heapFits about1 = true := by decide +kernel
set_option maxRecDepth 65536 in
theorem w_runnable : about1.curStatus? = some .runnable := by decide +kernel
set_option maxRecDepth 65536 in
theorem w_alone : about1.alone = true := by decide +kernel
set_option maxRecDepth 65536 in
theorem w_named : about1.methodNamed? x = some theMethod := by decide +kernel
set_option maxRecDepth 65536 in
theorem w_hears : about1.hears theMethod below0 = true := by decide +kernel
set_option maxRecDepth 65536 in
theorem w_ripe : about1.ripe theMethod args0 below0 = true := by decide +kernel
theorem w_running : about1.status = .running := rfl
set_option maxRecDepth 65536 in
theorem w_room : about1.hasRoom e0.platform room_1 = true :=
  launch0.hasRoom_least _ room_1 (by decide +kernel) (by decide +kernel) (by decide +kernel) (by decide +kernel) (by decide +kernel) (by decide +kernel)
theorem allAtoms_all (ts : List Jvm.Cond) (a : Array Jvm.Value) (st : Jvm.State) : (allAtoms ts).before a st = ts.all (fun c => c.before a st) := by
  induction ts with
  | nil => rfl
  | cons c t ih =>
    show (Jvm.Cond.and c (allAtoms t)).before a st = _
    rw [Jvm.Cond.before_and, ih, List.all_cons]
def words1 : List Jvm.Cond := Jvm.Cond.code x code maxLocals ret :: tables_1
/-- a 'code' word, met by the world's own term for the bytes: nothing is compared byte by byte -/
theorem code_word {y : MethodName} {bytes : ByteArray} {mx : Nat} {rt : Option FieldType} {a : Array Value} {s : State} {m : MethodId} {meth : Method} {c : Code} (h1 : s.methodNamed? y = some m) (h2 : s.vm.method? m = some meth) (h3 : meth.code = some c) (h4 : c.code = bytes)
    (h5 : (c.maxLocals == mx && c.exceptionTable.isEmpty && decide (c.maxStack ≤ mostOperands) && decide (meth.sig.returnType = rt) && !meth.locks && decide (parseMethodDescriptor y.desc = some meth.sig)) = true) : (Jvm.Cond.code y bytes mx rt).before a s = true := by
  simp only [Bool.and_eq_true, beq_iff_eq, Bool.not_eq_true', decide_eq_true_eq] at h5
  obtain ⟨⟨⟨⟨⟨g1, g2⟩, g3⟩, g4⟩, g5⟩, g6⟩ := h5
  simp [Cond.before, Cond.holds, Cond.value, h1, h2, h3, h4, g1, g2, g3, g4, g5, g6]
def isCode : Jvm.Cond → Bool
  | .code _ _ _ _ => true
  | _ => false
theorem all_split {L : List Jvm.Cond} {P : Jvm.Cond → Bool} (h1 : L.all (fun c => isCode c || P c) = true) (h2 : ∀ c ∈ L.filter isCode, P c = true) : L.all P = true := by
  refine List.all_eq_true.mpr fun c hc => ?_
  have h := List.all_eq_true.mp h1 c hc
  rcases Bool.eq_false_or_eq_true (isCode c) with hi | hi
  · exact h2 c (List.mem_filter.mpr ⟨hc, hi⟩)
  · simpa [hi] using h
set_option maxRecDepth 65536 in
theorem w_c0 : (Jvm.Cond.code x code maxLocals ret).before args0 about1 = true := code_word (m := ⟨1, 2⟩) (meth := k1m2) (c := k1c2) (by decide +kernel) rfl rfl rfl (by decide +kernel)
set_option maxRecDepth 65536 in
theorem w_c1 : (Jvm.Cond.code ({ cls := "com/example/mixed_margins/mixedmargins/explore/Cooling", name := "<init>", desc := "(D)V" } : Jvm.MethodName) prog_16_method_1_code (3 : Nat) (Option.none : Option Jvm.ClassFile.FieldType)).before args0 about1 = true := code_word (m := ⟨2, 0⟩) (meth := k2m0) (c := k2c0) (by decide +kernel) rfl rfl rfl (by decide +kernel)
set_option maxRecDepth 65536 in
theorem w_c2 : (Jvm.Cond.code ({ cls := "java/lang/Object", name := "<init>", desc := "()V" } : Jvm.MethodName) object_method_1_code (1 : Nat) (Option.none : Option Jvm.ClassFile.FieldType)).before args0 about1 = true := code_word (m := ⟨0, 0⟩) (meth := k0m0) (c := k0c0) (by decide +kernel) rfl rfl rfl (by decide +kernel)
set_option maxRecDepth 65536 in
theorem w_c3 : (Jvm.Cond.code ({ cls := "com/example/mixed_margins/mixedmargins/explore/CoolingCountMovePinLaw", name := "bit", desc := "(II)Z" } : Jvm.MethodName) method_2_code (2 : Nat) (Option.some Jvm.ClassFile.FieldType.boolean)).before args0 about1 = true := code_word (m := ⟨1, 1⟩) (meth := k1m1) (c := k1c1) (by decide +kernel) rfl rfl rfl (by decide +kernel)
set_option maxRecDepth 65536 in
theorem w_c4 : (Jvm.Cond.code ({ cls := "com/example/mixed_margins/mixedmargins/explore/Cooling", name := "countMove", desc := "(Z)Z" } : Jvm.MethodName) prog_16_method_3_code (3 : Nat) (Option.some Jvm.ClassFile.FieldType.boolean)).before args0 about1 = true := code_word (m := ⟨2, 1⟩) (meth := k2m1) (c := k2c1) (by decide +kernel) rfl rfl rfl (by decide +kernel)
def codes1 : List Jvm.Cond := [Jvm.Cond.code x code maxLocals ret, Jvm.Cond.code ({ cls := "com/example/mixed_margins/mixedmargins/explore/Cooling", name := "<init>", desc := "(D)V" } : Jvm.MethodName) prog_16_method_1_code (3 : Nat) (Option.none : Option Jvm.ClassFile.FieldType), Jvm.Cond.code ({ cls := "java/lang/Object", name := "<init>", desc := "()V" } : Jvm.MethodName) object_method_1_code (1 : Nat) (Option.none : Option Jvm.ClassFile.FieldType), Jvm.Cond.code ({ cls := "com/example/mixed_margins/mixedmargins/explore/CoolingCountMovePinLaw", name := "bit", desc := "(II)Z" } : Jvm.MethodName) method_2_code (2 : Nat) (Option.some Jvm.ClassFile.FieldType.boolean), Jvm.Cond.code ({ cls := "com/example/mixed_margins/mixedmargins/explore/Cooling", name := "countMove", desc := "(Z)Z" } : Jvm.MethodName) prog_16_method_3_code (3 : Nat) (Option.some Jvm.ClassFile.FieldType.boolean)]
set_option maxRecDepth 65536 in
theorem codes_eq : words1.filter isCode = codes1 := rfl
theorem w_codes : ∀ c ∈ words1.filter isCode, c.before args0 about1 = true := by
  rw [codes_eq]
  intro c hc
  simp only [codes1, List.mem_cons, List.not_mem_nil, or_false] at hc
  rcases hc with rfl | rfl | rfl | rfl | rfl
  · exact w_c0
  · exact w_c1
  · exact w_c2
  · exact w_c3
  · exact w_c4
set_option maxRecDepth 65536 in
theorem w_t1 : words1.all (fun c => isCode c || c.before args0 about1) = true := by decide +kernel
theorem w_tables : (allAtoms (Jvm.Cond.code x code maxLocals ret :: tables_1)).before args0 about1 = true := by
  rw [allAtoms_all]
  show words1.all (fun c => c.before args0 about1) = true
  refine all_split ?_ w_codes
  rw [w_t1]
set_option maxRecDepth 65536 in
theorem w_case : (Jvm.Cond.and given_1 narrow_1).before args0 about1 = true := by decide +kernel
theorem w_applies : (headSpec (Jvm.Cond.code x code maxLocals ret :: tables_1) room_1).applies x e0.platform about1 = true :=
  (Spec.applies_iff w_frames).mpr ⟨w_running, w_runnable, w_alone, w_named, w_hears, w_ripe, w_room, w_tables⟩
theorem atStart : AtStart classFile x code maxLocals ret World_1 tables_1 room_1 Calls_1 rest_1 Pre_1 launch0 p0 e0 about1 theMethod args0 below0 :=
  ⟨lists_1, trivial, launch0.admits_env _ _ _, launch0.least_env, fairChoices_fair.cas, fairChoices_fair.clock, w_frames, w_args, w_heap, w_applies, trivial, trivial, w_case⟩
end start1
theorem witness_1 : WitnessClaimed_1 := ⟨start1.p0, start1.e0, start1.about1, start1.theMethod, start1.args0, start1.below0, start1.atStart⟩
end Jvm.Pilot.@@N@@
