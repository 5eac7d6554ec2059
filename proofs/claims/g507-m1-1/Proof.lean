import JvmDerived
import JvmDerived.Pilot.@@N@@Statement
import JvmDerived.Pilot.@@N@@Code
set_option linter.unusedVariables false
set_option linter.unusedSimpArgs false
@@BLOCK:HandJ.lean.txt@@
@@BLOCK:SymMore.lean.txt@@
namespace Jvm.Pilot.@@N@@
open Jvm Jvm.ClassFile Sem Op Lib Jvm.Free Jvm.Stand Jvm.LawKit Jvm.RoadKit Bundle Jvm.Pilot.@@N@@.Jvm.D
section Own
variable {p : Program} {l : Launch} {e : Env} {R : Room} {s : State} {m : MethodId} {args : Array Value} {below : List Frame} {meth : Method} {c : Code} {T : State} {locs : List Loc} {cells slots : Nat}
/-- from t on the body comes to an end, with at most C cells and S slots made, and Q says of it -/
def own_Comes (p : Program) (e : Env) (below : List Frame) (s : State) (C S : Nat) (Q : Option Value → Heap → List Loc → Prop) (t : State) : Prop :=
  ∃ (U : State) (o : Outcome), Steps p.tables e below t U ∧ U.status = .running ∧ Ended U below o ∧ ∃ v L, o = .returned v ∧ Q v U.heap L ∧ FrameEnd s o U L C S
theorem own_by {C S : Nat} {Q : Option Value → Heap → List Loc → Prop} {t t' : State} (st : ∀ target, Steps p.tables e below t' target → Steps p.tables e below t target) (h : own_Comes p e below s C S Q t') : own_Comes p e below s C S Q t := by
  obtain ⟨U, o, h1, h2⟩ := h
  exact ⟨U, o, st _ h1, h2⟩
theorem own_tr {C S : Nat} {Q : Option Value → Heap → List Loc → Prop} {t t' : State} (st : Steps p.tables e below t t') (h : own_Comes p e below s C S Q t') : own_Comes p e below s C S Q t := by
  obtain ⟨U, o, h1, h2⟩ := h
  exact ⟨U, o, st.trans h1, h2⟩
theorem own_ret (X : Stand p l e R s m args below meth c T locs cells slots) {C S : Nat} {Q : Option Value → Heap → List Loc → Prop} {v : Option Value} {t : State} (hv : meth.sig.returnType = none → v = none) (hlk : meth.locks = false) (hC : cells ≤ C) (hS : slots ≤ S) (hQ : Q v T.heap locs)
    (st : ∀ fs, (∀ (f : JFrame) (acts : List Action), f.method = m → f.locked = none → f.entered = [] → (doReturn e (T.setTop f) acts v).1 = T.setFrames fs) → Steps p.tables e below t (T.setFrames fs)) : own_Comes p e below s C S Q t := by
  obtain ⟨fs, hr, hrun, hended, hW, hsame⟩ := X.leave (v := v) hv hlk
  exact ⟨_, _, st fs hr, hrun, hended, v, locs, rfl, hQ, ⟨_, rfl⟩, hW, hsame.mono hC hS⟩
theorem retI (X : Stand p l e R s m args below meth c T locs cells slots) (hx : p.tables.exec = Jvm.exec) {pc : Nat} {Ls : Array Slot} {z : Int32} {rest : List Value} (hret : meth.sig.returnType = some .int) (hd : decode c.code pc = .ok (.ireturn, 1)) {fs : List Frame}
    (hl : ∀ (f : JFrame) (acts : List Action), f.method = m → f.locked = none → f.entered = [] → (doReturn e (T.setTop f) acts (some (.int z))).1 = T.setFrames fs) : Steps p.tables e below (T.setTop (mkF m pc Ls (.int z :: rest))) (T.setFrames fs) := by
  have hm' : T.vm.method? m = some meth := X.method'
  have hn : narrow .int (.int z) = .int z := rfl
  show Steps p.tables e below (T.setTop { method := m, pc := pc, locals := Ls, stack := _ :: rest, locked := none }) _
  jvm_step X.here [X.here.top, hx, hd, hm', hret, hn]
  first | (intro acts; rw [hl _ acts rfl rfl rfl]) | rw [hl _ _ rfl rfl rfl]
  exact Steps.refl _
theorem own_reta (X : Stand p l e R s m args below meth c T locs cells slots) (hx : p.tables.exec = Jvm.exec) {pc : Nat} {Ls : Array Slot} {w : Value} {t : FieldType} {rest : List Value} (hret : meth.sig.returnType = some t) (ht : t.isReference = true) (hw : w.isRef = true) (hd : decode c.code pc = .ok (.areturn, 1)) {fs : List Frame}
    (hl : ∀ (f : JFrame) (acts : List Action), f.method = m → f.locked = none → f.entered = [] → (doReturn e (T.setTop f) acts (some w)).1 = T.setFrames fs) : Steps p.tables e below (T.setTop (mkF m pc Ls (w :: rest))) (T.setFrames fs) := by
  have hm' : T.vm.method? m = some meth := X.method'
  have hn : narrow t w = w := by cases t <;> first | (cases ht; done) | (cases w <;> rfl)
  rcases ref_cases hw with rfl | ⟨z, rfl⟩
  all_goals
    show Steps p.tables e below (T.setTop { method := m, pc := pc, locals := Ls, stack := _ :: rest, locked := none }) _
    jvm_step X.here [X.here.top, hx, hd, hm', hret, hn, Value.isRef]
    try (refine ⟨ht, ?_⟩)
    first | (intro acts; rw [hl _ acts rfl rfl rfl]) | rw [hl _ _ rfl rfl rfl]
    exact Steps.refl _
/-- what is kept with nothing old written is only added to -/
theorem own_ext {h h' : Heap} (K : Keep h h' []) : Ext h h' := ⟨K.1, fun x c q => K.2.1 x c q nin0⟩
/-- the same, where String constants may have been loaded -/
def own_ComesW (p : Program) (e : Env) (below : List Frame) (s : State) (C S : Nat) (Q : Option Value → Heap → List Loc → Prop) (t : State) : Prop :=
  ∃ (U : State) (o : Outcome), Steps p.tables e below t U ∧ U.status = .running ∧ Ended U below o ∧ ∃ v L, o = .returned v ∧ Q v U.heap L ∧ ReturnedEndW s o U L C S
theorem own_byW {C S : Nat} {Q : Option Value → Heap → List Loc → Prop} {t t' : State} (st : ∀ target, Steps p.tables e below t' target → Steps p.tables e below t target) (h : own_ComesW p e below s C S Q t') : own_ComesW p e below s C S Q t := by
  obtain ⟨U, o, h1, h2⟩ := h
  exact ⟨U, o, st _ h1, h2⟩
theorem own_trW {C S : Nat} {Q : Option Value → Heap → List Loc → Prop} {t t' : State} (st : Steps p.tables e below t t') (h : own_ComesW p e below s C S Q t') : own_ComesW p e below s C S Q t := by
  obtain ⟨U, o, h1, h2⟩ := h
  exact ⟨U, o, st.trans h1, h2⟩
theorem own_retW {vm1 : Vm} (X : Stand p l e R (s.setVm vm1) m args below meth c T locs cells slots) {k : Nat} (hS : s.Since vm1 k) (hk : k ≤ T.heap.size) {C S : Nat} {Q : Option Value → Heap → List Loc → Prop} {v : Option Value} {t : State} (hv : meth.sig.returnType = none → v = none) (hlk : meth.locks = false) (hC : cells ≤ C) (hSl : slots ≤ S) (hQ : Q v T.heap locs)
    (st : ∀ fs, (∀ (f : JFrame) (acts : List Action), f.method = m → f.locked = none → f.entered = [] → (doReturn e (T.setTop f) acts v).1 = T.setFrames fs) → Steps p.tables e below t (T.setFrames fs)) : own_ComesW p e below s C S Q t := by
  obtain ⟨fs, hr, hrun, hended, hE⟩ := X.leaveW hS hk (v := v) hv hlk
  exact ⟨_, _, st fs hr, hrun, hended, v, locs, rfl, hQ, hE.1, hE.2.1, hE.2.2.1, hE.2.2.2.mono hC hSl⟩
end Own
theorem own_and (x : Int32) : 0 ≤ (x &&& (2147483647 : Int32)).toInt ∧ (x &&& (2147483647 : Int32)).toInt ≤ 2147483647 := by
  have h : (2147483647 : Int32).toInt = 2147483647 := by decide
  have := c_and x (2147483647 : Int32) (by rw [h]; decide)
  rw [h] at this; exact this
theorem own_p (x : Int32) : 1 ≤ ((1 : Int64) + ((x &&& (2147483647 : Int32)) % (3600000 : Int32)).toInt64).toInt ∧ ((1 : Int64) + ((x &&& (2147483647 : Int32)) % (3600000 : Int32)).toInt64).toInt ≤ 3600000 := by
  have h1 := own_and x
  have h2 := (c_irem (x &&& (2147483647 : Int32)) (3600000 : Int32) 3600000 (by decide)).1 h1.1
  have h3 := c_i2l ((x &&& (2147483647 : Int32)) % (3600000 : Int32))
  have h4 := c_ladd (1 : Int64) ((x &&& (2147483647 : Int32)) % (3600000 : Int32)).toInt64
  have h5 := rng64 ((1 : Int64) + ((x &&& (2147483647 : Int32)) % (3600000 : Int32)).toInt64)
  have h6 : (1 : Int64).toInt = 1 := by decide
  omega
theorem own_d (P : Int64) (hP : 1 ≤ P.toInt ∧ P.toInt ≤ 3600000) : ((3600001 : Int64) - P).toInt = 3600001 - P.toInt ∧ ¬ ((3600001 : Int64) - P = 0) := by
  have h1 := c_lsub (3600001 : Int64) P
  have h2 : (3600001 : Int64).toInt = 3600001 := by decide
  have h3 := rng64 ((3600001 : Int64) - P)
  have e : ((3600001 : Int64) - P).toInt = 3600001 - P.toInt := by omega
  refine ⟨e, fun q => ?_⟩
  rw [q] at e
  have : (0 : Int64).toInt = 0 := by decide
  omega
theorem own_m (y : Int32) (P : Int64) (hP : 1 ≤ P.toInt ∧ P.toInt ≤ 3600000) : 0 ≤ ((y &&& (2147483647 : Int32)).toInt64 - ((y &&& (2147483647 : Int32)).toInt64 / ((3600001 : Int64) - P)) * ((3600001 : Int64) - P)).toInt ∧ ((y &&& (2147483647 : Int32)).toInt64 - ((y &&& (2147483647 : Int32)).toInt64 / ((3600001 : Int64) - P)) * ((3600001 : Int64) - P)).toInt ≤ 3600000 - P.toInt := by
  have h1 := own_and y
  have h2 := c_i2l (y &&& (2147483647 : Int32))
  have h3 := (c_lrem (y &&& (2147483647 : Int32)).toInt64 ((3600001 : Int64) - P) (3600001 - P.toInt) (own_d P hP).1).1 (by omega)
  rw [h3]
  have h4 := Int.emod_nonneg (y &&& (2147483647 : Int32)).toInt64.toInt (b := 3600001 - P.toInt) (by omega)
  have h5 := Int.emod_lt_of_pos (y &&& (2147483647 : Int32)).toInt64.toInt (b := 3600001 - P.toInt) (by omega)
  omega
theorem own_w (x : Int32) : 1 ≤ ((1 : Int32) + (x &&& (7 : Int32))).toInt ∧ ((1 : Int32) + (x &&& (7 : Int32))).toInt ≤ 8 := by
  have h : (7 : Int32).toInt = 7 := by decide
  have h1 := c_and x (7 : Int32) (by rw [h]; decide)
  rw [h] at h1
  have h2 := c_iadd (1 : Int32) (x &&& (7 : Int32))
  have h3 := rng32 ((1 : Int32) + (x &&& (7 : Int32)))
  have h4 : (1 : Int32).toInt = 1 := by decide
  omega
theorem own_neg {w : Int32} (h : 1 ≤ w.toInt ∧ w.toInt ≤ 8) : ¬ w < 0 := by
  rw [Int32.lt_iff_toInt_lt]; have : (0 : Int32).toInt = 0 := by decide
  omega
theorem own_cap {w : Int32} (h : 1 ≤ w.toInt ∧ w.toInt ≤ 8) : w.toNatClampNeg ≤ 8 := by simp only [Int32.toNatClampNeg]; omega
theorem own_nz {w : Int32} (h : 1 ≤ w.toInt ∧ w.toInt ≤ 8) : ¬ w = 0 := fun q => by
  rw [q] at h; have : (0 : Int32).toInt = 0 := by decide
  omega
theorem own_in0 {w : Int32} (h : 1 ≤ w.toInt ∧ w.toInt ≤ 8) : ¬ (0 : Int32) < 0 ∧ (0 : Int32) < w := by
  refine ⟨by decide, ?_⟩
  rw [Int32.lt_iff_toInt_lt]; have : (0 : Int32).toInt = 0 := by decide
  omega
theorem own_in1 {w : Int32} (h : 1 ≤ w.toInt ∧ w.toInt ≤ 8) : (1 : Int32).toNatClampNeg + (0 : Int32).toNatClampNeg ≤ w.toNatClampNeg := by
  show 1 + 0 ≤ _; simp only [Int32.toNatClampNeg]; omega
theorem own_in2 {w : Int32} : (0 : Int32).toNatClampNeg + (0 : Int32).toNatClampNeg ≤ w.toNatClampNeg := Nat.zero_le _
theorem own_get0 {vs : List Value} {v d : Value} (h : 0 < vs.length) : (vs.set 0 v).getD (0 : Int32).toNatClampNeg d = v := by
  show (vs.set 0 v).getD 0 d = v
  cases vs with
  | nil => cases h
  | cons a r => rfl
theorem own_fin (A L P M q x : Int64) (hx : x = 0) : ((((A - L) - (P * q)) + x) + (P * (q + (1 : Int64)))) + M = ((A - L) + P) + M := by
  subst hx; grind
theorem own_f4 (P : Int64) (hP : 1 ≤ P.toInt ∧ P.toInt ≤ 3600000) : ((3600000 : Int64) - P).toInt = 3600000 - P.toInt := by
  have h1 := c_lsub (3600000 : Int64) P
  have h2 : (3600000 : Int64).toInt = 3600000 := by decide
  have h3 := rng64 ((3600000 : Int64) - P)
  omega
theorem own_lt64 {a b : Int64} (h : b.toInt ≤ a.toInt) : ¬ a < b := by rw [Int64.lt_iff_toInt_lt]; omega

theorem own_fld {t : Term} {C n : String} {args : Array Value} {s : State} {a : Addr} {x : Int64} (h : (Cond.eq (Term.field t C n "J") (Term.long x)).value args s none s [] = some true) (ht : t.eval args s none [] s = some (.ref a)) : Fld s s.heap a C n "J" (.long x) := by
  have e := fld_at (C := C) (n := n) (dd := "J") ht
  obtain ⟨u, w, h1, h2, h3, -⟩ := cmp_v (Or.inl h)
  cases (long_at x).symm.trans h2
  rw [e] at h1
  cases u <;> simp only [Kin] at h3 <;> first | (obtain ⟨_, q⟩ := h3; cases q; done) | skip
  · rename_i y
    have q := gotT (eq_L (e.trans h1) (long_at x)) h
    subst q; exact Fld.start h1
  all_goals (first | (exact absurd h3.2 (by simp [Value.isRef])) | (obtain ⟨h3, h4⟩ := h3; cases h4))
def own_AE (Z : State) (h : Heap) (x : Addr) (P M : Int64) (o t : Addr) (ko kt : ClassId) (z : Int32) (vt : List Value) (ba : Int64) (cn nx : Int32) (fr : Int64) : Prop :=
  Exa Z h x "com/example/hetman/hetman/peer/ArrivalEstimator" ∧ Fld Z h x "com/example/hetman/hetman/peer/ArrivalEstimator" "periodNanos" "J" (.long P) ∧ Fld Z h x "com/example/hetman/hetman/peer/ArrivalEstimator" "marginNanos" "J" (.long M) ∧ Fld Z h x "com/example/hetman/hetman/peer/ArrivalEstimator" "offsets" "[J" (.ref o) ∧ Fld Z h x "com/example/hetman/hetman/peer/ArrivalEstimator" "sorted" "[J" (.ref t) ∧
  Fld Z h x "com/example/hetman/hetman/peer/ArrivalEstimator" "base" "J" (.long ba) ∧ Fld Z h x "com/example/hetman/hetman/peer/ArrivalEstimator" "count" "I" (.int cn) ∧ Fld Z h x "com/example/hetman/hetman/peer/ArrivalEstimator" "next" "I" (.int nx) ∧ Fld Z h x "com/example/hetman/hetman/peer/ArrivalEstimator" "freshnessNanos" "J" (.long fr) ∧
  (∃ v : Int64, Fld Z h x "com/example/hetman/hetman/peer/ArrivalEstimator" "largestLabel" "J" (.long v)) ∧ (∃ v : Int64, Fld Z h x "com/example/hetman/hetman/peer/ArrivalEstimator" "lastOnTimeNanos" "J" (.long v)) ∧
  (∃ vo : List Value, Arv Z h o ko .long z vo (.long (0 : Int64)) ∧ 0 < vo.length) ∧ Arv Z h t kt .long z vt (.long (0 : Int64)) ∧ 0 < vt.length ∧ x ≠ o ∧ x ≠ t ∧ o ≠ t
def Q2 (Z : State) (h0 : Heap) (n0 : Nat) (v : Option Value) (h : Heap) (L : List Loc) : Prop := v = none ∧ Fr n0 L ∧ h = h0
theorem ef_rm2 (m : MethodId) (x0 : Addr) : entryFrame m #[(.ref x0)] 1 = mkF m 0 #[.val (.ref x0)] [] := by first | (simp [entryFrame, mkF, argsToLocals, Value.category]; done) | rfl
theorem pn_java_lang_Record : plainName "java/lang/Record" = true := by first | (simp [plainName, overriddenIn]; done) | decide +kernel
theorem d2_0 : decode jdk_30_method_1_code 0 = .ok (.aload_n 0, 1) := by decide +kernel
theorem d2_1 : decode jdk_30_method_1_code 1 = .ok (.invokespecial 1, 3) := by decide +kernel
theorem d2_4 : decode jdk_30_method_1_code 4 = .ok (.return_, 1) := by decide +kernel
set_option maxRecDepth 65536 in
set_option maxHeartbeats 40000000 in
theorem rm2 (l : Launch) (Z : State) (a0 : Array Value) (hw : ∀ d ∈ tables_1, d.before a0 Z = true) (ws : List Jvm.Cond) (r0 : Addr) (h0 : Heap) (n0 : Nat) (Z0 : n0 ≤ h0.size) :
    MetFree l (⟨"java/lang/Record", "<init>", "()V"⟩ : MethodName) (head1 (Jvm.Cond.code (⟨"java/lang/Record", "<init>", "()V"⟩ : MethodName) jdk_30_method_1_code 1 none :: ws) ({ frames := 1, cells := 0, slots := 0, locals := 12 } : Room)) (fun aX UX => aX = #[(.ref r0)] ∧ Z.Warmed39 UX.vm ∧ UX.heap = h0) (fun _ _ _ _ _ => True) (fun _ UX oX UX' => ∃ vX LX, oX = .returned vX ∧ Q2 Z  h0 n0 vX UX'.heap LX ∧ FrameEnd UX oX UX' LX ({ frames := 1, cells := 0, slots := 0, locals := 12 } : Room).cells ({ frames := 1, cells := 0, slots := 0, locals := 12 } : Room).slots) := by
  refine MetFree.of_bodySF (plainFor_of_name pn_java_lang_Record) hisR ?_
  intro p e s m args below meth c s₁ Bd hml0 hP hK
  obtain ⟨rfl, hZ, hh⟩ := hP
  have hx := Bd.exec
  have hby := Bd.bytes
  have hml : c.maxLocals = 1 := hml0
  have hown : s.vm.findClass "java/lang/Record" = some m.cls := findClass_of_methodNamed Bd.named
  have hnm := (name_of_methodNamed Bd.named Bd.method).1
  have X0 : Stand p l e ({ frames := 1, cells := 0, slots := 0, locals := 12 } : Room) s m #[(.ref r0)] below meth c s₁ [] 0 0 := Stand.of_body Bd
  have e0 : s₁.heap = h0 := by rw [← hh, Bd.state]; rfl
  have N0 := Fr.nil n0
  show own_Comes p e below s ({ frames := 1, cells := 0, slots := 0, locals := 12 } : Room).cells ({ frames := 1, cells := 0, slots := 0, locals := 12 } : Room).slots (Q2 Z  h0 n0) _
  rw [show entryFrame m #[(.ref r0)] 1 = mkF m 0 #[.val (.ref r0)] [] from ef_rm2 m r0]
  show own_Comes p e below s _ _ _ (s₁.setTop (mkF m 0 #[.val (.ref r0)] []))
  refine own_by (fun _ kS => XS.aloadN X0.here hx rfl (hb hby d2_0) rfl rfl kS) ?_
  show own_Comes p e below s _ _ _ (s₁.setTop (mkF m 1 #[.val (.ref r0)] [(.ref r0)]))
  obtain ⟨T1, X1, e1, st1⟩ := initO X0 hx hZ hown (hw _ (List.mem_of_getElem? (i := 18) rfl)) (hw _ (List.mem_of_getElem? (i := 19) rfl)) (hw _ (List.mem_of_getElem? (i := 20) rfl)) e0 (g := (mkF m 1 #[.val (.ref r0)] [(.ref r0)])) rfl (by rw [hml]; rfl) rfl (hb hby d2_1) (by decide) (W := 0) (by show 2 * 0 + _ ≤ _; exact Nat.le_of_eq rfl) (by decide)
  refine own_by st1 ?_
  show own_Comes p e below s _ _ _ (T1.setTop (mkF m 4 #[.val (.ref r0)] []))
  refine own_ret X1 (v := none) (fun _ => rfl) Bd.notSynchronized (by decide) (by decide) ?_ (fun fs hr => X1.returnOut hx Bd.returns (hb hby d2_4) hr)
  rw [e1]; exact ⟨rfl, N0, rfl⟩
def Q1 (Z : State) (r0 : Addr) (q1 q2 : Int64) (h0 : Heap) (n0 : Nat) (v : Option Value) (h : Heap) (L : List Loc) : Prop := v = none ∧ Fr n0 L ∧ Keep h0 h [r0] ∧ Fld Z h r0 "com/example/hetman/hetman/HeartbeatTiming" "periodMs" "J" (.long q1) ∧ Fld Z h r0 "com/example/hetman/hetman/HeartbeatTiming" "marginMs" "J" (.long q2)
theorem ef_rm1 (m : MethodId) (x0 : Addr) (x1 : Int64) (x2 : Int64) : entryFrame m #[(.ref x0), (.long x1), (.long x2)] 5 = mkF m 0 #[.val (.ref x0), .val (.long x1), .second, .val (.long x2), .second] [] := by first | (simp [entryFrame, mkF, argsToLocals, Value.category]; done) | rfl
theorem pn_com_example_hetman_hetman_HeartbeatTiming : plainName "com/example/hetman/hetman/HeartbeatTiming" = true := by first | (simp [plainName, overriddenIn]; done) | decide +kernel
theorem d1_0 : decode prog_4_method_1_code 0 = .ok (.aload_n 0, 1) := by decide +kernel
theorem pd___V_167 : parseMethodDescriptor "()V" = some ⟨[], none⟩ := by decide +kernel
theorem d1_1 : decode prog_4_method_1_code 1 = .ok (.invokespecial 1, 3) := by decide +kernel
theorem d1_4 : decode prog_4_method_1_code 4 = .ok (.lload_n 1, 1) := by decide +kernel
theorem d1_5 : decode prog_4_method_1_code 5 = .ok (.lconst 1, 1) := by decide +kernel
theorem d1_6 : decode prog_4_method_1_code 6 = .ok (.lcmp, 1) := by decide +kernel
theorem d1_7 : decode prog_4_method_1_code 7 = .ok (.ifCond .ge 17, 3) := by decide +kernel
theorem d1_24 : decode prog_4_method_1_code 24 = .ok (.lload_n 3, 1) := by decide +kernel
theorem d1_25 : decode prog_4_method_1_code 25 = .ok (.lconst 0, 1) := by decide +kernel
theorem d1_26 : decode prog_4_method_1_code 26 = .ok (.lcmp, 1) := by decide +kernel
theorem d1_27 : decode prog_4_method_1_code 27 = .ok (.ifCond .ge 17, 3) := by decide +kernel
theorem d1_44 : decode prog_4_method_1_code 44 = .ok (.lload_n 1, 1) := by decide +kernel
theorem d1_45 : decode prog_4_method_1_code 45 = .ok (.ldc2_w 19, 3) := by decide +kernel
theorem d1_48 : decode prog_4_method_1_code 48 = .ok (.lcmp, 1) := by decide +kernel
theorem d1_49 : decode prog_4_method_1_code 49 = .ok (.ifCond .gt 13, 3) := by decide +kernel
theorem d1_52 : decode prog_4_method_1_code 52 = .ok (.lload_n 3, 1) := by decide +kernel
theorem d1_53 : decode prog_4_method_1_code 53 = .ok (.ldc2_w 19, 3) := by decide +kernel
theorem d1_56 : decode prog_4_method_1_code 56 = .ok (.lload_n 1, 1) := by decide +kernel
theorem d1_57 : decode prog_4_method_1_code 57 = .ok (.lsub, 1) := by decide +kernel
theorem d1_58 : decode prog_4_method_1_code 58 = .ok (.lcmp, 1) := by decide +kernel
theorem d1_59 : decode prog_4_method_1_code 59 = .ok (.ifCond .le 18, 3) := by decide +kernel
theorem d1_77 : decode prog_4_method_1_code 77 = .ok (.aload_n 0, 1) := by decide +kernel
theorem d1_78 : decode prog_4_method_1_code 78 = .ok (.lload_n 1, 1) := by decide +kernel
theorem d1_79 : decode prog_4_method_1_code 79 = .ok (.putfield 24, 3) := by decide +kernel
theorem d1_82 : decode prog_4_method_1_code 82 = .ok (.aload_n 0, 1) := by decide +kernel
theorem d1_83 : decode prog_4_method_1_code 83 = .ok (.lload_n 3, 1) := by decide +kernel
theorem d1_84 : decode prog_4_method_1_code 84 = .ok (.putfield 28, 3) := by decide +kernel
theorem d1_87 : decode prog_4_method_1_code 87 = .ok (.return_, 1) := by decide +kernel
set_option maxRecDepth 65536 in
set_option maxHeartbeats 40000000 in
theorem rm1 (l : Launch) (Z : State) (a0 : Array Value) (hw : ∀ d ∈ tables_1, d.before a0 Z = true) (ws : List Jvm.Cond) (r0 : Addr) (q1 q2 : Int64) (v1 v2 : Value) (h0 : Heap) (n0 : Nat) (Z0 : n0 ≤ h0.size) (Et : Exa Z h0 r0 "com/example/hetman/hetman/HeartbeatTiming") (Fp : Fld Z h0 r0 "com/example/hetman/hetman/HeartbeatTiming" "periodMs" "J" v1) (Fm : Fld Z h0 r0 "com/example/hetman/hetman/HeartbeatTiming" "marginMs" "J" v2) (g_r0 : n0 ≤ r0) (k1 : ¬ q1 < (1 : Int64)) (k2 : ¬ q2 < (0 : Int64)) (k3 : ¬ (3600000 : Int64) < q1) (k4 : ¬ ((3600000 : Int64) - q1) < q2) :
    MetFree l (⟨"com/example/hetman/hetman/HeartbeatTiming", "<init>", "(JJ)V"⟩ : MethodName) (head1 (Jvm.Cond.code (⟨"com/example/hetman/hetman/HeartbeatTiming", "<init>", "(JJ)V"⟩ : MethodName) prog_4_method_1_code 5 none :: ws) ({ frames := 2, cells := 0, slots := 0, locals := 24 } : Room)) (fun aX UX => aX = #[(.ref r0), (.long q1), (.long q2)] ∧ Z.Warmed39 UX.vm ∧ UX.heap = h0) (fun _ _ _ _ _ => True) (fun _ UX oX UX' => ∃ vX LX, oX = .returned vX ∧ Q1 Z r0 q1 q2 h0 n0 vX UX'.heap LX ∧ FrameEnd UX oX UX' LX ({ frames := 2, cells := 0, slots := 0, locals := 24 } : Room).cells ({ frames := 2, cells := 0, slots := 0, locals := 24 } : Room).slots) := by
  refine MetFree.of_bodySF (plainFor_of_name pn_com_example_hetman_hetman_HeartbeatTiming) hisR ?_
  intro p e s m args below meth c s₁ Bd hml0 hP hK
  obtain ⟨rfl, hZ, hh⟩ := hP
  have hx := Bd.exec
  have hby := Bd.bytes
  have hml : c.maxLocals = 5 := hml0
  have hown : s.vm.findClass "com/example/hetman/hetman/HeartbeatTiming" = some m.cls := findClass_of_methodNamed Bd.named
  have hnm := (name_of_methodNamed Bd.named Bd.method).1
  have X0 : Stand p l e ({ frames := 2, cells := 0, slots := 0, locals := 24 } : Room) s m #[(.ref r0), (.long q1), (.long q2)] below meth c s₁ [] 0 0 := Stand.of_body Bd
  have e0 : s₁.heap = h0 := by rw [← hh, Bd.state]; rfl
  have N0 := Fr.nil n0
  show own_Comes p e below s ({ frames := 2, cells := 0, slots := 0, locals := 24 } : Room).cells ({ frames := 2, cells := 0, slots := 0, locals := 24 } : Room).slots (Q1 Z r0 q1 q2 h0 n0) _
  rw [show entryFrame m #[(.ref r0), (.long q1), (.long q2)] 5 = mkF m 0 #[.val (.ref r0), .val (.long q1), .second, .val (.long q2), .second] [] from ef_rm1 m r0 q1 q2]
  show own_Comes p e below s _ _ _ (s₁.setTop (mkF m 0 #[.val (.ref r0), .val (.long q1), .second, .val (.long q2), .second] []))
  refine own_by (fun _ kS => XS.aloadN X0.here hx rfl (hb hby d1_0) rfl rfl kS) ?_
  show own_Comes p e below s _ _ _ (s₁.setTop (mkF m 1 #[.val (.ref r0), .val (.long q1), .second, .val (.long q2), .second] [(.ref r0)]))
  obtain ⟨_, _, ⟨T2, L2, k2, n2⟩, -, X2, ⟨Lc2, hQ2, l2, y2, z2⟩, st2⟩ := X0.specialBack hx (y := (⟨"java/lang/Record", "<init>", "()V"⟩ : MethodName)) rfl hown (mvT hZ (hw _ (List.mem_of_getElem? (i := 13) rfl))) (mvT hZ (hw _ (List.mem_of_getElem? (i := 14) rfl))) (mvT hZ (hw _ (List.mem_of_getElem? (i := 17) rfl))) (by decide) (backOf (W := 0) (rm2 l Z a0 hw [] r0 h0 n0 Z0) hZ (hw _ (List.mem_of_getElem? (i := 17) rfl)) (hw _ (List.mem_of_getElem? (i := 16) rfl)) (by decide) (by decide)) (g := (mkF m 1 #[.val (.ref r0), .val (.long q1), .second, .val (.long q2), .second] [(.ref r0)])) rfl (by rw [hml]; rfl) (Steps.refl _) (a := r0) (argsL := []) (rest := []) (lenOf pd___V_167 rfl) rfl (by show 2 * 0 + _ ≤ _; exact Nat.le_of_eq rfl) (hb hby d1_1) (fun _ _ => ⟨rfl, e0, (by decide : 0 + 0 ≤ _), (by decide : 0 + 0 ≤ _)⟩)
  dsimp only [Pt.U, Pt.locs, Pt.cells, Pt.slots] at X2 l2 y2 z2 st2 hQ2
  subst l2 y2 z2
  obtain ⟨rfl, N2q, e2q⟩ := hQ2
  have N2 := Fr.app N0 N2q
  refine own_tr st2 ?_
  have e2 : T2.heap = h0 := e2q
  show own_Comes p e below s _ _ _ (T2.setTop (mkF m 4 #[.val (.ref r0), .val (.long q1), .second, .val (.long q2), .second] []))
  refine own_by (fun _ kS => XS.lloadN X2.here hx rfl (hb hby d1_4) rfl kS) ?_
  show own_Comes p e below s _ _ _ (T2.setTop (mkF m 5 #[.val (.ref r0), .val (.long q1), .second, .val (.long q2), .second] [(.long q1)]))
  refine own_by (fun _ kS => XS.lconst X2.here hx rfl (hb hby d1_5) kS) ?_
  show own_Comes p e below s _ _ _ (T2.setTop (mkF m 6 #[.val (.ref r0), .val (.long q1), .second, .val (.long q2), .second] [(.long (1 : Int64)), (.long q1)]))
  refine own_by (fun _ kS => XS.lcmp X2.here hx rfl (hb hby d1_6) rfl kS) ?_
  show own_Comes p e below s _ _ _ (T2.setTop (mkF m 7 #[.val (.ref r0), .val (.long q1), .second, .val (.long q2), .second] [(.int (lcmpW q1 (1 : Int64)))]))
  have hb3 : ¬ ((lcmpW q1 (1 : Int64)) < (0 : Int32)) := fun h => k1 ((lw_lt _ _).mp h)
  refine own_by (fun _ kS => XS.ifYes X2.here hx rfl (pc0 := 7) (pc' := 24) rfl (hb hby d1_7) rfl ((if0 _ _).trans (flt hb3).2.1) (by decide) (by decide) kS) ?_
  show own_Comes p e below s _ _ _ (T2.setTop (mkF m 24 #[.val (.ref r0), .val (.long q1), .second, .val (.long q2), .second] []))
  refine own_by (fun _ kS => XS.lloadN X2.here hx rfl (hb hby d1_24) rfl kS) ?_
  show own_Comes p e below s _ _ _ (T2.setTop (mkF m 25 #[.val (.ref r0), .val (.long q1), .second, .val (.long q2), .second] [(.long q2)]))
  refine own_by (fun _ kS => XS.lconst X2.here hx rfl (hb hby d1_25) kS) ?_
  show own_Comes p e below s _ _ _ (T2.setTop (mkF m 26 #[.val (.ref r0), .val (.long q1), .second, .val (.long q2), .second] [(.long (0 : Int64)), (.long q2)]))
  refine own_by (fun _ kS => XS.lcmp X2.here hx rfl (hb hby d1_26) rfl kS) ?_
  show own_Comes p e below s _ _ _ (T2.setTop (mkF m 27 #[.val (.ref r0), .val (.long q1), .second, .val (.long q2), .second] [(.int (lcmpW q2 (0 : Int64)))]))
  have hb4 : ¬ ((lcmpW q2 (0 : Int64)) < (0 : Int32)) := fun h => k2 ((lw_lt _ _).mp h)
  refine own_by (fun _ kS => XS.ifYes X2.here hx rfl (pc0 := 27) (pc' := 44) rfl (hb hby d1_27) rfl ((if0 _ _).trans (flt hb4).2.1) (by decide) (by decide) kS) ?_
  show own_Comes p e below s _ _ _ (T2.setTop (mkF m 44 #[.val (.ref r0), .val (.long q1), .second, .val (.long q2), .second] []))
  refine own_by (fun _ kS => XS.lloadN X2.here hx rfl (hb hby d1_44) rfl kS) ?_
  show own_Comes p e below s _ _ _ (T2.setTop (mkF m 45 #[.val (.ref r0), .val (.long q1), .second, .val (.long q2), .second] [(.long q1)]))
  refine own_by (fun _ kS => X2.ldc2Long hx hown (mvT hZ (hw _ (List.mem_of_getElem? (i := 21) rfl))) (g := (mkF m 45 #[.val (.ref r0), .val (.long q1), .second, .val (.long q2), .second] [(.long q1)])) rfl (hb hby d1_45) _ kS) ?_
  show own_Comes p e below s _ _ _ (T2.setTop (mkF m 48 #[.val (.ref r0), .val (.long q1), .second, .val (.long q2), .second] [(.long (3600000 : Int64)), (.long q1)]))
  refine own_by (fun _ kS => XS.lcmp X2.here hx rfl (hb hby d1_48) rfl kS) ?_
  show own_Comes p e below s _ _ _ (T2.setTop (mkF m 49 #[.val (.ref r0), .val (.long q1), .second, .val (.long q2), .second] [(.int (lcmpW q1 (3600000 : Int64)))]))
  have hb5 : ¬ ((0 : Int32) < (lcmpW q1 (3600000 : Int64))) := fun h => k3 ((lw_gt _ _).mp h)
  refine own_by (fun _ kS => XS.ifNo X2.here hx rfl (hb hby d1_49) rfl ((if0 _ _).trans (flt hb5).2.2.1) kS) ?_
  show own_Comes p e below s _ _ _ (T2.setTop (mkF m 52 #[.val (.ref r0), .val (.long q1), .second, .val (.long q2), .second] []))
  refine own_by (fun _ kS => XS.lloadN X2.here hx rfl (hb hby d1_52) rfl kS) ?_
  show own_Comes p e below s _ _ _ (T2.setTop (mkF m 53 #[.val (.ref r0), .val (.long q1), .second, .val (.long q2), .second] [(.long q2)]))
  refine own_by (fun _ kS => X2.ldc2Long hx hown (mvT hZ (hw _ (List.mem_of_getElem? (i := 21) rfl))) (g := (mkF m 53 #[.val (.ref r0), .val (.long q1), .second, .val (.long q2), .second] [(.long q2)])) rfl (hb hby d1_53) _ kS) ?_
  show own_Comes p e below s _ _ _ (T2.setTop (mkF m 56 #[.val (.ref r0), .val (.long q1), .second, .val (.long q2), .second] [(.long (3600000 : Int64)), (.long q2)]))
  refine own_by (fun _ kS => XS.lloadN X2.here hx rfl (hb hby d1_56) rfl kS) ?_
  show own_Comes p e below s _ _ _ (T2.setTop (mkF m 57 #[.val (.ref r0), .val (.long q1), .second, .val (.long q2), .second] [(.long q1), (.long (3600000 : Int64)), (.long q2)]))
  refine own_by (fun _ kS => XS.lsub X2.here hx rfl (hb hby d1_57) rfl kS) ?_
  show own_Comes p e below s _ _ _ (T2.setTop (mkF m 58 #[.val (.ref r0), .val (.long q1), .second, .val (.long q2), .second] [(.long ((3600000 : Int64) - q1)), (.long q2)]))
  refine own_by (fun _ kS => XS.lcmp X2.here hx rfl (hb hby d1_58) rfl kS) ?_
  show own_Comes p e below s _ _ _ (T2.setTop (mkF m 59 #[.val (.ref r0), .val (.long q1), .second, .val (.long q2), .second] [(.int (lcmpW q2 ((3600000 : Int64) - q1)))]))
  have hb6 : ¬ ((0 : Int32) < (lcmpW q2 ((3600000 : Int64) - q1))) := fun h => k4 ((lw_gt _ _).mp h)
  refine own_by (fun _ kS => XS.ifYes X2.here hx rfl (pc0 := 59) (pc' := 77) rfl (hb hby d1_59) rfl ((if0 _ _).trans (flt hb6).2.2.2) (by decide) (by decide) kS) ?_
  show own_Comes p e below s _ _ _ (T2.setTop (mkF m 77 #[.val (.ref r0), .val (.long q1), .second, .val (.long q2), .second] []))
  refine own_by (fun _ kS => XS.aloadN X2.here hx rfl (hb hby d1_77) rfl rfl kS) ?_
  show own_Comes p e below s _ _ _ (T2.setTop (mkF m 78 #[.val (.ref r0), .val (.long q1), .second, .val (.long q2), .second] [(.ref r0)]))
  refine own_by (fun _ kS => XS.lloadN X2.here hx rfl (hb hby d1_78) rfl kS) ?_
  show own_Comes p e below s _ _ _ (T2.setTop (mkF m 79 #[.val (.ref r0), .val (.long q1), .second, .val (.long q2), .second] [(.long q1), (.ref r0)]))
  obtain ⟨T7, h7, X7, e7, W7, st7⟩ := putF X2 hx hZ hown (host := "") (Or.inl (hw _ (List.mem_of_getElem? (i := 22) rfl))) Via.refl e2 Fp Et (Or.inr ⟨(hw _ (List.mem_of_getElem? (i := 23) rfl)), rfl, hnm⟩) (hw _ (List.mem_of_getElem? (i := 8) rfl)) (ty := .long) (by decide) rfl rfl (g := (mkF m 79 #[.val (.ref r0), .val (.long q1), .second, .val (.long q2), .second] [(.long q1), (.ref r0)])) rfl rfl (hb hby d1_79)
  refine own_by st7 ?_
  have Fw7 := Fp.same W7
  have N7 := Fr.snoc X7 N2 g_r0
  show own_Comes p e below s _ _ _ (T7.setTop (mkF m 82 #[.val (.ref r0), .val (.long q1), .second, .val (.long q2), .second] []))
  refine own_by (fun _ kS => XS.aloadN X7.here hx rfl (hb hby d1_82) rfl rfl kS) ?_
  show own_Comes p e below s _ _ _ (T7.setTop (mkF m 83 #[.val (.ref r0), .val (.long q1), .second, .val (.long q2), .second] [(.ref r0)]))
  refine own_by (fun _ kS => XS.lloadN X7.here hx rfl (hb hby d1_83) rfl kS) ?_
  show own_Comes p e below s _ _ _ (T7.setTop (mkF m 84 #[.val (.ref r0), .val (.long q1), .second, .val (.long q2), .second] [(.long q2), (.ref r0)]))
  have c8 := (Fm.other W7 (Or.inr (slot_ne (Or.inr (hw _ (List.mem_of_getElem? (i := 25) rfl))) (Or.inr (hw _ (List.mem_of_getElem? (i := 23) rfl))) (by decide) (t := .long) (t' := .long) (by decide) (by decide))))
  obtain ⟨T9, h9, X9, e9, W9, st9⟩ := putF X7 hx hZ hown (host := "") (Or.inl (hw _ (List.mem_of_getElem? (i := 24) rfl))) Via.refl e7 c8 (Et.wr W7) (Or.inr ⟨(hw _ (List.mem_of_getElem? (i := 25) rfl)), rfl, hnm⟩) (hw _ (List.mem_of_getElem? (i := 8) rfl)) (ty := .long) (by decide) rfl rfl (g := (mkF m 84 #[.val (.ref r0), .val (.long q1), .second, .val (.long q2), .second] [(.long q2), (.ref r0)])) rfl rfl (hb hby d1_84)
  refine own_by st9 ?_
  have Fw9 := c8.same W9
  have N9 := Fr.snoc X9 N7 g_r0
  show own_Comes p e below s _ _ _ (T9.setTop (mkF m 87 #[.val (.ref r0), .val (.long q1), .second, .val (.long q2), .second] []))
  have c10 := (Fw7.other W9 (Or.inr (slot_ne (Or.inr (hw _ (List.mem_of_getElem? (i := 23) rfl))) (Or.inr (hw _ (List.mem_of_getElem? (i := 25) rfl))) (by decide) (t := .long) (t' := .long) (by decide) (by decide))))
  refine own_ret X9 (v := none) (fun _ => rfl) Bd.notSynchronized (by decide) (by decide) ?_ (fun fs hr => X9.returnOut hx Bd.returns (hb hby d1_87) hr)
  rw [e9]; exact ⟨rfl, N9, (((Keep.refl _ _).wr W7 (Or.inl (List.mem_of_getElem? (i := 0) rfl))).wr W9 (Or.inl (List.mem_of_getElem? (i := 0) rfl))), c10, Fw9⟩
def Q5 (Z : State) (v0 : Int64) (h0 : Heap) (n0 : Nat) (v : Option Value) (h : Heap) (L : List Loc) : Prop := v = some (.long v0) ∧ Fr n0 L ∧ h = h0
theorem ef_rm5 (m : MethodId) (x0 : Addr) : entryFrame m #[(.ref x0)] 1 = mkF m 0 #[.val (.ref x0)] [] := by first | (simp [entryFrame, mkF, argsToLocals, Value.category]; done) | rfl
theorem d5_0 : decode prog_4_method_6_code 0 = .ok (.aload_n 0, 1) := by decide +kernel
theorem d5_1 : decode prog_4_method_6_code 1 = .ok (.getfield 24, 3) := by decide +kernel
theorem d5_4 : decode prog_4_method_6_code 4 = .ok (.lreturn, 1) := by decide +kernel
set_option maxRecDepth 65536 in
set_option maxHeartbeats 40000000 in
theorem rm5 (l : Launch) (Z : State) (a0 : Array Value) (hw : ∀ d ∈ tables_1, d.before a0 Z = true) (ws : List Jvm.Cond) (r0 : Addr) (v0 : Int64) (h0 : Heap) (n0 : Nat) (Z0 : n0 ≤ h0.size) (Ff : Fld Z h0 r0 "com/example/hetman/hetman/HeartbeatTiming" "periodMs" "J" (.long v0)) :
    MetFree l (⟨"com/example/hetman/hetman/HeartbeatTiming", "periodMs", "()J"⟩ : MethodName) (head1 (Jvm.Cond.code (⟨"com/example/hetman/hetman/HeartbeatTiming", "periodMs", "()J"⟩ : MethodName) prog_4_method_6_code 1 (some .long) :: ws) ({ frames := 0, cells := 0, slots := 0, locals := 0 } : Room)) (fun aX UX => aX = #[(.ref r0)] ∧ Z.Warmed39 UX.vm ∧ UX.heap = h0) (fun _ _ _ _ _ => True) (fun _ UX oX UX' => ∃ vX LX, oX = .returned vX ∧ Q5 Z v0 h0 n0 vX UX'.heap LX ∧ FrameEnd UX oX UX' LX ({ frames := 0, cells := 0, slots := 0, locals := 0 } : Room).cells ({ frames := 0, cells := 0, slots := 0, locals := 0 } : Room).slots) := by
  refine MetFree.of_bodySF (plainFor_of_name pn_com_example_hetman_hetman_HeartbeatTiming) hisR ?_
  intro p e s m args below meth c s₁ Bd hml0 hP hK
  obtain ⟨rfl, hZ, hh⟩ := hP
  have hx := Bd.exec
  have hby := Bd.bytes
  have hml : c.maxLocals = 1 := hml0
  have hown : s.vm.findClass "com/example/hetman/hetman/HeartbeatTiming" = some m.cls := findClass_of_methodNamed Bd.named
  have hnm := (name_of_methodNamed Bd.named Bd.method).1
  have X0 : Stand p l e ({ frames := 0, cells := 0, slots := 0, locals := 0 } : Room) s m #[(.ref r0)] below meth c s₁ [] 0 0 := Stand.of_body Bd
  have e0 : s₁.heap = h0 := by rw [← hh, Bd.state]; rfl
  have N0 := Fr.nil n0
  show own_Comes p e below s ({ frames := 0, cells := 0, slots := 0, locals := 0 } : Room).cells ({ frames := 0, cells := 0, slots := 0, locals := 0 } : Room).slots (Q5 Z v0 h0 n0) _
  rw [show entryFrame m #[(.ref r0)] 1 = mkF m 0 #[.val (.ref r0)] [] from ef_rm5 m r0]
  show own_Comes p e below s _ _ _ (s₁.setTop (mkF m 0 #[.val (.ref r0)] []))
  refine own_by (fun _ kS => XS.aloadN X0.here hx rfl (hb hby d5_0) rfl rfl kS) ?_
  show own_Comes p e below s _ _ _ (s₁.setTop (mkF m 1 #[.val (.ref r0)] [(.ref r0)]))
  obtain ⟨T11, X11, e11, st11⟩ := getF X0 hx hZ hown (host := "") (Or.inl (hw _ (List.mem_of_getElem? (i := 22) rfl))) Via.refl e0 Ff (g := (mkF m 1 #[.val (.ref r0)] [(.ref r0)])) rfl rfl (hb hby d5_1)
  refine own_by st11 ?_
  show own_Comes p e below s _ _ _ (T11.setTop (mkF m 4 #[.val (.ref r0)] [(.long v0)]))
  refine own_ret X11 (v := some (.long v0)) (fun h => by rw [Bd.returns] at h; cases h) Bd.notSynchronized (by decide) (by decide) ?_ (fun fs hr => X11.lreturnOut hx Bd.returns (hb hby d5_4) hr)
  rw [e11]; exact ⟨rfl, N0, rfl⟩
def Q7 (Z : State) (v0 : Int64) (h0 : Heap) (n0 : Nat) (v : Option Value) (h : Heap) (L : List Loc) : Prop := v = some (.long v0) ∧ Fr n0 L ∧ h = h0
theorem ef_rm7 (m : MethodId) (x0 : Addr) : entryFrame m #[(.ref x0)] 1 = mkF m 0 #[.val (.ref x0)] [] := by first | (simp [entryFrame, mkF, argsToLocals, Value.category]; done) | rfl
theorem d7_0 : decode prog_4_method_7_code 0 = .ok (.aload_n 0, 1) := by decide +kernel
theorem d7_1 : decode prog_4_method_7_code 1 = .ok (.getfield 28, 3) := by decide +kernel
theorem d7_4 : decode prog_4_method_7_code 4 = .ok (.lreturn, 1) := by decide +kernel
set_option maxRecDepth 65536 in
set_option maxHeartbeats 40000000 in
theorem rm7 (l : Launch) (Z : State) (a0 : Array Value) (hw : ∀ d ∈ tables_1, d.before a0 Z = true) (ws : List Jvm.Cond) (r0 : Addr) (v0 : Int64) (h0 : Heap) (n0 : Nat) (Z0 : n0 ≤ h0.size) (Ff : Fld Z h0 r0 "com/example/hetman/hetman/HeartbeatTiming" "marginMs" "J" (.long v0)) :
    MetFree l (⟨"com/example/hetman/hetman/HeartbeatTiming", "marginMs", "()J"⟩ : MethodName) (head1 (Jvm.Cond.code (⟨"com/example/hetman/hetman/HeartbeatTiming", "marginMs", "()J"⟩ : MethodName) prog_4_method_7_code 1 (some .long) :: ws) ({ frames := 0, cells := 0, slots := 0, locals := 0 } : Room)) (fun aX UX => aX = #[(.ref r0)] ∧ Z.Warmed39 UX.vm ∧ UX.heap = h0) (fun _ _ _ _ _ => True) (fun _ UX oX UX' => ∃ vX LX, oX = .returned vX ∧ Q7 Z v0 h0 n0 vX UX'.heap LX ∧ FrameEnd UX oX UX' LX ({ frames := 0, cells := 0, slots := 0, locals := 0 } : Room).cells ({ frames := 0, cells := 0, slots := 0, locals := 0 } : Room).slots) := by
  refine MetFree.of_bodySF (plainFor_of_name pn_com_example_hetman_hetman_HeartbeatTiming) hisR ?_
  intro p e s m args below meth c s₁ Bd hml0 hP hK
  obtain ⟨rfl, hZ, hh⟩ := hP
  have hx := Bd.exec
  have hby := Bd.bytes
  have hml : c.maxLocals = 1 := hml0
  have hown : s.vm.findClass "com/example/hetman/hetman/HeartbeatTiming" = some m.cls := findClass_of_methodNamed Bd.named
  have hnm := (name_of_methodNamed Bd.named Bd.method).1
  have X0 : Stand p l e ({ frames := 0, cells := 0, slots := 0, locals := 0 } : Room) s m #[(.ref r0)] below meth c s₁ [] 0 0 := Stand.of_body Bd
  have e0 : s₁.heap = h0 := by rw [← hh, Bd.state]; rfl
  have N0 := Fr.nil n0
  show own_Comes p e below s ({ frames := 0, cells := 0, slots := 0, locals := 0 } : Room).cells ({ frames := 0, cells := 0, slots := 0, locals := 0 } : Room).slots (Q7 Z v0 h0 n0) _
  rw [show entryFrame m #[(.ref r0)] 1 = mkF m 0 #[.val (.ref r0)] [] from ef_rm7 m r0]
  show own_Comes p e below s _ _ _ (s₁.setTop (mkF m 0 #[.val (.ref r0)] []))
  refine own_by (fun _ kS => XS.aloadN X0.here hx rfl (hb hby d7_0) rfl rfl kS) ?_
  show own_Comes p e below s _ _ _ (s₁.setTop (mkF m 1 #[.val (.ref r0)] [(.ref r0)]))
  obtain ⟨T12, X12, e12, st12⟩ := getF X0 hx hZ hown (host := "") (Or.inl (hw _ (List.mem_of_getElem? (i := 24) rfl))) Via.refl e0 Ff (g := (mkF m 1 #[.val (.ref r0)] [(.ref r0)])) rfl rfl (hb hby d7_1)
  refine own_by st12 ?_
  show own_Comes p e below s _ _ _ (T12.setTop (mkF m 4 #[.val (.ref r0)] [(.long v0)]))
  refine own_ret X12 (v := some (.long v0)) (fun h => by rw [Bd.returns] at h; cases h) Bd.notSynchronized (by decide) (by decide) ?_ (fun fs hr => X12.lreturnOut hx Bd.returns (hb hby d7_4) hr)
  rw [e12]; exact ⟨rfl, N0, rfl⟩
def Q9 (Z : State) (v0 : Int64) (h0 : Heap) (n0 : Nat) (v : Option Value) (h : Heap) (L : List Loc) : Prop := v = some (.long v0) ∧ Fr n0 L ∧ h = h0
theorem ef_rm9 (m : MethodId) (x0 : Addr) : entryFrame m #[(.ref x0)] 1 = mkF m 0 #[.val (.ref x0)] [] := by first | (simp [entryFrame, mkF, argsToLocals, Value.category]; done) | rfl
theorem pn_com_example_hetman_hetman_peer_ArrivalEstimator : plainName "com/example/hetman/hetman/peer/ArrivalEstimator" = true := by first | (simp [plainName, overriddenIn]; done) | decide +kernel
theorem d9_0 : decode prog_32_method_3_code 0 = .ok (.aload_n 0, 1) := by decide +kernel
theorem d9_1 : decode prog_32_method_3_code 1 = .ok (.getfield 49, 3) := by decide +kernel
theorem d9_4 : decode prog_32_method_3_code 4 = .ok (.lreturn, 1) := by decide +kernel
set_option maxRecDepth 65536 in
set_option maxHeartbeats 40000000 in
theorem rm9 (l : Launch) (Z : State) (a0 : Array Value) (hw : ∀ d ∈ tables_1, d.before a0 Z = true) (ws : List Jvm.Cond) (r0 : Addr) (v0 : Int64) (h0 : Heap) (n0 : Nat) (Z0 : n0 ≤ h0.size) (Ff : Fld Z h0 r0 "com/example/hetman/hetman/peer/ArrivalEstimator" "freshnessNanos" "J" (.long v0)) :
    MetFree l (⟨"com/example/hetman/hetman/peer/ArrivalEstimator", "freshnessNanos", "()J"⟩ : MethodName) (head1 (Jvm.Cond.code (⟨"com/example/hetman/hetman/peer/ArrivalEstimator", "freshnessNanos", "()J"⟩ : MethodName) prog_32_method_3_code 1 (some .long) :: ws) ({ frames := 0, cells := 0, slots := 0, locals := 0 } : Room)) (fun aX UX => aX = #[(.ref r0)] ∧ Z.Warmed39 UX.vm ∧ UX.heap = h0) (fun _ _ _ _ _ => True) (fun _ UX oX UX' => ∃ vX LX, oX = .returned vX ∧ Q9 Z v0 h0 n0 vX UX'.heap LX ∧ FrameEnd UX oX UX' LX ({ frames := 0, cells := 0, slots := 0, locals := 0 } : Room).cells ({ frames := 0, cells := 0, slots := 0, locals := 0 } : Room).slots) := by
  refine MetFree.of_bodySF (plainFor_of_name pn_com_example_hetman_hetman_peer_ArrivalEstimator) hisR ?_
  intro p e s m args below meth c s₁ Bd hml0 hP hK
  obtain ⟨rfl, hZ, hh⟩ := hP
  have hx := Bd.exec
  have hby := Bd.bytes
  have hml : c.maxLocals = 1 := hml0
  have hown : s.vm.findClass "com/example/hetman/hetman/peer/ArrivalEstimator" = some m.cls := findClass_of_methodNamed Bd.named
  have hnm := (name_of_methodNamed Bd.named Bd.method).1
  have X0 : Stand p l e ({ frames := 0, cells := 0, slots := 0, locals := 0 } : Room) s m #[(.ref r0)] below meth c s₁ [] 0 0 := Stand.of_body Bd
  have e0 : s₁.heap = h0 := by rw [← hh, Bd.state]; rfl
  have N0 := Fr.nil n0
  show own_Comes p e below s ({ frames := 0, cells := 0, slots := 0, locals := 0 } : Room).cells ({ frames := 0, cells := 0, slots := 0, locals := 0 } : Room).slots (Q9 Z v0 h0 n0) _
  rw [show entryFrame m #[(.ref r0)] 1 = mkF m 0 #[.val (.ref r0)] [] from ef_rm9 m r0]
  show own_Comes p e below s _ _ _ (s₁.setTop (mkF m 0 #[.val (.ref r0)] []))
  refine own_by (fun _ kS => XS.aloadN X0.here hx rfl (hb hby d9_0) rfl rfl kS) ?_
  show own_Comes p e below s _ _ _ (s₁.setTop (mkF m 1 #[.val (.ref r0)] [(.ref r0)]))
  obtain ⟨T13, X13, e13, st13⟩ := getF X0 hx hZ hown (host := "") (Or.inl (hw _ (List.mem_of_getElem? (i := 69) rfl))) Via.refl e0 Ff (g := (mkF m 1 #[.val (.ref r0)] [(.ref r0)])) rfl rfl (hb hby d9_1)
  refine own_by st13 ?_
  show own_Comes p e below s _ _ _ (T13.setTop (mkF m 4 #[.val (.ref r0)] [(.long v0)]))
  refine own_ret X13 (v := some (.long v0)) (fun h => by rw [Bd.returns] at h; cases h) Bd.notSynchronized (by decide) (by decide) ?_ (fun fs hr => X13.lreturnOut hx Bd.returns (hb hby d9_4) hr)
  rw [e13]; exact ⟨rfl, N0, rfl⟩
def Q6 (Z : State) (q1 : Int64) (h0 : Heap) (n0 : Nat) (v : Option Value) (h : Heap) (L : List Loc) : Prop := v = some (.long (q1 * (1000000 : Int64))) ∧ Fr n0 L ∧ h = h0
theorem ef_rm6 (m : MethodId) (x0 : Addr) (x1 : Int64) : entryFrame m #[(.ref x0), (.long x1)] 7 = mkF m 0 #[.val (.ref x0), .val (.long x1), .second, .unset, .unset, .unset, .unset] [] := by first | (simp [entryFrame, mkF, argsToLocals, Value.category]; done) | rfl
theorem pn_java_util_concurrent_TimeUnit : plainName "java/util/concurrent/TimeUnit" = true := by first | (simp [plainName, overriddenIn]; done) | decide +kernel
theorem d6_0 : decode jdk_2799_method_7_code 0 = .ok (.aload_n 0, 1) := by decide +kernel
theorem d6_1 : decode jdk_2799_method_7_code 1 = .ok (.getfield 44, 3) := by decide +kernel
theorem d6_4 : decode jdk_2799_method_7_code 4 = .ok (.dup2, 1) := by decide +kernel
theorem d6_5 : decode jdk_2799_method_7_code 5 = .ok (.lstore_n 3, 1) := by decide +kernel
theorem d6_6 : decode jdk_2799_method_7_code 6 = .ok (.lconst 1, 1) := by decide +kernel
theorem d6_7 : decode jdk_2799_method_7_code 7 = .ok (.lcmp, 1) := by decide +kernel
theorem d6_8 : decode jdk_2799_method_7_code 8 = .ok (.ifCond .ne 5, 3) := by decide +kernel
theorem d6_13 : decode jdk_2799_method_7_code 13 = .ok (.lload_n 1, 1) := by decide +kernel
theorem d6_14 : decode jdk_2799_method_7_code 14 = .ok (.aload_n 0, 1) := by decide +kernel
theorem d6_15 : decode jdk_2799_method_7_code 15 = .ok (.getfield 52, 3) := by decide +kernel
theorem d6_18 : decode jdk_2799_method_7_code 18 = .ok (.dup2, 1) := by decide +kernel
theorem d6_19 : decode jdk_2799_method_7_code 19 = .ok (.lstore 5, 2) := by decide +kernel
theorem d6_21 : decode jdk_2799_method_7_code 21 = .ok (.lcmp, 1) := by decide +kernel
theorem d6_22 : decode jdk_2799_method_7_code 22 = .ok (.ifCond .le 7, 3) := by decide +kernel
theorem d6_29 : decode jdk_2799_method_7_code 29 = .ok (.lload_n 1, 1) := by decide +kernel
theorem d6_30 : decode jdk_2799_method_7_code 30 = .ok (.lload 5, 2) := by decide +kernel
theorem d6_32 : decode jdk_2799_method_7_code 32 = .ok (.lneg, 1) := by decide +kernel
theorem d6_33 : decode jdk_2799_method_7_code 33 = .ok (.lcmp, 1) := by decide +kernel
theorem d6_34 : decode jdk_2799_method_7_code 34 = .ok (.ifCond .ge 7, 3) := by decide +kernel
theorem d6_41 : decode jdk_2799_method_7_code 41 = .ok (.lload_n 1, 1) := by decide +kernel
theorem d6_42 : decode jdk_2799_method_7_code 42 = .ok (.lload_n 3, 1) := by decide +kernel
theorem d6_43 : decode jdk_2799_method_7_code 43 = .ok (.lmul, 1) := by decide +kernel
theorem d6_44 : decode jdk_2799_method_7_code 44 = .ok (.lreturn, 1) := by decide +kernel
set_option maxRecDepth 65536 in
set_option maxHeartbeats 40000000 in
theorem rm6 (l : Launch) (Z : State) (a0 : Array Value) (hw : ∀ d ∈ tables_1, d.before a0 Z = true) (ws : List Jvm.Cond) (r0 : Addr) (q1 : Int64) (h0 : Heap) (n0 : Nat) (Z0 : n0 ≤ h0.size) (Fs : Fld Z h0 r0 "java/util/concurrent/TimeUnit" "scale" "J" (.long (1000000 : Int64))) (Fm : Fld Z h0 r0 "java/util/concurrent/TimeUnit" "maxNanos" "J" (.long (9223372036854 : Int64))) (k1 : ¬ (9223372036854 : Int64) < q1) (k2 : ¬ q1 < (-(9223372036854 : Int64))) :
    MetFree l (⟨"java/util/concurrent/TimeUnit", "toNanos", "(J)J"⟩ : MethodName) (head1 (Jvm.Cond.code (⟨"java/util/concurrent/TimeUnit", "toNanos", "(J)J"⟩ : MethodName) jdk_2799_method_7_code 7 (some .long) :: ws) ({ frames := 0, cells := 0, slots := 0, locals := 0 } : Room)) (fun aX UX => aX = #[(.ref r0), (.long q1)] ∧ Z.Warmed39 UX.vm ∧ UX.heap = h0) (fun _ _ _ _ _ => True) (fun _ UX oX UX' => ∃ vX LX, oX = .returned vX ∧ Q6 Z q1 h0 n0 vX UX'.heap LX ∧ FrameEnd UX oX UX' LX ({ frames := 0, cells := 0, slots := 0, locals := 0 } : Room).cells ({ frames := 0, cells := 0, slots := 0, locals := 0 } : Room).slots) := by
  refine MetFree.of_bodySF (plainFor_of_name pn_java_util_concurrent_TimeUnit) hisR ?_
  intro p e s m args below meth c s₁ Bd hml0 hP hK
  obtain ⟨rfl, hZ, hh⟩ := hP
  have hx := Bd.exec
  have hby := Bd.bytes
  have hml : c.maxLocals = 7 := hml0
  have hown : s.vm.findClass "java/util/concurrent/TimeUnit" = some m.cls := findClass_of_methodNamed Bd.named
  have hnm := (name_of_methodNamed Bd.named Bd.method).1
  have X0 : Stand p l e ({ frames := 0, cells := 0, slots := 0, locals := 0 } : Room) s m #[(.ref r0), (.long q1)] below meth c s₁ [] 0 0 := Stand.of_body Bd
  have e0 : s₁.heap = h0 := by rw [← hh, Bd.state]; rfl
  have N0 := Fr.nil n0
  show own_Comes p e below s ({ frames := 0, cells := 0, slots := 0, locals := 0 } : Room).cells ({ frames := 0, cells := 0, slots := 0, locals := 0 } : Room).slots (Q6 Z q1 h0 n0) _
  rw [show entryFrame m #[(.ref r0), (.long q1)] 7 = mkF m 0 #[.val (.ref r0), .val (.long q1), .second, .unset, .unset, .unset, .unset] [] from ef_rm6 m r0 q1]
  show own_Comes p e below s _ _ _ (s₁.setTop (mkF m 0 #[.val (.ref r0), .val (.long q1), .second, .unset, .unset, .unset, .unset] []))
  refine own_by (fun _ kS => XS.aloadN X0.here hx rfl (hb hby d6_0) rfl rfl kS) ?_
  show own_Comes p e below s _ _ _ (s₁.setTop (mkF m 1 #[.val (.ref r0), .val (.long q1), .second, .unset, .unset, .unset, .unset] [(.ref r0)]))
  obtain ⟨T14, X14, e14, st14⟩ := getF X0 hx hZ hown (host := "") (Or.inl (hw _ (List.mem_of_getElem? (i := 42) rfl))) Via.refl e0 Fs (g := (mkF m 1 #[.val (.ref r0), .val (.long q1), .second, .unset, .unset, .unset, .unset] [(.ref r0)])) rfl rfl (hb hby d6_1)
  refine own_by st14 ?_
  show own_Comes p e below s _ _ _ (T14.setTop (mkF m 4 #[.val (.ref r0), .val (.long q1), .second, .unset, .unset, .unset, .unset] [(.long (1000000 : Int64))]))
  refine own_by (fun _ kS => XT.dup2L X14.here hx rfl (hb hby d6_4) rfl kS) ?_
  show own_Comes p e below s _ _ _ (T14.setTop (mkF m 5 #[.val (.ref r0), .val (.long q1), .second, .unset, .unset, .unset, .unset] [(.long (1000000 : Int64)), (.long (1000000 : Int64))]))
  refine own_by (fun _ kS => XS.lstoreN X14.here hx rfl (hb hby d6_5) rfl (l' := #[.val (.ref r0), .val (.long q1), .second, .val (.long (1000000 : Int64)), .second, .unset, .unset]) rfl kS) ?_
  show own_Comes p e below s _ _ _ (T14.setTop (mkF m 6 #[.val (.ref r0), .val (.long q1), .second, .val (.long (1000000 : Int64)), .second, .unset, .unset] [(.long (1000000 : Int64))]))
  refine own_by (fun _ kS => XS.lconst X14.here hx rfl (hb hby d6_6) kS) ?_
  show own_Comes p e below s _ _ _ (T14.setTop (mkF m 7 #[.val (.ref r0), .val (.long q1), .second, .val (.long (1000000 : Int64)), .second, .unset, .unset] [(.long (1 : Int64)), (.long (1000000 : Int64))]))
  refine own_by (fun _ kS => XS.lcmp X14.here hx rfl (hb hby d6_7) rfl kS) ?_
  show own_Comes p e below s _ _ _ (T14.setTop (mkF m 8 #[.val (.ref r0), .val (.long q1), .second, .val (.long (1000000 : Int64)), .second, .unset, .unset] [(.int (lcmpW (1000000 : Int64) (1 : Int64)))]))
  have hb15 : ¬ ((lcmpW (1000000 : Int64) (1 : Int64)) = (0 : Int32)) := by decide
  refine own_by (fun _ kS => XS.ifYes X14.here hx rfl (pc0 := 8) (pc' := 13) rfl (hb hby d6_8) rfl ((if0 _ _).trans (feq hb15).2) (by decide) (by decide) kS) ?_
  show own_Comes p e below s _ _ _ (T14.setTop (mkF m 13 #[.val (.ref r0), .val (.long q1), .second, .val (.long (1000000 : Int64)), .second, .unset, .unset] []))
  refine own_by (fun _ kS => XS.lloadN X14.here hx rfl (hb hby d6_13) rfl kS) ?_
  show own_Comes p e below s _ _ _ (T14.setTop (mkF m 14 #[.val (.ref r0), .val (.long q1), .second, .val (.long (1000000 : Int64)), .second, .unset, .unset] [(.long q1)]))
  refine own_by (fun _ kS => XS.aloadN X14.here hx rfl (hb hby d6_14) rfl rfl kS) ?_
  show own_Comes p e below s _ _ _ (T14.setTop (mkF m 15 #[.val (.ref r0), .val (.long q1), .second, .val (.long (1000000 : Int64)), .second, .unset, .unset] [(.ref r0), (.long q1)]))
  obtain ⟨T16, X16, e16, st16⟩ := getF X14 hx hZ hown (host := "") (Or.inl (hw _ (List.mem_of_getElem? (i := 44) rfl))) Via.refl e14 Fm (g := (mkF m 15 #[.val (.ref r0), .val (.long q1), .second, .val (.long (1000000 : Int64)), .second, .unset, .unset] [(.ref r0), (.long q1)])) rfl rfl (hb hby d6_15)
  refine own_by st16 ?_
  show own_Comes p e below s _ _ _ (T16.setTop (mkF m 18 #[.val (.ref r0), .val (.long q1), .second, .val (.long (1000000 : Int64)), .second, .unset, .unset] [(.long (9223372036854 : Int64)), (.long q1)]))
  refine own_by (fun _ kS => XT.dup2L X16.here hx rfl (hb hby d6_18) rfl kS) ?_
  show own_Comes p e below s _ _ _ (T16.setTop (mkF m 19 #[.val (.ref r0), .val (.long q1), .second, .val (.long (1000000 : Int64)), .second, .unset, .unset] [(.long (9223372036854 : Int64)), (.long (9223372036854 : Int64)), (.long q1)]))
  refine own_by (fun _ kS => XS.lstore X16.here hx rfl (hb hby d6_19) rfl (l' := #[.val (.ref r0), .val (.long q1), .second, .val (.long (1000000 : Int64)), .second, .val (.long (9223372036854 : Int64)), .second]) rfl kS) ?_
  show own_Comes p e below s _ _ _ (T16.setTop (mkF m 21 #[.val (.ref r0), .val (.long q1), .second, .val (.long (1000000 : Int64)), .second, .val (.long (9223372036854 : Int64)), .second] [(.long (9223372036854 : Int64)), (.long q1)]))
  refine own_by (fun _ kS => XS.lcmp X16.here hx rfl (hb hby d6_21) rfl kS) ?_
  show own_Comes p e below s _ _ _ (T16.setTop (mkF m 22 #[.val (.ref r0), .val (.long q1), .second, .val (.long (1000000 : Int64)), .second, .val (.long (9223372036854 : Int64)), .second] [(.int (lcmpW q1 (9223372036854 : Int64)))]))
  have hb17 : ¬ ((0 : Int32) < (lcmpW q1 (9223372036854 : Int64))) := fun h => k1 ((lw_gt _ _).mp h)
  refine own_by (fun _ kS => XS.ifYes X16.here hx rfl (pc0 := 22) (pc' := 29) rfl (hb hby d6_22) rfl ((if0 _ _).trans (flt hb17).2.2.2) (by decide) (by decide) kS) ?_
  show own_Comes p e below s _ _ _ (T16.setTop (mkF m 29 #[.val (.ref r0), .val (.long q1), .second, .val (.long (1000000 : Int64)), .second, .val (.long (9223372036854 : Int64)), .second] []))
  refine own_by (fun _ kS => XS.lloadN X16.here hx rfl (hb hby d6_29) rfl kS) ?_
  show own_Comes p e below s _ _ _ (T16.setTop (mkF m 30 #[.val (.ref r0), .val (.long q1), .second, .val (.long (1000000 : Int64)), .second, .val (.long (9223372036854 : Int64)), .second] [(.long q1)]))
  refine own_by (fun _ kS => XS.lload X16.here hx rfl (hb hby d6_30) rfl kS) ?_
  show own_Comes p e below s _ _ _ (T16.setTop (mkF m 32 #[.val (.ref r0), .val (.long q1), .second, .val (.long (1000000 : Int64)), .second, .val (.long (9223372036854 : Int64)), .second] [(.long (9223372036854 : Int64)), (.long q1)]))
  refine own_by (fun _ kS => XS.lneg X16.here hx rfl (hb hby d6_32) rfl kS) ?_
  show own_Comes p e below s _ _ _ (T16.setTop (mkF m 33 #[.val (.ref r0), .val (.long q1), .second, .val (.long (1000000 : Int64)), .second, .val (.long (9223372036854 : Int64)), .second] [(.long (-(9223372036854 : Int64))), (.long q1)]))
  refine own_by (fun _ kS => XS.lcmp X16.here hx rfl (hb hby d6_33) rfl kS) ?_
  show own_Comes p e below s _ _ _ (T16.setTop (mkF m 34 #[.val (.ref r0), .val (.long q1), .second, .val (.long (1000000 : Int64)), .second, .val (.long (9223372036854 : Int64)), .second] [(.int (lcmpW q1 (-(9223372036854 : Int64))))]))
  have hb18 : ¬ ((lcmpW q1 (-(9223372036854 : Int64))) < (0 : Int32)) := fun h => k2 ((lw_lt _ _).mp h)
  refine own_by (fun _ kS => XS.ifYes X16.here hx rfl (pc0 := 34) (pc' := 41) rfl (hb hby d6_34) rfl ((if0 _ _).trans (flt hb18).2.1) (by decide) (by decide) kS) ?_
  show own_Comes p e below s _ _ _ (T16.setTop (mkF m 41 #[.val (.ref r0), .val (.long q1), .second, .val (.long (1000000 : Int64)), .second, .val (.long (9223372036854 : Int64)), .second] []))
  refine own_by (fun _ kS => XS.lloadN X16.here hx rfl (hb hby d6_41) rfl kS) ?_
  show own_Comes p e below s _ _ _ (T16.setTop (mkF m 42 #[.val (.ref r0), .val (.long q1), .second, .val (.long (1000000 : Int64)), .second, .val (.long (9223372036854 : Int64)), .second] [(.long q1)]))
  refine own_by (fun _ kS => XS.lloadN X16.here hx rfl (hb hby d6_42) rfl kS) ?_
  show own_Comes p e below s _ _ _ (T16.setTop (mkF m 43 #[.val (.ref r0), .val (.long q1), .second, .val (.long (1000000 : Int64)), .second, .val (.long (9223372036854 : Int64)), .second] [(.long (1000000 : Int64)), (.long q1)]))
  refine own_by (fun _ kS => XS.lmul X16.here hx rfl (hb hby d6_43) rfl kS) ?_
  show own_Comes p e below s _ _ _ (T16.setTop (mkF m 44 #[.val (.ref r0), .val (.long q1), .second, .val (.long (1000000 : Int64)), .second, .val (.long (9223372036854 : Int64)), .second] [(.long (q1 * (1000000 : Int64)))]))
  refine own_ret X16 (v := some (.long (q1 * (1000000 : Int64)))) (fun h => by rw [Bd.returns] at h; cases h) Bd.notSynchronized (by decide) (by decide) ?_ (fun fs hr => X16.lreturnOut hx Bd.returns (hb hby d6_44) hr)
  rw [e16]; exact ⟨rfl, N0, rfl⟩
def Q17 (Z : State) (h0 : Heap) (n0 : Nat) (v : Option Value) (h : Heap) (L : List Loc) : Prop := v = some (.long (0 : Int64)) ∧ Fr n0 L ∧ h = h0
theorem ef_rm17 (m : MethodId) (x0 : Int64) (x1 : Int64) : entryFrame m #[(.long x0), (.long x1)] 6 = mkF m 0 #[.val (.long x0), .second, .val (.long x1), .second, .unset, .unset] [] := by first | (simp [entryFrame, mkF, argsToLocals, Value.category]; done) | rfl
theorem d17_0 : decode jdk_29_method_49_code 0 = .ok (.lload_n 0, 1) := by decide +kernel
theorem d17_1 : decode jdk_29_method_49_code 1 = .ok (.lload_n 2, 1) := by decide +kernel
theorem d17_2 : decode jdk_29_method_49_code 2 = .ok (.ldiv, 1) := by decide +kernel
theorem d17_3 : decode jdk_29_method_49_code 3 = .ok (.lstore 4, 2) := by decide +kernel
theorem d17_5 : decode jdk_29_method_49_code 5 = .ok (.lload_n 0, 1) := by decide +kernel
theorem d17_6 : decode jdk_29_method_49_code 6 = .ok (.lload_n 2, 1) := by decide +kernel
theorem d17_7 : decode jdk_29_method_49_code 7 = .ok (.lxor, 1) := by decide +kernel
theorem d17_8 : decode jdk_29_method_49_code 8 = .ok (.lconst 0, 1) := by decide +kernel
theorem d17_9 : decode jdk_29_method_49_code 9 = .ok (.lcmp, 1) := by decide +kernel
theorem d17_10 : decode jdk_29_method_49_code 10 = .ok (.ifCond .ge 17, 3) := by decide +kernel
theorem d17_27 : decode jdk_29_method_49_code 27 = .ok (.lload 4, 2) := by decide +kernel
theorem d17_29 : decode jdk_29_method_49_code 29 = .ok (.lreturn, 1) := by decide +kernel
set_option maxRecDepth 65536 in
set_option maxHeartbeats 40000000 in
theorem rm17 (l : Launch) (Z : State) (a0 : Array Value) (hw : ∀ d ∈ tables_1, d.before a0 Z = true) (ws : List Jvm.Cond)  (h0 : Heap) (n0 : Nat) (Z0 : n0 ≤ h0.size) :
    MetFree l (⟨"java/lang/Math", "floorDiv", "(JJ)J"⟩ : MethodName) (head1 (Jvm.Cond.code (⟨"java/lang/Math", "floorDiv", "(JJ)J"⟩ : MethodName) jdk_29_method_49_code 6 (some .long) :: ws) ({ frames := 0, cells := 0, slots := 0, locals := 0 } : Room)) (fun aX UX => aX = #[(.long (0 : Int64)), (.long (2 : Int64))] ∧ Z.Warmed39 UX.vm ∧ UX.heap = h0) (fun _ _ _ _ _ => True) (fun _ UX oX UX' => ∃ vX LX, oX = .returned vX ∧ Q17 Z  h0 n0 vX UX'.heap LX ∧ FrameEnd UX oX UX' LX ({ frames := 0, cells := 0, slots := 0, locals := 0 } : Room).cells ({ frames := 0, cells := 0, slots := 0, locals := 0 } : Room).slots) := by
  refine MetFree.of_bodySF (Jvm.Free.JP.mathPlain rfl (by decide +kernel)) hisR ?_
  intro p e s m args below meth c s₁ Bd hml0 hP hK
  obtain ⟨rfl, hZ, hh⟩ := hP
  have hx := Bd.exec
  have hby := Bd.bytes
  have hml : c.maxLocals = 6 := hml0
  have hown : s.vm.findClass "java/lang/Math" = some m.cls := findClass_of_methodNamed Bd.named
  have hnm := (name_of_methodNamed Bd.named Bd.method).1
  have X0 : Stand p l e ({ frames := 0, cells := 0, slots := 0, locals := 0 } : Room) s m #[(.long (0 : Int64)), (.long (2 : Int64))] below meth c s₁ [] 0 0 := Stand.of_body Bd
  have e0 : s₁.heap = h0 := by rw [← hh, Bd.state]; rfl
  have N0 := Fr.nil n0
  show own_Comes p e below s ({ frames := 0, cells := 0, slots := 0, locals := 0 } : Room).cells ({ frames := 0, cells := 0, slots := 0, locals := 0 } : Room).slots (Q17 Z  h0 n0) _
  rw [show entryFrame m #[(.long (0 : Int64)), (.long (2 : Int64))] 6 = mkF m 0 #[.val (.long (0 : Int64)), .second, .val (.long (2 : Int64)), .second, .unset, .unset] [] from ef_rm17 m (0 : Int64) (2 : Int64)]
  show own_Comes p e below s _ _ _ (s₁.setTop (mkF m 0 #[.val (.long (0 : Int64)), .second, .val (.long (2 : Int64)), .second, .unset, .unset] []))
  refine own_by (fun _ kS => XS.lloadN X0.here hx rfl (hb hby d17_0) rfl kS) ?_
  show own_Comes p e below s _ _ _ (s₁.setTop (mkF m 1 #[.val (.long (0 : Int64)), .second, .val (.long (2 : Int64)), .second, .unset, .unset] [(.long (0 : Int64))]))
  refine own_by (fun _ kS => XS.lloadN X0.here hx rfl (hb hby d17_1) rfl kS) ?_
  show own_Comes p e below s _ _ _ (s₁.setTop (mkF m 2 #[.val (.long (0 : Int64)), .second, .val (.long (2 : Int64)), .second, .unset, .unset] [(.long (2 : Int64)), (.long (0 : Int64))]))
  refine own_by (fun _ kS => XS.ldiv X0.here hx rfl (hb hby d17_2) rfl (by decide) kS) ?_
  show own_Comes p e below s _ _ _ (s₁.setTop (mkF m 3 #[.val (.long (0 : Int64)), .second, .val (.long (2 : Int64)), .second, .unset, .unset] [(.long ((0 : Int64) / (2 : Int64)))]))
  refine own_by (fun _ kS => XS.lstore X0.here hx rfl (hb hby d17_3) rfl (l' := #[.val (.long (0 : Int64)), .second, .val (.long (2 : Int64)), .second, .val (.long ((0 : Int64) / (2 : Int64))), .second]) rfl kS) ?_
  show own_Comes p e below s _ _ _ (s₁.setTop (mkF m 5 #[.val (.long (0 : Int64)), .second, .val (.long (2 : Int64)), .second, .val (.long ((0 : Int64) / (2 : Int64))), .second] []))
  rw [show ((0 : Int64) / (2 : Int64)) = (0 : Int64) from by decide]
  show own_Comes p e below s _ _ _ (s₁.setTop (mkF m 5 #[.val (.long (0 : Int64)), .second, .val (.long (2 : Int64)), .second, .val (.long (0 : Int64)), .second] []))
  refine own_by (fun _ kS => XS.lloadN X0.here hx rfl (hb hby d17_5) rfl kS) ?_
  show own_Comes p e below s _ _ _ (s₁.setTop (mkF m 6 #[.val (.long (0 : Int64)), .second, .val (.long (2 : Int64)), .second, .val (.long (0 : Int64)), .second] [(.long (0 : Int64))]))
  refine own_by (fun _ kS => XS.lloadN X0.here hx rfl (hb hby d17_6) rfl kS) ?_
  show own_Comes p e below s _ _ _ (s₁.setTop (mkF m 7 #[.val (.long (0 : Int64)), .second, .val (.long (2 : Int64)), .second, .val (.long (0 : Int64)), .second] [(.long (2 : Int64)), (.long (0 : Int64))]))
  refine own_by (fun _ kS => XS.lxor X0.here hx rfl (hb hby d17_7) rfl kS) ?_
  show own_Comes p e below s _ _ _ (s₁.setTop (mkF m 8 #[.val (.long (0 : Int64)), .second, .val (.long (2 : Int64)), .second, .val (.long (0 : Int64)), .second] [(.long ((0 : Int64) ^^^ (2 : Int64)))]))
  refine own_by (fun _ kS => XS.lconst X0.here hx rfl (hb hby d17_8) kS) ?_
  show own_Comes p e below s _ _ _ (s₁.setTop (mkF m 9 #[.val (.long (0 : Int64)), .second, .val (.long (2 : Int64)), .second, .val (.long (0 : Int64)), .second] [(.long (0 : Int64)), (.long ((0 : Int64) ^^^ (2 : Int64)))]))
  refine own_by (fun _ kS => XS.lcmp X0.here hx rfl (hb hby d17_9) rfl kS) ?_
  show own_Comes p e below s _ _ _ (s₁.setTop (mkF m 10 #[.val (.long (0 : Int64)), .second, .val (.long (2 : Int64)), .second, .val (.long (0 : Int64)), .second] [(.int (lcmpW ((0 : Int64) ^^^ (2 : Int64)) (0 : Int64)))]))
  have hb19 : ¬ ((lcmpW ((0 : Int64) ^^^ (2 : Int64)) (0 : Int64)) < (0 : Int32)) := by decide
  refine own_by (fun _ kS => XS.ifYes X0.here hx rfl (pc0 := 10) (pc' := 27) rfl (hb hby d17_10) rfl ((if0 _ _).trans (flt hb19).2.1) (by decide) (by decide) kS) ?_
  show own_Comes p e below s _ _ _ (s₁.setTop (mkF m 27 #[.val (.long (0 : Int64)), .second, .val (.long (2 : Int64)), .second, .val (.long (0 : Int64)), .second] []))
  refine own_by (fun _ kS => XS.lload X0.here hx rfl (hb hby d17_27) rfl kS) ?_
  show own_Comes p e below s _ _ _ (s₁.setTop (mkF m 29 #[.val (.long (0 : Int64)), .second, .val (.long (2 : Int64)), .second, .val (.long (0 : Int64)), .second] [(.long (0 : Int64))]))
  refine own_ret X0 (v := some (.long (0 : Int64))) (fun h => by rw [Bd.returns] at h; cases h) Bd.notSynchronized (by decide) (by decide) ?_ (fun fs hr => X0.lreturnOut hx Bd.returns (hb hby d17_29) hr)
  rw [e0]; exact ⟨rfl, N0, rfl⟩
def Q16 (Z : State) (h0 : Heap) (n0 : Nat) (v : Option Value) (h : Heap) (L : List Loc) : Prop := v = some (.long (0 : Int64)) ∧ Fr n0 L ∧ h = h0
theorem ef_rm16 (m : MethodId) (x0 : Int64) (x1 : Int32) : entryFrame m #[(.long x0), (.int x1)] 3 = mkF m 0 #[.val (.long x0), .second, .val (.int x1)] [] := by first | (simp [entryFrame, mkF, argsToLocals, Value.category]; done) | rfl
theorem d16_0 : decode jdk_29_method_48_code 0 = .ok (.lload_n 0, 1) := by decide +kernel
theorem d16_1 : decode jdk_29_method_48_code 1 = .ok (.iload_n 2, 1) := by decide +kernel
theorem d16_2 : decode jdk_29_method_48_code 2 = .ok (.i2l, 1) := by decide +kernel
theorem pd__JJ_J_303 : parseMethodDescriptor "(JJ)J" = some ⟨[.long, .long], some .long⟩ := by decide +kernel
theorem d16_3 : decode jdk_29_method_48_code 3 = .ok (.invokestatic 143, 3) := by decide +kernel
theorem d16_6 : decode jdk_29_method_48_code 6 = .ok (.lreturn, 1) := by decide +kernel
set_option maxRecDepth 65536 in
set_option maxHeartbeats 40000000 in
theorem rm16 (l : Launch) (Z : State) (a0 : Array Value) (hw : ∀ d ∈ tables_1, d.before a0 Z = true) (ws : List Jvm.Cond)  (h0 : Heap) (n0 : Nat) (Z0 : n0 ≤ h0.size) :
    MetFree l (⟨"java/lang/Math", "floorDiv", "(JI)J"⟩ : MethodName) (head1 (Jvm.Cond.code (⟨"java/lang/Math", "floorDiv", "(JI)J"⟩ : MethodName) jdk_29_method_48_code 3 (some .long) :: ws) ({ frames := 1, cells := 0, slots := 0, locals := 17 } : Room)) (fun aX UX => aX = #[(.long (0 : Int64)), (.int (2 : Int32))] ∧ Z.Warmed39 UX.vm ∧ UX.heap = h0) (fun _ _ _ _ _ => True) (fun _ UX oX UX' => ∃ vX LX, oX = .returned vX ∧ Q16 Z  h0 n0 vX UX'.heap LX ∧ FrameEnd UX oX UX' LX ({ frames := 1, cells := 0, slots := 0, locals := 17 } : Room).cells ({ frames := 1, cells := 0, slots := 0, locals := 17 } : Room).slots) := by
  refine MetFree.of_bodySF (Jvm.Free.JP.mathPlain rfl (by decide +kernel)) hisR ?_
  intro p e s m args below meth c s₁ Bd hml0 hP hK
  obtain ⟨rfl, hZ, hh⟩ := hP
  have hx := Bd.exec
  have hby := Bd.bytes
  have hml : c.maxLocals = 3 := hml0
  have hown : s.vm.findClass "java/lang/Math" = some m.cls := findClass_of_methodNamed Bd.named
  have hnm := (name_of_methodNamed Bd.named Bd.method).1
  have X0 : Stand p l e ({ frames := 1, cells := 0, slots := 0, locals := 17 } : Room) s m #[(.long (0 : Int64)), (.int (2 : Int32))] below meth c s₁ [] 0 0 := Stand.of_body Bd
  have e0 : s₁.heap = h0 := by rw [← hh, Bd.state]; rfl
  have N0 := Fr.nil n0
  show own_Comes p e below s ({ frames := 1, cells := 0, slots := 0, locals := 17 } : Room).cells ({ frames := 1, cells := 0, slots := 0, locals := 17 } : Room).slots (Q16 Z  h0 n0) _
  rw [show entryFrame m #[(.long (0 : Int64)), (.int (2 : Int32))] 3 = mkF m 0 #[.val (.long (0 : Int64)), .second, .val (.int (2 : Int32))] [] from ef_rm16 m (0 : Int64) (2 : Int32)]
  show own_Comes p e below s _ _ _ (s₁.setTop (mkF m 0 #[.val (.long (0 : Int64)), .second, .val (.int (2 : Int32))] []))
  refine own_by (fun _ kS => XS.lloadN X0.here hx rfl (hb hby d16_0) rfl kS) ?_
  show own_Comes p e below s _ _ _ (s₁.setTop (mkF m 1 #[.val (.long (0 : Int64)), .second, .val (.int (2 : Int32))] [(.long (0 : Int64))]))
  refine own_by (fun _ kS => XS.iloadN X0.here hx rfl (hb hby d16_1) rfl kS) ?_
  show own_Comes p e below s _ _ _ (s₁.setTop (mkF m 2 #[.val (.long (0 : Int64)), .second, .val (.int (2 : Int32))] [(.int (2 : Int32)), (.long (0 : Int64))]))
  refine own_by (fun _ kS => XS.i2l X0.here hx rfl (hb hby d16_2) rfl kS) ?_
  show own_Comes p e below s _ _ _ (s₁.setTop (mkF m 3 #[.val (.long (0 : Int64)), .second, .val (.int (2 : Int32))] [(.long ((2 : Int32).toInt64)), (.long (0 : Int64))]))
  rw [show ((2 : Int32).toInt64) = (2 : Int64) from by decide]
  show own_Comes p e below s _ _ _ (s₁.setTop (mkF m 3 #[.val (.long (0 : Int64)), .second, .val (.int (2 : Int32))] [(.long (2 : Int64)), (.long (0 : Int64))]))
  obtain ⟨_, _, ⟨T20, L20, k20, n20⟩, -, X20, ⟨Lc20, hQ20, l20, y20, z20⟩, st20⟩ := Jvm.LawKit.callS X0 hx (y := (⟨"java/lang/Math", "floorDiv", "(JJ)J"⟩ : MethodName)) hown (mvT hZ (hw _ (List.mem_of_getElem? (i := 113) rfl))) (mvT hZ (hw _ (List.mem_of_getElem? (i := 114) rfl))) (mvT hZ (hw _ (List.mem_of_getElem? (i := 111) rfl))) (mvT hZ (hw _ (List.mem_of_getElem? (i := 115) rfl))) (by decide) (backOf (W := 0) (rm17 l Z a0 hw []  h0 n0 Z0) hZ (hw _ (List.mem_of_getElem? (i := 115) rfl)) (hw _ (List.mem_of_getElem? (i := 111) rfl)) (by decide) (by decide)) (g := (mkF m 3 #[.val (.long (0 : Int64)), .second, .val (.int (2 : Int32))] [(.long (2 : Int64)), (.long (0 : Int64))])) rfl (by rw [hml]; rfl) (argsL := [(.long (0 : Int64)), (.long (2 : Int64))]) (rest := []) (lenOf pd__JJ_J_303 rfl) rfl (by show 2 * 0 + _ ≤ _; exact Nat.le_of_eq rfl) (hb hby d16_3) (fun _ _ => ⟨rfl, e0, (by decide : 0 + 0 ≤ _), (by decide : 0 + 0 ≤ _)⟩)
  dsimp only [Pt.U, Pt.locs, Pt.cells, Pt.slots] at X20 l20 y20 z20 st20 hQ20
  subst l20 y20 z20
  obtain ⟨rfl, N20q, e20q⟩ := hQ20
  have N20 := Fr.app N0 N20q
  refine own_by st20 ?_
  have e20 : T20.heap = h0 := e20q
  show own_Comes p e below s _ _ _ (T20.setTop (mkF m 6 #[.val (.long (0 : Int64)), .second, .val (.int (2 : Int32))] [(.long (0 : Int64))]))
  refine own_ret X20 (v := some (.long (0 : Int64))) (fun h => by rw [Bd.returns] at h; cases h) Bd.notSynchronized (by decide) (by decide) ?_ (fun fs hr => X20.lreturnOut hx Bd.returns (hb hby d16_6) hr)
  rw [e20]; exact ⟨rfl, N20, rfl⟩
def Q13 (Z : State) (h0 : Heap) (n0 : Nat) (v : Option Value) (h : Heap) (L : List Loc) : Prop := v = none ∧ Fr n0 L ∧ h = h0
theorem ef_rm13 (m : MethodId) (x0 : Int32) (x1 : Int32) (x2 : Int32) : entryFrame m #[(.int x0), (.int x1), (.int x2)] 3 = mkF m 0 #[.val (.int x0), .val (.int x1), .val (.int x2)] [] := by first | (simp [entryFrame, mkF, argsToLocals, Value.category]; done) | rfl
theorem pn_java_util_Arrays : plainName "java/util/Arrays" = true := by first | (simp [plainName, overriddenIn]; done) | decide +kernel
theorem d13_0 : decode jdk_65_method_30_code 0 = .ok (.iload_n 1, 1) := by decide +kernel
theorem d13_1 : decode jdk_65_method_30_code 1 = .ok (.iload_n 2, 1) := by decide +kernel
theorem d13_2 : decode jdk_65_method_30_code 2 = .ok (.if_icmp .le 44, 3) := by decide +kernel
theorem d13_46 : decode jdk_65_method_30_code 46 = .ok (.iload_n 1, 1) := by decide +kernel
theorem d13_47 : decode jdk_65_method_30_code 47 = .ok (.ifCond .ge 12, 3) := by decide +kernel
theorem d13_59 : decode jdk_65_method_30_code 59 = .ok (.iload_n 2, 1) := by decide +kernel
theorem d13_60 : decode jdk_65_method_30_code 60 = .ok (.iload_n 0, 1) := by decide +kernel
theorem d13_61 : decode jdk_65_method_30_code 61 = .ok (.if_icmp .le 12, 3) := by decide +kernel
theorem d13_73 : decode jdk_65_method_30_code 73 = .ok (.return_, 1) := by decide +kernel
set_option maxRecDepth 65536 in
set_option maxHeartbeats 40000000 in
theorem rm13 (l : Launch) (Z : State) (a0 : Array Value) (hw : ∀ d ∈ tables_1, d.before a0 Z = true) (ws : List Jvm.Cond) (p0 : Int32) (h0 : Heap) (n0 : Nat) (Z0 : n0 ≤ h0.size) (k1 : ¬ p0 < (0 : Int32)) :
    MetFree l (⟨"java/util/Arrays", "rangeCheck", "(III)V"⟩ : MethodName) (head1 (Jvm.Cond.code (⟨"java/util/Arrays", "rangeCheck", "(III)V"⟩ : MethodName) jdk_65_method_30_code 3 none :: ws) ({ frames := 0, cells := 0, slots := 0, locals := 0 } : Room)) (fun aX UX => aX = #[(.int p0), (.int (0 : Int32)), (.int (0 : Int32))] ∧ Z.Warmed39 UX.vm ∧ UX.heap = h0) (fun _ _ _ _ _ => True) (fun _ UX oX UX' => ∃ vX LX, oX = .returned vX ∧ Q13 Z  h0 n0 vX UX'.heap LX ∧ FrameEnd UX oX UX' LX ({ frames := 0, cells := 0, slots := 0, locals := 0 } : Room).cells ({ frames := 0, cells := 0, slots := 0, locals := 0 } : Room).slots) := by
  refine MetFree.of_bodySF (plainFor_of_name pn_java_util_Arrays) hisR ?_
  intro p e s m args below meth c s₁ Bd hml0 hP hK
  obtain ⟨rfl, hZ, hh⟩ := hP
  have hx := Bd.exec
  have hby := Bd.bytes
  have hml : c.maxLocals = 3 := hml0
  have hown : s.vm.findClass "java/util/Arrays" = some m.cls := findClass_of_methodNamed Bd.named
  have hnm := (name_of_methodNamed Bd.named Bd.method).1
  have X0 : Stand p l e ({ frames := 0, cells := 0, slots := 0, locals := 0 } : Room) s m #[(.int p0), (.int (0 : Int32)), (.int (0 : Int32))] below meth c s₁ [] 0 0 := Stand.of_body Bd
  have e0 : s₁.heap = h0 := by rw [← hh, Bd.state]; rfl
  have N0 := Fr.nil n0
  show own_Comes p e below s ({ frames := 0, cells := 0, slots := 0, locals := 0 } : Room).cells ({ frames := 0, cells := 0, slots := 0, locals := 0 } : Room).slots (Q13 Z  h0 n0) _
  rw [show entryFrame m #[(.int p0), (.int (0 : Int32)), (.int (0 : Int32))] 3 = mkF m 0 #[.val (.int p0), .val (.int (0 : Int32)), .val (.int (0 : Int32))] [] from ef_rm13 m p0 (0 : Int32) (0 : Int32)]
  show own_Comes p e below s _ _ _ (s₁.setTop (mkF m 0 #[.val (.int p0), .val (.int (0 : Int32)), .val (.int (0 : Int32))] []))
  refine own_by (fun _ kS => XS.iloadN X0.here hx rfl (hb hby d13_0) rfl kS) ?_
  show own_Comes p e below s _ _ _ (s₁.setTop (mkF m 1 #[.val (.int p0), .val (.int (0 : Int32)), .val (.int (0 : Int32))] [(.int (0 : Int32))]))
  refine own_by (fun _ kS => XS.iloadN X0.here hx rfl (hb hby d13_1) rfl kS) ?_
  show own_Comes p e below s _ _ _ (s₁.setTop (mkF m 2 #[.val (.int p0), .val (.int (0 : Int32)), .val (.int (0 : Int32))] [(.int (0 : Int32)), (.int (0 : Int32))]))
  have hb21 : ¬ ((0 : Int32) < (0 : Int32)) := by decide
  refine own_by (fun _ kS => XS.icmpYes X0.here hx rfl (pc0 := 2) (pc' := 46) rfl (hb hby d13_2) rfl (flt hb21).2.2.2 (by decide) (by decide) kS) ?_
  show own_Comes p e below s _ _ _ (s₁.setTop (mkF m 46 #[.val (.int p0), .val (.int (0 : Int32)), .val (.int (0 : Int32))] []))
  refine own_by (fun _ kS => XS.iloadN X0.here hx rfl (hb hby d13_46) rfl kS) ?_
  show own_Comes p e below s _ _ _ (s₁.setTop (mkF m 47 #[.val (.int p0), .val (.int (0 : Int32)), .val (.int (0 : Int32))] [(.int (0 : Int32))]))
  have hb22 : ¬ ((0 : Int32) < (0 : Int32)) := by decide
  refine own_by (fun _ kS => XS.ifYes X0.here hx rfl (pc0 := 47) (pc' := 59) rfl (hb hby d13_47) rfl ((if0 _ _).trans (flt hb22).2.1) (by decide) (by decide) kS) ?_
  show own_Comes p e below s _ _ _ (s₁.setTop (mkF m 59 #[.val (.int p0), .val (.int (0 : Int32)), .val (.int (0 : Int32))] []))
  refine own_by (fun _ kS => XS.iloadN X0.here hx rfl (hb hby d13_59) rfl kS) ?_
  show own_Comes p e below s _ _ _ (s₁.setTop (mkF m 60 #[.val (.int p0), .val (.int (0 : Int32)), .val (.int (0 : Int32))] [(.int (0 : Int32))]))
  refine own_by (fun _ kS => XS.iloadN X0.here hx rfl (hb hby d13_60) rfl kS) ?_
  show own_Comes p e below s _ _ _ (s₁.setTop (mkF m 61 #[.val (.int p0), .val (.int (0 : Int32)), .val (.int (0 : Int32))] [(.int p0), (.int (0 : Int32))]))
  refine own_by (fun _ kS => XS.icmpYes X0.here hx rfl (pc0 := 61) (pc' := 73) rfl (hb hby d13_61) rfl (flt k1).2.2.2 (by decide) (by decide) kS) ?_
  show own_Comes p e below s _ _ _ (s₁.setTop (mkF m 73 #[.val (.int p0), .val (.int (0 : Int32)), .val (.int (0 : Int32))] []))
  refine own_ret X0 (v := none) (fun _ => rfl) Bd.notSynchronized (by decide) (by decide) ?_ (fun fs hr => X0.returnOut hx Bd.returns (hb hby d13_73) hr)
  rw [e0]; exact ⟨rfl, N0, rfl⟩
def Q14 (Z : State) (h0 : Heap) (n0 : Nat) (v : Option Value) (h : Heap) (L : List Loc) : Prop := v = some (.int (-1 : Int32)) ∧ Fr n0 L ∧ h = h0
theorem ef_rm14 (m : MethodId) (x0 : Addr) (x1 : Int32) (x2 : Int32) (x3 : Int64) : entryFrame m #[(.ref x0), (.int x1), (.int x2), (.long x3)] 10 = mkF m 0 #[.val (.ref x0), .val (.int x1), .val (.int x2), .val (.long x3), .second, .unset, .unset, .unset, .unset, .unset] [] := by first | (simp [entryFrame, mkF, argsToLocals, Value.category]; done) | rfl
theorem d14_0 : decode jdk_65_method_56_code 0 = .ok (.iload_n 1, 1) := by decide +kernel
theorem d14_1 : decode jdk_65_method_56_code 1 = .ok (.istore 5, 2) := by decide +kernel
theorem d14_3 : decode jdk_65_method_56_code 3 = .ok (.iload_n 2, 1) := by decide +kernel
theorem d14_4 : decode jdk_65_method_56_code 4 = .ok (.iconst 1, 1) := by decide +kernel
theorem d14_5 : decode jdk_65_method_56_code 5 = .ok (.isub, 1) := by decide +kernel
theorem d14_6 : decode jdk_65_method_56_code 6 = .ok (.istore 6, 2) := by decide +kernel
theorem d14_8 : decode jdk_65_method_56_code 8 = .ok (.iload 5, 2) := by decide +kernel
theorem d14_10 : decode jdk_65_method_56_code 10 = .ok (.iload 6, 2) := by decide +kernel
theorem d14_12 : decode jdk_65_method_56_code 12 = .ok (.if_icmp .gt 56, 3) := by decide +kernel
theorem d14_68 : decode jdk_65_method_56_code 68 = .ok (.iload 5, 2) := by decide +kernel
theorem d14_70 : decode jdk_65_method_56_code 70 = .ok (.iconst 1, 1) := by decide +kernel
theorem d14_71 : decode jdk_65_method_56_code 71 = .ok (.iadd, 1) := by decide +kernel
theorem d14_72 : decode jdk_65_method_56_code 72 = .ok (.ineg, 1) := by decide +kernel
theorem d14_73 : decode jdk_65_method_56_code 73 = .ok (.ireturn, 1) := by decide +kernel
set_option maxRecDepth 65536 in
set_option maxHeartbeats 40000000 in
theorem rm14 (l : Launch) (Z : State) (a0 : Array Value) (hw : ∀ d ∈ tables_1, d.before a0 Z = true) (ws : List Jvm.Cond) (r0 : Addr) (q3 : Int64) (h0 : Heap) (n0 : Nat) (Z0 : n0 ≤ h0.size) :
    MetFree l (⟨"java/util/Arrays", "binarySearch0", "([JIIJ)I"⟩ : MethodName) (head1 (Jvm.Cond.code (⟨"java/util/Arrays", "binarySearch0", "([JIIJ)I"⟩ : MethodName) jdk_65_method_56_code 10 (some .int) :: ws) ({ frames := 0, cells := 0, slots := 0, locals := 0 } : Room)) (fun aX UX => aX = #[(.ref r0), (.int (0 : Int32)), (.int (0 : Int32)), (.long q3)] ∧ Z.Warmed39 UX.vm ∧ UX.heap = h0) (fun _ _ _ _ _ => True) (fun _ UX oX UX' => ∃ vX LX, oX = .returned vX ∧ Q14 Z  h0 n0 vX UX'.heap LX ∧ FrameEnd UX oX UX' LX ({ frames := 0, cells := 0, slots := 0, locals := 0 } : Room).cells ({ frames := 0, cells := 0, slots := 0, locals := 0 } : Room).slots) := by
  refine MetFree.of_bodySF (plainFor_of_name pn_java_util_Arrays) hisR ?_
  intro p e s m args below meth c s₁ Bd hml0 hP hK
  obtain ⟨rfl, hZ, hh⟩ := hP
  have hx := Bd.exec
  have hby := Bd.bytes
  have hml : c.maxLocals = 10 := hml0
  have hown : s.vm.findClass "java/util/Arrays" = some m.cls := findClass_of_methodNamed Bd.named
  have hnm := (name_of_methodNamed Bd.named Bd.method).1
  have X0 : Stand p l e ({ frames := 0, cells := 0, slots := 0, locals := 0 } : Room) s m #[(.ref r0), (.int (0 : Int32)), (.int (0 : Int32)), (.long q3)] below meth c s₁ [] 0 0 := Stand.of_body Bd
  have e0 : s₁.heap = h0 := by rw [← hh, Bd.state]; rfl
  have N0 := Fr.nil n0
  show own_Comes p e below s ({ frames := 0, cells := 0, slots := 0, locals := 0 } : Room).cells ({ frames := 0, cells := 0, slots := 0, locals := 0 } : Room).slots (Q14 Z  h0 n0) _
  rw [show entryFrame m #[(.ref r0), (.int (0 : Int32)), (.int (0 : Int32)), (.long q3)] 10 = mkF m 0 #[.val (.ref r0), .val (.int (0 : Int32)), .val (.int (0 : Int32)), .val (.long q3), .second, .unset, .unset, .unset, .unset, .unset] [] from ef_rm14 m r0 (0 : Int32) (0 : Int32) q3]
  show own_Comes p e below s _ _ _ (s₁.setTop (mkF m 0 #[.val (.ref r0), .val (.int (0 : Int32)), .val (.int (0 : Int32)), .val (.long q3), .second, .unset, .unset, .unset, .unset, .unset] []))
  refine own_by (fun _ kS => XS.iloadN X0.here hx rfl (hb hby d14_0) rfl kS) ?_
  show own_Comes p e below s _ _ _ (s₁.setTop (mkF m 1 #[.val (.ref r0), .val (.int (0 : Int32)), .val (.int (0 : Int32)), .val (.long q3), .second, .unset, .unset, .unset, .unset, .unset] [(.int (0 : Int32))]))
  refine own_by (fun _ kS => XS.istore X0.here hx rfl (hb hby d14_1) rfl (l' := #[.val (.ref r0), .val (.int (0 : Int32)), .val (.int (0 : Int32)), .val (.long q3), .second, .val (.int (0 : Int32)), .unset, .unset, .unset, .unset]) rfl kS) ?_
  show own_Comes p e below s _ _ _ (s₁.setTop (mkF m 3 #[.val (.ref r0), .val (.int (0 : Int32)), .val (.int (0 : Int32)), .val (.long q3), .second, .val (.int (0 : Int32)), .unset, .unset, .unset, .unset] []))
  refine own_by (fun _ kS => XS.iloadN X0.here hx rfl (hb hby d14_3) rfl kS) ?_
  show own_Comes p e below s _ _ _ (s₁.setTop (mkF m 4 #[.val (.ref r0), .val (.int (0 : Int32)), .val (.int (0 : Int32)), .val (.long q3), .second, .val (.int (0 : Int32)), .unset, .unset, .unset, .unset] [(.int (0 : Int32))]))
  refine own_by (fun _ kS => XS.iconst X0.here hx rfl (hb hby d14_4) kS) ?_
  show own_Comes p e below s _ _ _ (s₁.setTop (mkF m 5 #[.val (.ref r0), .val (.int (0 : Int32)), .val (.int (0 : Int32)), .val (.long q3), .second, .val (.int (0 : Int32)), .unset, .unset, .unset, .unset] [(.int (1 : Int32)), (.int (0 : Int32))]))
  refine own_by (fun _ kS => XS.isub X0.here hx rfl (hb hby d14_5) rfl kS) ?_
  show own_Comes p e below s _ _ _ (s₁.setTop (mkF m 6 #[.val (.ref r0), .val (.int (0 : Int32)), .val (.int (0 : Int32)), .val (.long q3), .second, .val (.int (0 : Int32)), .unset, .unset, .unset, .unset] [(.int ((0 : Int32) - (1 : Int32)))]))
  refine own_by (fun _ kS => XS.istore X0.here hx rfl (hb hby d14_6) rfl (l' := #[.val (.ref r0), .val (.int (0 : Int32)), .val (.int (0 : Int32)), .val (.long q3), .second, .val (.int (0 : Int32)), .val (.int ((0 : Int32) - (1 : Int32))), .unset, .unset, .unset]) rfl kS) ?_
  show own_Comes p e below s _ _ _ (s₁.setTop (mkF m 8 #[.val (.ref r0), .val (.int (0 : Int32)), .val (.int (0 : Int32)), .val (.long q3), .second, .val (.int (0 : Int32)), .val (.int ((0 : Int32) - (1 : Int32))), .unset, .unset, .unset] []))
  refine own_by (fun _ kS => XS.iload X0.here hx rfl (hb hby d14_8) rfl kS) ?_
  show own_Comes p e below s _ _ _ (s₁.setTop (mkF m 10 #[.val (.ref r0), .val (.int (0 : Int32)), .val (.int (0 : Int32)), .val (.long q3), .second, .val (.int (0 : Int32)), .val (.int ((0 : Int32) - (1 : Int32))), .unset, .unset, .unset] [(.int (0 : Int32))]))
  refine own_by (fun _ kS => XS.iload X0.here hx rfl (hb hby d14_10) rfl kS) ?_
  show own_Comes p e below s _ _ _ (s₁.setTop (mkF m 12 #[.val (.ref r0), .val (.int (0 : Int32)), .val (.int (0 : Int32)), .val (.long q3), .second, .val (.int (0 : Int32)), .val (.int ((0 : Int32) - (1 : Int32))), .unset, .unset, .unset] [(.int ((0 : Int32) - (1 : Int32))), (.int (0 : Int32))]))
  have hb23 : ((0 : Int32) - (1 : Int32)) < (0 : Int32) := by decide
  refine own_by (fun _ kS => XS.icmpYes X0.here hx rfl (pc0 := 12) (pc' := 68) rfl (hb hby d14_12) rfl (tlt hb23).2.2.1 (by decide) (by decide) kS) ?_
  show own_Comes p e below s _ _ _ (s₁.setTop (mkF m 68 #[.val (.ref r0), .val (.int (0 : Int32)), .val (.int (0 : Int32)), .val (.long q3), .second, .val (.int (0 : Int32)), .val (.int ((0 : Int32) - (1 : Int32))), .unset, .unset, .unset] []))
  refine own_by (fun _ kS => XS.iload X0.here hx rfl (hb hby d14_68) rfl kS) ?_
  show own_Comes p e below s _ _ _ (s₁.setTop (mkF m 70 #[.val (.ref r0), .val (.int (0 : Int32)), .val (.int (0 : Int32)), .val (.long q3), .second, .val (.int (0 : Int32)), .val (.int ((0 : Int32) - (1 : Int32))), .unset, .unset, .unset] [(.int (0 : Int32))]))
  refine own_by (fun _ kS => XS.iconst X0.here hx rfl (hb hby d14_70) kS) ?_
  show own_Comes p e below s _ _ _ (s₁.setTop (mkF m 71 #[.val (.ref r0), .val (.int (0 : Int32)), .val (.int (0 : Int32)), .val (.long q3), .second, .val (.int (0 : Int32)), .val (.int ((0 : Int32) - (1 : Int32))), .unset, .unset, .unset] [(.int (1 : Int32)), (.int (0 : Int32))]))
  refine own_by (fun _ kS => XS.iadd X0.here hx rfl (hb hby d14_71) rfl kS) ?_
  show own_Comes p e below s _ _ _ (s₁.setTop (mkF m 72 #[.val (.ref r0), .val (.int (0 : Int32)), .val (.int (0 : Int32)), .val (.long q3), .second, .val (.int (0 : Int32)), .val (.int ((0 : Int32) - (1 : Int32))), .unset, .unset, .unset] [(.int ((0 : Int32) + (1 : Int32)))]))
  refine own_by (fun _ kS => XS.ineg X0.here hx rfl (hb hby d14_72) rfl kS) ?_
  show own_Comes p e below s _ _ _ (s₁.setTop (mkF m 73 #[.val (.ref r0), .val (.int (0 : Int32)), .val (.int (0 : Int32)), .val (.long q3), .second, .val (.int (0 : Int32)), .val (.int ((0 : Int32) - (1 : Int32))), .unset, .unset, .unset] [(.int (-((0 : Int32) + (1 : Int32))))]))
  rw [show (-((0 : Int32) + (1 : Int32))) = (-1 : Int32) from by decide]
  show own_Comes p e below s _ _ _ (s₁.setTop (mkF m 73 #[.val (.ref r0), .val (.int (0 : Int32)), .val (.int (0 : Int32)), .val (.long q3), .second, .val (.int (0 : Int32)), .val (.int ((0 : Int32) - (1 : Int32))), .unset, .unset, .unset] [(.int (-1 : Int32))]))
  refine own_ret X0 (v := some (.int (-1 : Int32))) (fun h => by rw [Bd.returns] at h; cases h) Bd.notSynchronized (by decide) (by decide) ?_ (fun fs hr => retI X0 hx Bd.returns (hb hby d14_73) hr)
  rw [e0]; exact ⟨rfl, N0, rfl⟩
def Q12 (Z : State) (h0 : Heap) (n0 : Nat) (v : Option Value) (h : Heap) (L : List Loc) : Prop := v = some (.int (-1 : Int32)) ∧ Fr n0 L ∧ h = h0
theorem ef_rm12 (m : MethodId) (x0 : Addr) (x1 : Int32) (x2 : Int32) (x3 : Int64) : entryFrame m #[(.ref x0), (.int x1), (.int x2), (.long x3)] 5 = mkF m 0 #[.val (.ref x0), .val (.int x1), .val (.int x2), .val (.long x3), .second] [] := by first | (simp [entryFrame, mkF, argsToLocals, Value.category]; done) | rfl
theorem d12_0 : decode jdk_65_method_55_code 0 = .ok (.aload_n 0, 1) := by decide +kernel
theorem d12_1 : decode jdk_65_method_55_code 1 = .ok (.arraylength, 1) := by decide +kernel
theorem d12_2 : decode jdk_65_method_55_code 2 = .ok (.iload_n 1, 1) := by decide +kernel
theorem d12_3 : decode jdk_65_method_55_code 3 = .ok (.iload_n 2, 1) := by decide +kernel
theorem pd__III_V_386 : parseMethodDescriptor "(III)V" = some ⟨[.int, .int, .int], none⟩ := by decide +kernel
theorem d12_4 : decode jdk_65_method_55_code 4 = .ok (.invokestatic 13, 3) := by decide +kernel
theorem d12_7 : decode jdk_65_method_55_code 7 = .ok (.aload_n 0, 1) := by decide +kernel
theorem d12_8 : decode jdk_65_method_55_code 8 = .ok (.iload_n 1, 1) := by decide +kernel
theorem d12_9 : decode jdk_65_method_55_code 9 = .ok (.iload_n 2, 1) := by decide +kernel
theorem d12_10 : decode jdk_65_method_55_code 10 = .ok (.lload_n 3, 1) := by decide +kernel
theorem pd___JIIJ_I_539 : parseMethodDescriptor "([JIIJ)I" = some ⟨[(.array .long), .int, .int, .long], some .int⟩ := by decide +kernel
theorem d12_11 : decode jdk_65_method_55_code 11 = .ok (.invokestatic 205, 3) := by decide +kernel
theorem d12_14 : decode jdk_65_method_55_code 14 = .ok (.ireturn, 1) := by decide +kernel
set_option maxRecDepth 65536 in
set_option maxHeartbeats 40000000 in
theorem rm12 (l : Launch) (Z : State) (a0 : Array Value) (hw : ∀ d ∈ tables_1, d.before a0 Z = true) (ws : List Jvm.Cond) (r0 : Addr) (q3 : Int64) (k : ClassId) (z : Int32) (vs : List Value) (h0 : Heap) (n0 : Nat) (Z0 : n0 ≤ h0.size) (V0 : Arv Z h0 r0 k .long z vs (.long (0 : Int64))) :
    MetFree l (⟨"java/util/Arrays", "binarySearch", "([JIIJ)I"⟩ : MethodName) (head1 (Jvm.Cond.code (⟨"java/util/Arrays", "binarySearch", "([JIIJ)I"⟩ : MethodName) jdk_65_method_55_code 5 (some .int) :: ws) ({ frames := 1, cells := 0, slots := 0, locals := 21 } : Room)) (fun aX UX => aX = #[(.ref r0), (.int (0 : Int32)), (.int (0 : Int32)), (.long q3)] ∧ Z.Warmed39 UX.vm ∧ UX.heap = h0) (fun _ _ _ _ _ => True) (fun _ UX oX UX' => ∃ vX LX, oX = .returned vX ∧ Q12 Z  h0 n0 vX UX'.heap LX ∧ FrameEnd UX oX UX' LX ({ frames := 1, cells := 0, slots := 0, locals := 21 } : Room).cells ({ frames := 1, cells := 0, slots := 0, locals := 21 } : Room).slots) := by
  refine MetFree.of_bodySF (plainFor_of_name pn_java_util_Arrays) hisR ?_
  intro p e s m args below meth c s₁ Bd hml0 hP hK
  obtain ⟨rfl, hZ, hh⟩ := hP
  have hx := Bd.exec
  have hby := Bd.bytes
  have hml : c.maxLocals = 5 := hml0
  have hown : s.vm.findClass "java/util/Arrays" = some m.cls := findClass_of_methodNamed Bd.named
  have hnm := (name_of_methodNamed Bd.named Bd.method).1
  have X0 : Stand p l e ({ frames := 1, cells := 0, slots := 0, locals := 21 } : Room) s m #[(.ref r0), (.int (0 : Int32)), (.int (0 : Int32)), (.long q3)] below meth c s₁ [] 0 0 := Stand.of_body Bd
  have e0 : s₁.heap = h0 := by rw [← hh, Bd.state]; rfl
  have N0 := Fr.nil n0
  show own_Comes p e below s ({ frames := 1, cells := 0, slots := 0, locals := 21 } : Room).cells ({ frames := 1, cells := 0, slots := 0, locals := 21 } : Room).slots (Q12 Z  h0 n0) _
  rw [show entryFrame m #[(.ref r0), (.int (0 : Int32)), (.int (0 : Int32)), (.long q3)] 5 = mkF m 0 #[.val (.ref r0), .val (.int (0 : Int32)), .val (.int (0 : Int32)), .val (.long q3), .second] [] from ef_rm12 m r0 (0 : Int32) (0 : Int32) q3]
  show own_Comes p e below s _ _ _ (s₁.setTop (mkF m 0 #[.val (.ref r0), .val (.int (0 : Int32)), .val (.int (0 : Int32)), .val (.long q3), .second] []))
  refine own_by (fun _ kS => XS.aloadN X0.here hx rfl (hb hby d12_0) rfl rfl kS) ?_
  show own_Comes p e below s _ _ _ (s₁.setTop (mkF m 1 #[.val (.ref r0), .val (.int (0 : Int32)), .val (.int (0 : Int32)), .val (.long q3), .second] [(.ref r0)]))
  have Vo24 := V0
  obtain ⟨cl24, Ar24, qA24, SA24, NA24, HA24, GA24⟩ := Vo24
  refine own_by (fun _ kS => X0.arraylength hx (by rw [e0]; exact Ar24.1) (State.isArrayOf_alike hZ.alike Ar24.2.1) (g := (mkF m 1 #[.val (.ref r0), .val (.int (0 : Int32)), .val (.int (0 : Int32)), .val (.long q3), .second] [(.ref r0)])) rfl rfl (hb hby d12_1) _ kS) ?_
  rw [len_of SA24 NA24]
  show own_Comes p e below s _ _ _ (s₁.setTop (mkF m 2 #[.val (.ref r0), .val (.int (0 : Int32)), .val (.int (0 : Int32)), .val (.long q3), .second] [(.int z)]))
  refine own_by (fun _ kS => XS.iloadN X0.here hx rfl (hb hby d12_2) rfl kS) ?_
  show own_Comes p e below s _ _ _ (s₁.setTop (mkF m 3 #[.val (.ref r0), .val (.int (0 : Int32)), .val (.int (0 : Int32)), .val (.long q3), .second] [(.int (0 : Int32)), (.int z)]))
  refine own_by (fun _ kS => XS.iloadN X0.here hx rfl (hb hby d12_3) rfl kS) ?_
  show own_Comes p e below s _ _ _ (s₁.setTop (mkF m 4 #[.val (.ref r0), .val (.int (0 : Int32)), .val (.int (0 : Int32)), .val (.long q3), .second] [(.int (0 : Int32)), (.int (0 : Int32)), (.int z)]))
  obtain ⟨_, _, _, _, hz25, _, _⟩ := V0
  obtain ⟨_, _, ⟨T26, L26, k26, n26⟩, -, X26, ⟨Lc26, hQ26, l26, y26, z26⟩, st26⟩ := Jvm.LawKit.callS X0 hx (y := (⟨"java/util/Arrays", "rangeCheck", "(III)V"⟩ : MethodName)) hown (mvT hZ (hw _ (List.mem_of_getElem? (i := 91) rfl))) (mvT hZ (hw _ (List.mem_of_getElem? (i := 92) rfl))) (mvT hZ (hw _ (List.mem_of_getElem? (i := 89) rfl))) (mvT hZ (hw _ (List.mem_of_getElem? (i := 93) rfl))) (by decide) (backOf (W := 0) (rm13 l Z a0 hw [] z h0 n0 Z0 hz25) hZ (hw _ (List.mem_of_getElem? (i := 93) rfl)) (hw _ (List.mem_of_getElem? (i := 89) rfl)) (by decide) (by decide)) (g := (mkF m 4 #[.val (.ref r0), .val (.int (0 : Int32)), .val (.int (0 : Int32)), .val (.long q3), .second] [(.int (0 : Int32)), (.int (0 : Int32)), (.int z)])) rfl (by rw [hml]; rfl) (argsL := [(.int z), (.int (0 : Int32)), (.int (0 : Int32))]) (rest := []) (lenOf pd__III_V_386 rfl) rfl (by show 2 * 0 + _ ≤ _; exact Nat.le_of_eq rfl) (hb hby d12_4) (fun _ _ => ⟨rfl, e0, (by decide : 0 + 0 ≤ _), (by decide : 0 + 0 ≤ _)⟩)
  dsimp only [Pt.U, Pt.locs, Pt.cells, Pt.slots] at X26 l26 y26 z26 st26 hQ26
  subst l26 y26 z26
  obtain ⟨rfl, N26q, e26q⟩ := hQ26
  have N26 := Fr.app N0 N26q
  refine own_by st26 ?_
  have e26 : T26.heap = h0 := e26q
  show own_Comes p e below s _ _ _ (T26.setTop (mkF m 7 #[.val (.ref r0), .val (.int (0 : Int32)), .val (.int (0 : Int32)), .val (.long q3), .second] []))
  refine own_by (fun _ kS => XS.aloadN X26.here hx rfl (hb hby d12_7) rfl rfl kS) ?_
  show own_Comes p e below s _ _ _ (T26.setTop (mkF m 8 #[.val (.ref r0), .val (.int (0 : Int32)), .val (.int (0 : Int32)), .val (.long q3), .second] [(.ref r0)]))
  refine own_by (fun _ kS => XS.iloadN X26.here hx rfl (hb hby d12_8) rfl kS) ?_
  show own_Comes p e below s _ _ _ (T26.setTop (mkF m 9 #[.val (.ref r0), .val (.int (0 : Int32)), .val (.int (0 : Int32)), .val (.long q3), .second] [(.int (0 : Int32)), (.ref r0)]))
  refine own_by (fun _ kS => XS.iloadN X26.here hx rfl (hb hby d12_9) rfl kS) ?_
  show own_Comes p e below s _ _ _ (T26.setTop (mkF m 10 #[.val (.ref r0), .val (.int (0 : Int32)), .val (.int (0 : Int32)), .val (.long q3), .second] [(.int (0 : Int32)), (.int (0 : Int32)), (.ref r0)]))
  refine own_by (fun _ kS => XS.lloadN X26.here hx rfl (hb hby d12_10) rfl kS) ?_
  show own_Comes p e below s _ _ _ (T26.setTop (mkF m 11 #[.val (.ref r0), .val (.int (0 : Int32)), .val (.int (0 : Int32)), .val (.long q3), .second] [(.long q3), (.int (0 : Int32)), (.int (0 : Int32)), (.ref r0)]))
  obtain ⟨_, _, ⟨T27, L27, k27, n27⟩, -, X27, ⟨Lc27, hQ27, l27, y27, z27⟩, st27⟩ := Jvm.LawKit.callS X26 hx (y := (⟨"java/util/Arrays", "binarySearch0", "([JIIJ)I"⟩ : MethodName)) hown (mvT hZ (hw _ (List.mem_of_getElem? (i := 94) rfl))) (mvT hZ (hw _ (List.mem_of_getElem? (i := 95) rfl))) (mvT hZ (hw _ (List.mem_of_getElem? (i := 89) rfl))) (mvT hZ (hw _ (List.mem_of_getElem? (i := 96) rfl))) (by decide) (backOf (W := 0) (rm14 l Z a0 hw [] r0 q3 h0 n0 Z0) hZ (hw _ (List.mem_of_getElem? (i := 96) rfl)) (hw _ (List.mem_of_getElem? (i := 89) rfl)) (by decide) (by decide)) (g := (mkF m 11 #[.val (.ref r0), .val (.int (0 : Int32)), .val (.int (0 : Int32)), .val (.long q3), .second] [(.long q3), (.int (0 : Int32)), (.int (0 : Int32)), (.ref r0)])) rfl (by rw [hml]; rfl) (argsL := [(.ref r0), (.int (0 : Int32)), (.int (0 : Int32)), (.long q3)]) (rest := []) (lenOf pd___JIIJ_I_539 rfl) rfl (by show 2 * 0 + _ ≤ _; exact Nat.le_of_eq rfl) (hb hby d12_11) (fun _ _ => ⟨rfl, e26, (by decide : 0 + 0 ≤ _), (by decide : 0 + 0 ≤ _)⟩)
  dsimp only [Pt.U, Pt.locs, Pt.cells, Pt.slots] at X27 l27 y27 z27 st27 hQ27
  subst l27 y27 z27
  obtain ⟨rfl, N27q, e27q⟩ := hQ27
  have N27 := Fr.app N26 N27q
  refine own_by st27 ?_
  have e27 : T27.heap = h0 := e27q
  show own_Comes p e below s _ _ _ (T27.setTop (mkF m 14 #[.val (.ref r0), .val (.int (0 : Int32)), .val (.int (0 : Int32)), .val (.long q3), .second] [(.int (-1 : Int32))]))
  refine own_ret X27 (v := some (.int (-1 : Int32))) (fun h => by rw [Bd.returns] at h; cases h) Bd.notSynchronized (by decide) (by decide) ?_ (fun fs hr => retI X27 hx Bd.returns (hb hby d12_14) hr)
  rw [e27]; exact ⟨rfl, N27, rfl⟩
def Q11 (Z : State) (r0 : Addr) (q1 : Int64) (P M : Int64) (o t : Addr) (ko kt : ClassId) (z : Int32) (ba : Int64) (nx : Int32) (fr : Int64) (h0 : Heap) (n0 : Nat) (v : Option Value) (h : Heap) (L : List Loc) : Prop := v = none ∧ Fr n0 L ∧ Keep h0 h [r0, t] ∧ ∃ vt, own_AE Z h r0 P M o t ko kt z vt ba (1 : Int32) nx fr ∧ vt.getD (0 : Int32).toNatClampNeg (.long (0 : Int64)) = .long q1
theorem ef_rm11 (m : MethodId) (x0 : Addr) (x1 : Int64) : entryFrame m #[(.ref x0), (.long x1)] 5 = mkF m 0 #[.val (.ref x0), .val (.long x1), .second, .unset, .unset] [] := by first | (simp [entryFrame, mkF, argsToLocals, Value.category]; done) | rfl
theorem d11_0 : decode prog_32_method_6_code 0 = .ok (.aload_n 0, 1) := by decide +kernel
theorem d11_1 : decode prog_32_method_6_code 1 = .ok (.getfield 39, 3) := by decide +kernel
theorem d11_4 : decode prog_32_method_6_code 4 = .ok (.iconst 0, 1) := by decide +kernel
theorem d11_5 : decode prog_32_method_6_code 5 = .ok (.aload_n 0, 1) := by decide +kernel
theorem d11_6 : decode prog_32_method_6_code 6 = .ok (.getfield 42, 3) := by decide +kernel
theorem d11_9 : decode prog_32_method_6_code 9 = .ok (.lload_n 1, 1) := by decide +kernel
theorem d11_10 : decode prog_32_method_6_code 10 = .ok (.invokestatic 81, 3) := by decide +kernel
theorem d11_13 : decode prog_32_method_6_code 13 = .ok (.istore_n 3, 1) := by decide +kernel
theorem d11_14 : decode prog_32_method_6_code 14 = .ok (.iload_n 3, 1) := by decide +kernel
theorem d11_15 : decode prog_32_method_6_code 15 = .ok (.ifCond .ge 10, 3) := by decide +kernel
theorem d11_18 : decode prog_32_method_6_code 18 = .ok (.iload_n 3, 1) := by decide +kernel
theorem d11_19 : decode prog_32_method_6_code 19 = .ok (.ineg, 1) := by decide +kernel
theorem d11_20 : decode prog_32_method_6_code 20 = .ok (.iconst 1, 1) := by decide +kernel
theorem d11_21 : decode prog_32_method_6_code 21 = .ok (.isub, 1) := by decide +kernel
theorem d11_22 : decode prog_32_method_6_code 22 = .ok (.goto 4, 3) := by decide +kernel
theorem d11_26 : decode prog_32_method_6_code 26 = .ok (.istore 4, 2) := by decide +kernel
theorem d11_28 : decode prog_32_method_6_code 28 = .ok (.aload_n 0, 1) := by decide +kernel
theorem d11_29 : decode prog_32_method_6_code 29 = .ok (.getfield 39, 3) := by decide +kernel
theorem d11_32 : decode prog_32_method_6_code 32 = .ok (.iload 4, 2) := by decide +kernel
theorem d11_34 : decode prog_32_method_6_code 34 = .ok (.aload_n 0, 1) := by decide +kernel
theorem d11_35 : decode prog_32_method_6_code 35 = .ok (.getfield 39, 3) := by decide +kernel
theorem d11_38 : decode prog_32_method_6_code 38 = .ok (.iload 4, 2) := by decide +kernel
theorem d11_40 : decode prog_32_method_6_code 40 = .ok (.iconst 1, 1) := by decide +kernel
theorem d11_41 : decode prog_32_method_6_code 41 = .ok (.iadd, 1) := by decide +kernel
theorem d11_42 : decode prog_32_method_6_code 42 = .ok (.aload_n 0, 1) := by decide +kernel
theorem d11_43 : decode prog_32_method_6_code 43 = .ok (.getfield 42, 3) := by decide +kernel
theorem d11_46 : decode prog_32_method_6_code 46 = .ok (.iload 4, 2) := by decide +kernel
theorem d11_48 : decode prog_32_method_6_code 48 = .ok (.isub, 1) := by decide +kernel
theorem d11_49 : decode prog_32_method_6_code 49 = .ok (.invokestatic 87, 3) := by decide +kernel
theorem d11_52 : decode prog_32_method_6_code 52 = .ok (.aload_n 0, 1) := by decide +kernel
theorem d11_53 : decode prog_32_method_6_code 53 = .ok (.getfield 39, 3) := by decide +kernel
theorem d11_56 : decode prog_32_method_6_code 56 = .ok (.iload 4, 2) := by decide +kernel
theorem d11_58 : decode prog_32_method_6_code 58 = .ok (.lload_n 1, 1) := by decide +kernel
theorem d11_59 : decode prog_32_method_6_code 59 = .ok (.lastore, 1) := by decide +kernel
theorem d11_60 : decode prog_32_method_6_code 60 = .ok (.aload_n 0, 1) := by decide +kernel
theorem d11_61 : decode prog_32_method_6_code 61 = .ok (.dup, 1) := by decide +kernel
theorem d11_62 : decode prog_32_method_6_code 62 = .ok (.getfield 42, 3) := by decide +kernel
theorem d11_65 : decode prog_32_method_6_code 65 = .ok (.iconst 1, 1) := by decide +kernel
theorem d11_66 : decode prog_32_method_6_code 66 = .ok (.iadd, 1) := by decide +kernel
theorem d11_67 : decode prog_32_method_6_code 67 = .ok (.putfield 42, 3) := by decide +kernel
theorem d11_70 : decode prog_32_method_6_code 70 = .ok (.return_, 1) := by decide +kernel
set_option maxRecDepth 65536 in
set_option maxHeartbeats 40000000 in
theorem rm11 (l : Launch) (Z : State) (a0 : Array Value) (hw : ∀ d ∈ tables_1, d.before a0 Z = true) (ws : List Jvm.Cond) (r0 : Addr) (q1 : Int64) (P M : Int64) (o t : Addr) (ko kt : ClassId) (z : Int32) (vt : List Value) (ba : Int64) (nx : Int32) (fr : Int64) (h0 : Heap) (n0 : Nat) (Z0 : n0 ≤ h0.size) (hA : own_AE Z h0 r0 P M o t ko kt z vt ba (0 : Int32) nx fr) (g_r0 : n0 ≤ r0) (g_t : n0 ≤ t) (hz : 1 ≤ z.toInt ∧ z.toInt ≤ 8) :
    MetFree l (⟨"com/example/hetman/hetman/peer/ArrivalEstimator", "insert", "(J)V"⟩ : MethodName) (head1 (Jvm.Cond.code (⟨"com/example/hetman/hetman/peer/ArrivalEstimator", "insert", "(J)V"⟩ : MethodName) prog_32_method_6_code 5 none :: ws) ({ frames := 2, cells := 0, slots := 0, locals := 40 } : Room)) (fun aX UX => aX = #[(.ref r0), (.long q1)] ∧ Z.Warmed39 UX.vm ∧ UX.heap = h0) (fun _ _ _ _ _ => True) (fun _ UX oX UX' => ∃ vX LX, oX = .returned vX ∧ Q11 Z r0 q1 P M o t ko kt z ba nx fr h0 n0 vX UX'.heap LX ∧ FrameEnd UX oX UX' LX ({ frames := 2, cells := 0, slots := 0, locals := 40 } : Room).cells ({ frames := 2, cells := 0, slots := 0, locals := 40 } : Room).slots) := by
  refine MetFree.of_bodySF (plainFor_of_name pn_com_example_hetman_hetman_peer_ArrivalEstimator) hisR ?_
  intro p e s m args below meth c s₁ Bd hml0 hP hK
  obtain ⟨rfl, hZ, hh⟩ := hP
  have hx := Bd.exec
  have hby := Bd.bytes
  have hml : c.maxLocals = 5 := hml0
  have hown : s.vm.findClass "com/example/hetman/hetman/peer/ArrivalEstimator" = some m.cls := findClass_of_methodNamed Bd.named
  have hnm := (name_of_methodNamed Bd.named Bd.method).1
  have X0 : Stand p l e ({ frames := 2, cells := 0, slots := 0, locals := 40 } : Room) s m #[(.ref r0), (.long q1)] below meth c s₁ [] 0 0 := Stand.of_body Bd
  have e0 : s₁.heap = h0 := by rw [← hh, Bd.state]; rfl
  have N0 := Fr.nil n0
  show own_Comes p e below s ({ frames := 2, cells := 0, slots := 0, locals := 40 } : Room).cells ({ frames := 2, cells := 0, slots := 0, locals := 40 } : Room).slots (Q11 Z r0 q1 P M o t ko kt z ba nx fr h0 n0) _
  rw [show entryFrame m #[(.ref r0), (.long q1)] 5 = mkF m 0 #[.val (.ref r0), .val (.long q1), .second, .unset, .unset] [] from ef_rm11 m r0 q1]
  show own_Comes p e below s _ _ _ (s₁.setTop (mkF m 0 #[.val (.ref r0), .val (.long q1), .second, .unset, .unset] []))
  obtain ⟨EX28, Fp28, Fm28, Fo28, Ft28, Fb28, Fc28, Fn28, Ff28, ⟨vl28, Fl28⟩, ⟨va28, Fa28⟩, ⟨vo28, Vo28, ho28⟩, Vt28, ht28, nA28, nB28, nC28⟩ := hA
  refine own_by (fun _ kS => XS.aloadN X0.here hx rfl (hb hby d11_0) rfl rfl kS) ?_
  show own_Comes p e below s _ _ _ (s₁.setTop (mkF m 1 #[.val (.ref r0), .val (.long q1), .second, .unset, .unset] [(.ref r0)]))
  obtain ⟨T29, X29, e29, st29⟩ := getF X0 hx hZ hown (host := "") (Or.inl (hw _ (List.mem_of_getElem? (i := 58) rfl))) Via.refl e0 Ft28 (g := (mkF m 1 #[.val (.ref r0), .val (.long q1), .second, .unset, .unset] [(.ref r0)])) rfl rfl (hb hby d11_1)
  refine own_by st29 ?_
  show own_Comes p e below s _ _ _ (T29.setTop (mkF m 4 #[.val (.ref r0), .val (.long q1), .second, .unset, .unset] [(.ref t)]))
  refine own_by (fun _ kS => XS.iconst X29.here hx rfl (hb hby d11_4) kS) ?_
  show own_Comes p e below s _ _ _ (T29.setTop (mkF m 5 #[.val (.ref r0), .val (.long q1), .second, .unset, .unset] [(.int (0 : Int32)), (.ref t)]))
  refine own_by (fun _ kS => XS.aloadN X29.here hx rfl (hb hby d11_5) rfl rfl kS) ?_
  show own_Comes p e below s _ _ _ (T29.setTop (mkF m 6 #[.val (.ref r0), .val (.long q1), .second, .unset, .unset] [(.ref r0), (.int (0 : Int32)), (.ref t)]))
  obtain ⟨T30, X30, e30, st30⟩ := getF X29 hx hZ hown (host := "") (Or.inl (hw _ (List.mem_of_getElem? (i := 65) rfl))) Via.refl e29 Fc28 (g := (mkF m 6 #[.val (.ref r0), .val (.long q1), .second, .unset, .unset] [(.ref r0), (.int (0 : Int32)), (.ref t)])) rfl rfl (hb hby d11_6)
  refine own_by st30 ?_
  show own_Comes p e below s _ _ _ (T30.setTop (mkF m 9 #[.val (.ref r0), .val (.long q1), .second, .unset, .unset] [(.int (0 : Int32)), (.int (0 : Int32)), (.ref t)]))
  refine own_by (fun _ kS => XS.lloadN X30.here hx rfl (hb hby d11_9) rfl kS) ?_
  show own_Comes p e below s _ _ _ (T30.setTop (mkF m 10 #[.val (.ref r0), .val (.long q1), .second, .unset, .unset] [(.long q1), (.int (0 : Int32)), (.int (0 : Int32)), (.ref t)]))
  obtain ⟨_, _, ⟨T31, L31, k31, n31⟩, -, X31, ⟨Lc31, hQ31, l31, y31, z31⟩, st31⟩ := Jvm.LawKit.callS X30 hx (y := (⟨"java/util/Arrays", "binarySearch", "([JIIJ)I"⟩ : MethodName)) hown (mvT hZ (hw _ (List.mem_of_getElem? (i := 87) rfl))) (mvT hZ (hw _ (List.mem_of_getElem? (i := 88) rfl))) (mvT hZ (hw _ (List.mem_of_getElem? (i := 89) rfl))) (mvT hZ (hw _ (List.mem_of_getElem? (i := 90) rfl))) (by decide) (backOf (W := 0) (rm12 l Z a0 hw [] t q1 kt z vt h0 n0 Z0 Vt28) hZ (hw _ (List.mem_of_getElem? (i := 90) rfl)) (hw _ (List.mem_of_getElem? (i := 89) rfl)) (by decide) (by decide)) (g := (mkF m 10 #[.val (.ref r0), .val (.long q1), .second, .unset, .unset] [(.long q1), (.int (0 : Int32)), (.int (0 : Int32)), (.ref t)])) rfl (by rw [hml]; rfl) (argsL := [(.ref t), (.int (0 : Int32)), (.int (0 : Int32)), (.long q1)]) (rest := []) (lenOf pd___JIIJ_I_539 rfl) rfl (by show 2 * 0 + _ ≤ _; exact Nat.le_of_eq rfl) (hb hby d11_10) (fun _ _ => ⟨rfl, e30, (by decide : 0 + 0 ≤ _), (by decide : 0 + 0 ≤ _)⟩)
  dsimp only [Pt.U, Pt.locs, Pt.cells, Pt.slots] at X31 l31 y31 z31 st31 hQ31
  subst l31 y31 z31
  obtain ⟨rfl, N31q, e31q⟩ := hQ31
  have N31 := Fr.app N0 N31q
  refine own_by st31 ?_
  have e31 : T31.heap = h0 := e31q
  show own_Comes p e below s _ _ _ (T31.setTop (mkF m 13 #[.val (.ref r0), .val (.long q1), .second, .unset, .unset] [(.int (-1 : Int32))]))
  refine own_by (fun _ kS => XS.istoreN X31.here hx rfl (hb hby d11_13) rfl (l' := #[.val (.ref r0), .val (.long q1), .second, .val (.int (-1 : Int32)), .unset]) rfl kS) ?_
  show own_Comes p e below s _ _ _ (T31.setTop (mkF m 14 #[.val (.ref r0), .val (.long q1), .second, .val (.int (-1 : Int32)), .unset] []))
  refine own_by (fun _ kS => XS.iloadN X31.here hx rfl (hb hby d11_14) rfl kS) ?_
  show own_Comes p e below s _ _ _ (T31.setTop (mkF m 15 #[.val (.ref r0), .val (.long q1), .second, .val (.int (-1 : Int32)), .unset] [(.int (-1 : Int32))]))
  have hb32 : (-1 : Int32) < (0 : Int32) := by decide
  refine own_by (fun _ kS => XS.ifNo X31.here hx rfl (hb hby d11_15) rfl ((if0 _ _).trans (tlt hb32).2.1) kS) ?_
  show own_Comes p e below s _ _ _ (T31.setTop (mkF m 18 #[.val (.ref r0), .val (.long q1), .second, .val (.int (-1 : Int32)), .unset] []))
  refine own_by (fun _ kS => XS.iloadN X31.here hx rfl (hb hby d11_18) rfl kS) ?_
  show own_Comes p e below s _ _ _ (T31.setTop (mkF m 19 #[.val (.ref r0), .val (.long q1), .second, .val (.int (-1 : Int32)), .unset] [(.int (-1 : Int32))]))
  refine own_by (fun _ kS => XS.ineg X31.here hx rfl (hb hby d11_19) rfl kS) ?_
  show own_Comes p e below s _ _ _ (T31.setTop (mkF m 20 #[.val (.ref r0), .val (.long q1), .second, .val (.int (-1 : Int32)), .unset] [(.int (-(-1 : Int32)))]))
  refine own_by (fun _ kS => XS.iconst X31.here hx rfl (hb hby d11_20) kS) ?_
  show own_Comes p e below s _ _ _ (T31.setTop (mkF m 21 #[.val (.ref r0), .val (.long q1), .second, .val (.int (-1 : Int32)), .unset] [(.int (1 : Int32)), (.int (-(-1 : Int32)))]))
  refine own_by (fun _ kS => XS.isub X31.here hx rfl (hb hby d11_21) rfl kS) ?_
  show own_Comes p e below s _ _ _ (T31.setTop (mkF m 22 #[.val (.ref r0), .val (.long q1), .second, .val (.int (-1 : Int32)), .unset] [(.int ((-(-1 : Int32)) - (1 : Int32)))]))
  refine own_by (fun _ kS => XS.goto X31.here hx rfl (pc0 := 22) (pc' := 26) rfl (hb hby d11_22) (by decide) (by decide) kS) ?_
  show own_Comes p e below s _ _ _ (T31.setTop (mkF m 26 #[.val (.ref r0), .val (.long q1), .second, .val (.int (-1 : Int32)), .unset] [(.int ((-(-1 : Int32)) - (1 : Int32)))]))
  rw [show ((-(-1 : Int32)) - (1 : Int32)) = (0 : Int32) from by decide]
  show own_Comes p e below s _ _ _ (T31.setTop (mkF m 26 #[.val (.ref r0), .val (.long q1), .second, .val (.int (-1 : Int32)), .unset] [(.int (0 : Int32))]))
  refine own_by (fun _ kS => XS.istore X31.here hx rfl (hb hby d11_26) rfl (l' := #[.val (.ref r0), .val (.long q1), .second, .val (.int (-1 : Int32)), .val (.int (0 : Int32))]) rfl kS) ?_
  show own_Comes p e below s _ _ _ (T31.setTop (mkF m 28 #[.val (.ref r0), .val (.long q1), .second, .val (.int (-1 : Int32)), .val (.int (0 : Int32))] []))
  refine own_by (fun _ kS => XS.aloadN X31.here hx rfl (hb hby d11_28) rfl rfl kS) ?_
  show own_Comes p e below s _ _ _ (T31.setTop (mkF m 29 #[.val (.ref r0), .val (.long q1), .second, .val (.int (-1 : Int32)), .val (.int (0 : Int32))] [(.ref r0)]))
  obtain ⟨T33, X33, e33, st33⟩ := getF X31 hx hZ hown (host := "") (Or.inl (hw _ (List.mem_of_getElem? (i := 58) rfl))) Via.refl e31 Ft28 (g := (mkF m 29 #[.val (.ref r0), .val (.long q1), .second, .val (.int (-1 : Int32)), .val (.int (0 : Int32))] [(.ref r0)])) rfl rfl (hb hby d11_29)
  refine own_by st33 ?_
  show own_Comes p e below s _ _ _ (T33.setTop (mkF m 32 #[.val (.ref r0), .val (.long q1), .second, .val (.int (-1 : Int32)), .val (.int (0 : Int32))] [(.ref t)]))
  refine own_by (fun _ kS => XS.iload X33.here hx rfl (hb hby d11_32) rfl kS) ?_
  show own_Comes p e below s _ _ _ (T33.setTop (mkF m 34 #[.val (.ref r0), .val (.long q1), .second, .val (.int (-1 : Int32)), .val (.int (0 : Int32))] [(.int (0 : Int32)), (.ref t)]))
  refine own_by (fun _ kS => XS.aloadN X33.here hx rfl (hb hby d11_34) rfl rfl kS) ?_
  show own_Comes p e below s _ _ _ (T33.setTop (mkF m 35 #[.val (.ref r0), .val (.long q1), .second, .val (.int (-1 : Int32)), .val (.int (0 : Int32))] [(.ref r0), (.int (0 : Int32)), (.ref t)]))
  obtain ⟨T34, X34, e34, st34⟩ := getF X33 hx hZ hown (host := "") (Or.inl (hw _ (List.mem_of_getElem? (i := 58) rfl))) Via.refl e33 Ft28 (g := (mkF m 35 #[.val (.ref r0), .val (.long q1), .second, .val (.int (-1 : Int32)), .val (.int (0 : Int32))] [(.ref r0), (.int (0 : Int32)), (.ref t)])) rfl rfl (hb hby d11_35)
  refine own_by st34 ?_
  show own_Comes p e below s _ _ _ (T34.setTop (mkF m 38 #[.val (.ref r0), .val (.long q1), .second, .val (.int (-1 : Int32)), .val (.int (0 : Int32))] [(.ref t), (.int (0 : Int32)), (.ref t)]))
  refine own_by (fun _ kS => XS.iload X34.here hx rfl (hb hby d11_38) rfl kS) ?_
  show own_Comes p e below s _ _ _ (T34.setTop (mkF m 40 #[.val (.ref r0), .val (.long q1), .second, .val (.int (-1 : Int32)), .val (.int (0 : Int32))] [(.int (0 : Int32)), (.ref t), (.int (0 : Int32)), (.ref t)]))
  refine own_by (fun _ kS => XS.iconst X34.here hx rfl (hb hby d11_40) kS) ?_
  show own_Comes p e below s _ _ _ (T34.setTop (mkF m 41 #[.val (.ref r0), .val (.long q1), .second, .val (.int (-1 : Int32)), .val (.int (0 : Int32))] [(.int (1 : Int32)), (.int (0 : Int32)), (.ref t), (.int (0 : Int32)), (.ref t)]))
  refine own_by (fun _ kS => XS.iadd X34.here hx rfl (hb hby d11_41) rfl kS) ?_
  show own_Comes p e below s _ _ _ (T34.setTop (mkF m 42 #[.val (.ref r0), .val (.long q1), .second, .val (.int (-1 : Int32)), .val (.int (0 : Int32))] [(.int ((0 : Int32) + (1 : Int32))), (.ref t), (.int (0 : Int32)), (.ref t)]))
  refine own_by (fun _ kS => XS.aloadN X34.here hx rfl (hb hby d11_42) rfl rfl kS) ?_
  show own_Comes p e below s _ _ _ (T34.setTop (mkF m 43 #[.val (.ref r0), .val (.long q1), .second, .val (.int (-1 : Int32)), .val (.int (0 : Int32))] [(.ref r0), (.int ((0 : Int32) + (1 : Int32))), (.ref t), (.int (0 : Int32)), (.ref t)]))
  obtain ⟨T35, X35, e35, st35⟩ := getF X34 hx hZ hown (host := "") (Or.inl (hw _ (List.mem_of_getElem? (i := 65) rfl))) Via.refl e34 Fc28 (g := (mkF m 43 #[.val (.ref r0), .val (.long q1), .second, .val (.int (-1 : Int32)), .val (.int (0 : Int32))] [(.ref r0), (.int ((0 : Int32) + (1 : Int32))), (.ref t), (.int (0 : Int32)), (.ref t)])) rfl rfl (hb hby d11_43)
  refine own_by st35 ?_
  show own_Comes p e below s _ _ _ (T35.setTop (mkF m 46 #[.val (.ref r0), .val (.long q1), .second, .val (.int (-1 : Int32)), .val (.int (0 : Int32))] [(.int (0 : Int32)), (.int ((0 : Int32) + (1 : Int32))), (.ref t), (.int (0 : Int32)), (.ref t)]))
  refine own_by (fun _ kS => XS.iload X35.here hx rfl (hb hby d11_46) rfl kS) ?_
  show own_Comes p e below s _ _ _ (T35.setTop (mkF m 48 #[.val (.ref r0), .val (.long q1), .second, .val (.int (-1 : Int32)), .val (.int (0 : Int32))] [(.int (0 : Int32)), (.int (0 : Int32)), (.int ((0 : Int32) + (1 : Int32))), (.ref t), (.int (0 : Int32)), (.ref t)]))
  refine own_by (fun _ kS => XS.isub X35.here hx rfl (hb hby d11_48) rfl kS) ?_
  show own_Comes p e below s _ _ _ (T35.setTop (mkF m 49 #[.val (.ref r0), .val (.long q1), .second, .val (.int (-1 : Int32)), .val (.int (0 : Int32))] [(.int ((0 : Int32) - (0 : Int32))), (.int ((0 : Int32) + (1 : Int32))), (.ref t), (.int (0 : Int32)), (.ref t)]))
  rw [show ((0 : Int32) + (1 : Int32)) = (1 : Int32) from by decide]
  show own_Comes p e below s _ _ _ (T35.setTop (mkF m 49 #[.val (.ref r0), .val (.long q1), .second, .val (.int (-1 : Int32)), .val (.int (0 : Int32))] [(.int ((0 : Int32) - (0 : Int32))), (.int (1 : Int32)), (.ref t), (.int (0 : Int32)), (.ref t)]))
  rw [show ((0 : Int32) - (0 : Int32)) = (0 : Int32) from by decide]
  show own_Comes p e below s _ _ _ (T35.setTop (mkF m 49 #[.val (.ref r0), .val (.long q1), .second, .val (.int (-1 : Int32)), .val (.int (0 : Int32))] [(.int (0 : Int32)), (.int (1 : Int32)), (.ref t), (.int (0 : Int32)), (.ref t)]))
  obtain ⟨T36, h36, L36, X36, e36, N36, K36, V36, st36⟩ := cpA X35 hx hZ hown (hw _ (List.mem_of_getElem? (i := 97) rfl)) (hw _ (List.mem_of_getElem? (i := 100) rfl)) (hw _ (List.mem_of_getElem? (i := 98) rfl)) (hw _ (List.mem_of_getElem? (i := 99) rfl)) e35 (sp := (0 : Int32)) (dp := (1 : Int32)) (nn := (0 : Int32)) (us := []) Vt28 Vt28 (Or.inl ⟨rfl, rfl⟩) (by decide) (by decide) (by decide) own_in2 (own_in1 hz) rfl (by show 1 + 0 ≤ _; exact ht28) N31 g_t (g := (mkF m 49 #[.val (.ref r0), .val (.long q1), .second, .val (.int (-1 : Int32)), .val (.int (0 : Int32))] [(.int (0 : Int32)), (.int (1 : Int32)), (.ref t), (.int (0 : Int32)), (.ref t)])) rfl (by rw [hml]; rfl) rfl (hb hby d11_49) (by decide) (W := 0) (by show 2 * 0 + _ ≤ _; exact Nat.le_of_eq rfl) (by decide)
  refine own_by st36 ?_
  obtain ⟨vc, hvc⟩ : ∃ u, u = (vt.take (1 : Int32).toNatClampNeg ++ ([] : List Value) ++ vt.drop ((1 : Int32).toNatClampNeg + (0 : Int32).toNatClampNeg)) := ⟨_, rfl⟩
  rw [← hvc] at V36
  have hcl : 0 < vc.length := by rw [hvc]; simp only [List.length_append, List.length_take, List.length_drop]; have := ht28; show 0 < min 1 _ + 0 + _; omega
  show own_Comes p e below s _ _ _ (T36.setTop (mkF m 52 #[.val (.ref r0), .val (.long q1), .second, .val (.int (-1 : Int32)), .val (.int (0 : Int32))] []))
  refine own_by (fun _ kS => XS.aloadN X36.here hx rfl (hb hby d11_52) rfl rfl kS) ?_
  show own_Comes p e below s _ _ _ (T36.setTop (mkF m 53 #[.val (.ref r0), .val (.long q1), .second, .val (.int (-1 : Int32)), .val (.int (0 : Int32))] [(.ref r0)]))
  obtain ⟨T37, X37, e37, st37⟩ := getF X36 hx hZ hown (host := "") (Or.inl (hw _ (List.mem_of_getElem? (i := 58) rfl))) Via.refl e36 (Ft28.keep K36 (ninS nB28 nin0)) (g := (mkF m 53 #[.val (.ref r0), .val (.long q1), .second, .val (.int (-1 : Int32)), .val (.int (0 : Int32))] [(.ref r0)])) rfl rfl (hb hby d11_53)
  refine own_by st37 ?_
  show own_Comes p e below s _ _ _ (T37.setTop (mkF m 56 #[.val (.ref r0), .val (.long q1), .second, .val (.int (-1 : Int32)), .val (.int (0 : Int32))] [(.ref t)]))
  refine own_by (fun _ kS => XS.iload X37.here hx rfl (hb hby d11_56) rfl kS) ?_
  show own_Comes p e below s _ _ _ (T37.setTop (mkF m 58 #[.val (.ref r0), .val (.long q1), .second, .val (.int (-1 : Int32)), .val (.int (0 : Int32))] [(.int (0 : Int32)), (.ref t)]))
  refine own_by (fun _ kS => XS.lloadN X37.here hx rfl (hb hby d11_58) rfl kS) ?_
  show own_Comes p e below s _ _ _ (T37.setTop (mkF m 59 #[.val (.ref r0), .val (.long q1), .second, .val (.int (-1 : Int32)), .val (.int (0 : Int32))] [(.long q1), (.int (0 : Int32)), (.ref t)]))
  have Vo38 := V36
  obtain ⟨cl38, Ar38, qA38, SA38, NA38, HA38, GA38⟩ := Vo38
  have hin38 : ¬ ((0 : Int32) < 0 ∨ cl38.slots.size ≤ ((0 : Int32)).toNatClampNeg) := inb_of SA38 (own_in0 hz)
  obtain ⟨T39, h39, X39, e39, W39, st39⟩ := stJ X37 hx hZ e37 Ar38 (j := (0 : Int32)) hin38 (g := (mkF m 59 #[.val (.ref r0), .val (.long q1), .second, .val (.int (-1 : Int32)), .val (.int (0 : Int32))] [(.long q1), (.int (0 : Int32)), (.ref t)])) rfl rfl (hb hby d11_59)
  refine own_by st39 ?_
  have V39 : Arv Z h39 t kt .long z (vc.set 0 (.long q1)) (.long (0 : Int64)) := Arv.set Ar38 qA38 SA38 NA38 HA38 GA38 rfl W39 0 rfl hcl
  have N39 := Fr.snoc X39 N36 g_t
  show own_Comes p e below s _ _ _ (T39.setTop (mkF m 60 #[.val (.ref r0), .val (.long q1), .second, .val (.int (-1 : Int32)), .val (.int (0 : Int32))] []))
  refine own_by (fun _ kS => XS.aloadN X39.here hx rfl (hb hby d11_60) rfl rfl kS) ?_
  show own_Comes p e below s _ _ _ (T39.setTop (mkF m 61 #[.val (.ref r0), .val (.long q1), .second, .val (.int (-1 : Int32)), .val (.int (0 : Int32))] [(.ref r0)]))
  refine own_by (fun _ kS => XS.dup X39.here hx rfl (hb hby d11_61) rfl rfl kS) ?_
  show own_Comes p e below s _ _ _ (T39.setTop (mkF m 62 #[.val (.ref r0), .val (.long q1), .second, .val (.int (-1 : Int32)), .val (.int (0 : Int32))] [(.ref r0), (.ref r0)]))
  have c40 := ((Fc28.keep K36 (ninS nB28 nin0)).other W39 (Or.inl nB28))
  obtain ⟨T41, X41, e41, st41⟩ := getF X39 hx hZ hown (host := "") (Or.inl (hw _ (List.mem_of_getElem? (i := 65) rfl))) Via.refl e39 c40 (g := (mkF m 62 #[.val (.ref r0), .val (.long q1), .second, .val (.int (-1 : Int32)), .val (.int (0 : Int32))] [(.ref r0), (.ref r0)])) rfl rfl (hb hby d11_62)
  refine own_by st41 ?_
  show own_Comes p e below s _ _ _ (T41.setTop (mkF m 65 #[.val (.ref r0), .val (.long q1), .second, .val (.int (-1 : Int32)), .val (.int (0 : Int32))] [(.int (0 : Int32)), (.ref r0)]))
  refine own_by (fun _ kS => XS.iconst X41.here hx rfl (hb hby d11_65) kS) ?_
  show own_Comes p e below s _ _ _ (T41.setTop (mkF m 66 #[.val (.ref r0), .val (.long q1), .second, .val (.int (-1 : Int32)), .val (.int (0 : Int32))] [(.int (1 : Int32)), (.int (0 : Int32)), (.ref r0)]))
  refine own_by (fun _ kS => XS.iadd X41.here hx rfl (hb hby d11_66) rfl kS) ?_
  show own_Comes p e below s _ _ _ (T41.setTop (mkF m 67 #[.val (.ref r0), .val (.long q1), .second, .val (.int (-1 : Int32)), .val (.int (0 : Int32))] [(.int ((0 : Int32) + (1 : Int32))), (.ref r0)]))
  obtain ⟨T42, h42, X42, e42, W42, st42⟩ := putF X41 hx hZ hown (host := "") (Or.inl (hw _ (List.mem_of_getElem? (i := 65) rfl))) Via.refl e41 c40 ((EX28.keep K36).wr W39) (Or.inl (hw _ (List.mem_of_getElem? (i := 66) rfl))) (hw _ (List.mem_of_getElem? (i := 5) rfl)) (ty := .int) (by decide) rfl rfl (g := (mkF m 67 #[.val (.ref r0), .val (.long q1), .second, .val (.int (-1 : Int32)), .val (.int (0 : Int32))] [(.int ((0 : Int32) + (1 : Int32))), (.ref r0)])) rfl rfl (hb hby d11_67)
  refine own_by st42 ?_
  have Fw42 := c40.same W42
  have N42 := Fr.snoc X42 N39 g_r0
  show own_Comes p e below s _ _ _ (T42.setTop (mkF m 70 #[.val (.ref r0), .val (.long q1), .second, .val (.int (-1 : Int32)), .val (.int (0 : Int32))] []))
  have c43 := (((Fp28.keep K36 (ninS nB28 nin0)).other W39 (Or.inl nB28)).other W42 (Or.inr (slot_ne (Or.inr (hw _ (List.mem_of_getElem? (i := 47) rfl))) (Or.inl (hw _ (List.mem_of_getElem? (i := 66) rfl))) (by decide) (t := .long) (t' := .int) (by decide) (by decide))))
  have c44 := (((Fm28.keep K36 (ninS nB28 nin0)).other W39 (Or.inl nB28)).other W42 (Or.inr (slot_ne (Or.inr (hw _ (List.mem_of_getElem? (i := 54) rfl))) (Or.inl (hw _ (List.mem_of_getElem? (i := 66) rfl))) (by decide) (t := .long) (t' := .int) (by decide) (by decide))))
  have c45 := (((Fo28.keep K36 (ninS nB28 nin0)).other W39 (Or.inl nB28)).other W42 (Or.inr (slot_ne (Or.inr (hw _ (List.mem_of_getElem? (i := 57) rfl))) (Or.inl (hw _ (List.mem_of_getElem? (i := 66) rfl))) (by decide) (t := (.array .long)) (t' := .int) (by decide) (by decide))))
  have c46 := (((Ft28.keep K36 (ninS nB28 nin0)).other W39 (Or.inl nB28)).other W42 (Or.inr (slot_ne (Or.inr (hw _ (List.mem_of_getElem? (i := 59) rfl))) (Or.inl (hw _ (List.mem_of_getElem? (i := 66) rfl))) (by decide) (t := (.array .long)) (t' := .int) (by decide) (by decide))))
  have c47 := (((Fb28.keep K36 (ninS nB28 nin0)).other W39 (Or.inl nB28)).other W42 (Or.inr (slot_ne (Or.inl (hw _ (List.mem_of_getElem? (i := 82) rfl))) (Or.inl (hw _ (List.mem_of_getElem? (i := 66) rfl))) (by decide) (t := .long) (t' := .int) (by decide) (by decide))))
  have c48 := (((Fn28.keep K36 (ninS nB28 nin0)).other W39 (Or.inl nB28)).other W42 (Or.inr (slot_ne (Or.inl (hw _ (List.mem_of_getElem? (i := 68) rfl))) (Or.inl (hw _ (List.mem_of_getElem? (i := 66) rfl))) (by decide) (t := .int) (t' := .int) (by decide) (by decide))))
  have c49 := (((Ff28.keep K36 (ninS nB28 nin0)).other W39 (Or.inl nB28)).other W42 (Or.inr (slot_ne (Or.inl (hw _ (List.mem_of_getElem? (i := 70) rfl))) (Or.inl (hw _ (List.mem_of_getElem? (i := 66) rfl))) (by decide) (t := .long) (t' := .int) (by decide) (by decide))))
  have c50 := (((Fl28.keep K36 (ninS nB28 nin0)).other W39 (Or.inl nB28)).other W42 (Or.inr (slot_ne (Or.inl (hw _ (List.mem_of_getElem? (i := 102) rfl))) (Or.inl (hw _ (List.mem_of_getElem? (i := 66) rfl))) (by decide) (t := .long) (t' := .int) (by decide) (by decide))))
  have c51 := (((Fa28.keep K36 (ninS nB28 nin0)).other W39 (Or.inl nB28)).other W42 (Or.inr (slot_ne (Or.inl (hw _ (List.mem_of_getElem? (i := 104) rfl))) (Or.inl (hw _ (List.mem_of_getElem? (i := 66) rfl))) (by decide) (t := .long) (t' := .int) (by decide) (by decide))))
  have c52 := (((Vo28.keep K36 (ninS nC28 nin0)).other W39 nC28).other W42 (Ne.symm nA28))
  refine own_ret X42 (v := none) (fun _ => rfl) Bd.notSynchronized (by decide) (by decide) ?_ (fun fs hr => X42.returnOut hx Bd.returns (hb hby d11_70) hr)
  rw [e42]; exact ⟨rfl, N42, ((((Keep.refl _ _).trans K36 (allS (Or.inl (List.mem_of_getElem? (i := 1) rfl)) all0)).wr W39 (Or.inl (List.mem_of_getElem? (i := 1) rfl))).wr W42 (Or.inl (List.mem_of_getElem? (i := 0) rfl))), _, ⟨(((EX28.keep K36).wr W39).wr W42), c43, c44, c45, c46, c47, Fw42, c48, c49, ⟨_, c50⟩, ⟨_, c51⟩, ⟨_, c52, ho28⟩, (V39.other W42 (Ne.symm nB28)), (by rw [List.length_set]; exact hcl), nA28, nB28, nC28⟩, own_get0 hcl⟩
def Q15 (Z : State) (xx : Int64) (h0 : Heap) (n0 : Nat) (v : Option Value) (h : Heap) (L : List Loc) : Prop := v = some (.long (xx + (0 : Int64))) ∧ Fr n0 L ∧ h = h0
theorem ef_rm15 (m : MethodId) (x0 : Addr) : entryFrame m #[(.ref x0)] 5 = mkF m 0 #[.val (.ref x0), .unset, .unset, .unset, .unset] [] := by first | (simp [entryFrame, mkF, argsToLocals, Value.category]; done) | rfl
theorem d15_0 : decode prog_32_method_8_code 0 = .ok (.aload_n 0, 1) := by decide +kernel
theorem d15_1 : decode prog_32_method_8_code 1 = .ok (.getfield 39, 3) := by decide +kernel
theorem d15_4 : decode prog_32_method_8_code 4 = .ok (.aload_n 0, 1) := by decide +kernel
theorem d15_5 : decode prog_32_method_8_code 5 = .ok (.getfield 42, 3) := by decide +kernel
theorem d15_8 : decode prog_32_method_8_code 8 = .ok (.iconst 1, 1) := by decide +kernel
theorem d15_9 : decode prog_32_method_8_code 9 = .ok (.isub, 1) := by decide +kernel
theorem d15_10 : decode prog_32_method_8_code 10 = .ok (.iconst 2, 1) := by decide +kernel
theorem d15_11 : decode prog_32_method_8_code 11 = .ok (.idiv, 1) := by decide +kernel
theorem d15_12 : decode prog_32_method_8_code 12 = .ok (.laload, 1) := by decide +kernel
theorem d15_13 : decode prog_32_method_8_code 13 = .ok (.lstore_n 1, 1) := by decide +kernel
theorem d15_14 : decode prog_32_method_8_code 14 = .ok (.aload_n 0, 1) := by decide +kernel
theorem d15_15 : decode prog_32_method_8_code 15 = .ok (.getfield 39, 3) := by decide +kernel
theorem d15_18 : decode prog_32_method_8_code 18 = .ok (.aload_n 0, 1) := by decide +kernel
theorem d15_19 : decode prog_32_method_8_code 19 = .ok (.getfield 42, 3) := by decide +kernel
theorem d15_22 : decode prog_32_method_8_code 22 = .ok (.iconst 2, 1) := by decide +kernel
theorem d15_23 : decode prog_32_method_8_code 23 = .ok (.idiv, 1) := by decide +kernel
theorem d15_24 : decode prog_32_method_8_code 24 = .ok (.laload, 1) := by decide +kernel
theorem d15_25 : decode prog_32_method_8_code 25 = .ok (.lstore_n 3, 1) := by decide +kernel
theorem d15_26 : decode prog_32_method_8_code 26 = .ok (.lload_n 1, 1) := by decide +kernel
theorem d15_27 : decode prog_32_method_8_code 27 = .ok (.lload_n 3, 1) := by decide +kernel
theorem d15_28 : decode prog_32_method_8_code 28 = .ok (.lload_n 1, 1) := by decide +kernel
theorem d15_29 : decode prog_32_method_8_code 29 = .ok (.lsub, 1) := by decide +kernel
theorem d15_30 : decode prog_32_method_8_code 30 = .ok (.iconst 2, 1) := by decide +kernel
theorem pd__JI_J_302 : parseMethodDescriptor "(JI)J" = some ⟨[.long, .int], some .long⟩ := by decide +kernel
theorem d15_31 : decode prog_32_method_8_code 31 = .ok (.invokestatic 93, 3) := by decide +kernel
theorem d15_34 : decode prog_32_method_8_code 34 = .ok (.ladd, 1) := by decide +kernel
theorem d15_35 : decode prog_32_method_8_code 35 = .ok (.lreturn, 1) := by decide +kernel
set_option maxRecDepth 65536 in
set_option maxHeartbeats 40000000 in
theorem rm15 (l : Launch) (Z : State) (a0 : Array Value) (hw : ∀ d ∈ tables_1, d.before a0 Z = true) (ws : List Jvm.Cond) (r0 : Addr) (P M : Int64) (o t : Addr) (ko kt : ClassId) (z : Int32) (vt : List Value) (ba : Int64) (nx : Int32) (fr xx : Int64) (h0 : Heap) (n0 : Nat) (Z0 : n0 ≤ h0.size) (hA : own_AE Z h0 r0 P M o t ko kt z vt ba (1 : Int32) nx fr) (hz : 1 ≤ z.toInt ∧ z.toInt ≤ 8) (hxx : vt.getD (0 : Int32).toNatClampNeg (.long (0 : Int64)) = .long xx) :
    MetFree l (⟨"com/example/hetman/hetman/peer/ArrivalEstimator", "medianFromBase", "()J"⟩ : MethodName) (head1 (Jvm.Cond.code (⟨"com/example/hetman/hetman/peer/ArrivalEstimator", "medianFromBase", "()J"⟩ : MethodName) prog_32_method_8_code 5 (some .long) :: ws) ({ frames := 2, cells := 0, slots := 0, locals := 33 } : Room)) (fun aX UX => aX = #[(.ref r0)] ∧ Z.Warmed39 UX.vm ∧ UX.heap = h0) (fun _ _ _ _ _ => True) (fun _ UX oX UX' => ∃ vX LX, oX = .returned vX ∧ Q15 Z xx h0 n0 vX UX'.heap LX ∧ FrameEnd UX oX UX' LX ({ frames := 2, cells := 0, slots := 0, locals := 33 } : Room).cells ({ frames := 2, cells := 0, slots := 0, locals := 33 } : Room).slots) := by
  refine MetFree.of_bodySF (plainFor_of_name pn_com_example_hetman_hetman_peer_ArrivalEstimator) hisR ?_
  intro p e s m args below meth c s₁ Bd hml0 hP hK
  obtain ⟨rfl, hZ, hh⟩ := hP
  have hx := Bd.exec
  have hby := Bd.bytes
  have hml : c.maxLocals = 5 := hml0
  have hown : s.vm.findClass "com/example/hetman/hetman/peer/ArrivalEstimator" = some m.cls := findClass_of_methodNamed Bd.named
  have hnm := (name_of_methodNamed Bd.named Bd.method).1
  have X0 : Stand p l e ({ frames := 2, cells := 0, slots := 0, locals := 33 } : Room) s m #[(.ref r0)] below meth c s₁ [] 0 0 := Stand.of_body Bd
  have e0 : s₁.heap = h0 := by rw [← hh, Bd.state]; rfl
  have N0 := Fr.nil n0
  show own_Comes p e below s ({ frames := 2, cells := 0, slots := 0, locals := 33 } : Room).cells ({ frames := 2, cells := 0, slots := 0, locals := 33 } : Room).slots (Q15 Z xx h0 n0) _
  rw [show entryFrame m #[(.ref r0)] 5 = mkF m 0 #[.val (.ref r0), .unset, .unset, .unset, .unset] [] from ef_rm15 m r0]
  show own_Comes p e below s _ _ _ (s₁.setTop (mkF m 0 #[.val (.ref r0), .unset, .unset, .unset, .unset] []))
  obtain ⟨EX53, Fp53, Fm53, Fo53, Ft53, Fb53, Fc53, Fn53, Ff53, ⟨vl53, Fl53⟩, ⟨va53, Fa53⟩, ⟨vo53, Vo53, ho53⟩, Vt53, ht53, nA53, nB53, nC53⟩ := hA
  refine own_by (fun _ kS => XS.aloadN X0.here hx rfl (hb hby d15_0) rfl rfl kS) ?_
  show own_Comes p e below s _ _ _ (s₁.setTop (mkF m 1 #[.val (.ref r0), .unset, .unset, .unset, .unset] [(.ref r0)]))
  obtain ⟨T54, X54, e54, st54⟩ := getF X0 hx hZ hown (host := "") (Or.inl (hw _ (List.mem_of_getElem? (i := 58) rfl))) Via.refl e0 Ft53 (g := (mkF m 1 #[.val (.ref r0), .unset, .unset, .unset, .unset] [(.ref r0)])) rfl rfl (hb hby d15_1)
  refine own_by st54 ?_
  show own_Comes p e below s _ _ _ (T54.setTop (mkF m 4 #[.val (.ref r0), .unset, .unset, .unset, .unset] [(.ref t)]))
  refine own_by (fun _ kS => XS.aloadN X54.here hx rfl (hb hby d15_4) rfl rfl kS) ?_
  show own_Comes p e below s _ _ _ (T54.setTop (mkF m 5 #[.val (.ref r0), .unset, .unset, .unset, .unset] [(.ref r0), (.ref t)]))
  obtain ⟨T55, X55, e55, st55⟩ := getF X54 hx hZ hown (host := "") (Or.inl (hw _ (List.mem_of_getElem? (i := 65) rfl))) Via.refl e54 Fc53 (g := (mkF m 5 #[.val (.ref r0), .unset, .unset, .unset, .unset] [(.ref r0), (.ref t)])) rfl rfl (hb hby d15_5)
  refine own_by st55 ?_
  show own_Comes p e below s _ _ _ (T55.setTop (mkF m 8 #[.val (.ref r0), .unset, .unset, .unset, .unset] [(.int (1 : Int32)), (.ref t)]))
  refine own_by (fun _ kS => XS.iconst X55.here hx rfl (hb hby d15_8) kS) ?_
  show own_Comes p e below s _ _ _ (T55.setTop (mkF m 9 #[.val (.ref r0), .unset, .unset, .unset, .unset] [(.int (1 : Int32)), (.int (1 : Int32)), (.ref t)]))
  refine own_by (fun _ kS => XS.isub X55.here hx rfl (hb hby d15_9) rfl kS) ?_
  show own_Comes p e below s _ _ _ (T55.setTop (mkF m 10 #[.val (.ref r0), .unset, .unset, .unset, .unset] [(.int ((1 : Int32) - (1 : Int32))), (.ref t)]))
  refine own_by (fun _ kS => XS.iconst X55.here hx rfl (hb hby d15_10) kS) ?_
  show own_Comes p e below s _ _ _ (T55.setTop (mkF m 11 #[.val (.ref r0), .unset, .unset, .unset, .unset] [(.int (2 : Int32)), (.int ((1 : Int32) - (1 : Int32))), (.ref t)]))
  refine own_by (fun _ kS => XS.idiv X55.here hx rfl (hb hby d15_11) rfl (by decide) kS) ?_
  show own_Comes p e below s _ _ _ (T55.setTop (mkF m 12 #[.val (.ref r0), .unset, .unset, .unset, .unset] [(.int (((1 : Int32) - (1 : Int32)) / (2 : Int32))), (.ref t)]))
  rw [show (((1 : Int32) - (1 : Int32)) / (2 : Int32)) = (0 : Int32) from by decide]
  show own_Comes p e below s _ _ _ (T55.setTop (mkF m 12 #[.val (.ref r0), .unset, .unset, .unset, .unset] [(.int (0 : Int32)), (.ref t)]))
  have Vo56 := Vt53
  obtain ⟨cl56, Ar56, qA56, SA56, NA56, HA56, GA56⟩ := Vo56
  have hin56 : ¬ ((0 : Int32) < 0 ∨ cl56.slots.size ≤ ((0 : Int32)).toNatClampNeg) := inb_of SA56 (own_in0 hz)
  have hat56 : cl56.slots[((0 : Int32)).toNatClampNeg]? = some (.long xx) := HA56.at hin56 hxx
  refine own_by (fun _ kS => X55.laload hx (j := (0 : Int32)) (v := (.long xx)) (by rw [e55]; exact Ar56.1) (State.isArrayOf_alike hZ.alike Ar56.2.1) Ar56.2.2 hin56 hat56 (g := (mkF m 12 #[.val (.ref r0), .unset, .unset, .unset, .unset] [(.int (0 : Int32)), (.ref t)])) rfl rfl (hb hby d15_12) _ kS) ?_
  show own_Comes p e below s _ _ _ (T55.setTop (mkF m 13 #[.val (.ref r0), .unset, .unset, .unset, .unset] [(.long xx)]))
  refine own_by (fun _ kS => XS.lstoreN X55.here hx rfl (hb hby d15_13) rfl (l' := #[.val (.ref r0), .val (.long xx), .second, .unset, .unset]) rfl kS) ?_
  show own_Comes p e below s _ _ _ (T55.setTop (mkF m 14 #[.val (.ref r0), .val (.long xx), .second, .unset, .unset] []))
  refine own_by (fun _ kS => XS.aloadN X55.here hx rfl (hb hby d15_14) rfl rfl kS) ?_
  show own_Comes p e below s _ _ _ (T55.setTop (mkF m 15 #[.val (.ref r0), .val (.long xx), .second, .unset, .unset] [(.ref r0)]))
  obtain ⟨T57, X57, e57, st57⟩ := getF X55 hx hZ hown (host := "") (Or.inl (hw _ (List.mem_of_getElem? (i := 58) rfl))) Via.refl e55 Ft53 (g := (mkF m 15 #[.val (.ref r0), .val (.long xx), .second, .unset, .unset] [(.ref r0)])) rfl rfl (hb hby d15_15)
  refine own_by st57 ?_
  show own_Comes p e below s _ _ _ (T57.setTop (mkF m 18 #[.val (.ref r0), .val (.long xx), .second, .unset, .unset] [(.ref t)]))
  refine own_by (fun _ kS => XS.aloadN X57.here hx rfl (hb hby d15_18) rfl rfl kS) ?_
  show own_Comes p e below s _ _ _ (T57.setTop (mkF m 19 #[.val (.ref r0), .val (.long xx), .second, .unset, .unset] [(.ref r0), (.ref t)]))
  obtain ⟨T58, X58, e58, st58⟩ := getF X57 hx hZ hown (host := "") (Or.inl (hw _ (List.mem_of_getElem? (i := 65) rfl))) Via.refl e57 Fc53 (g := (mkF m 19 #[.val (.ref r0), .val (.long xx), .second, .unset, .unset] [(.ref r0), (.ref t)])) rfl rfl (hb hby d15_19)
  refine own_by st58 ?_
  show own_Comes p e below s _ _ _ (T58.setTop (mkF m 22 #[.val (.ref r0), .val (.long xx), .second, .unset, .unset] [(.int (1 : Int32)), (.ref t)]))
  refine own_by (fun _ kS => XS.iconst X58.here hx rfl (hb hby d15_22) kS) ?_
  show own_Comes p e below s _ _ _ (T58.setTop (mkF m 23 #[.val (.ref r0), .val (.long xx), .second, .unset, .unset] [(.int (2 : Int32)), (.int (1 : Int32)), (.ref t)]))
  refine own_by (fun _ kS => XS.idiv X58.here hx rfl (hb hby d15_23) rfl (by decide) kS) ?_
  show own_Comes p e below s _ _ _ (T58.setTop (mkF m 24 #[.val (.ref r0), .val (.long xx), .second, .unset, .unset] [(.int ((1 : Int32) / (2 : Int32))), (.ref t)]))
  rw [show ((1 : Int32) / (2 : Int32)) = (0 : Int32) from by decide]
  show own_Comes p e below s _ _ _ (T58.setTop (mkF m 24 #[.val (.ref r0), .val (.long xx), .second, .unset, .unset] [(.int (0 : Int32)), (.ref t)]))
  have Vo59 := Vt53
  obtain ⟨cl59, Ar59, qA59, SA59, NA59, HA59, GA59⟩ := Vo59
  have hin59 : ¬ ((0 : Int32) < 0 ∨ cl59.slots.size ≤ ((0 : Int32)).toNatClampNeg) := inb_of SA59 (own_in0 hz)
  have hat59 : cl59.slots[((0 : Int32)).toNatClampNeg]? = some (.long xx) := HA59.at hin59 hxx
  refine own_by (fun _ kS => X58.laload hx (j := (0 : Int32)) (v := (.long xx)) (by rw [e58]; exact Ar59.1) (State.isArrayOf_alike hZ.alike Ar59.2.1) Ar59.2.2 hin59 hat59 (g := (mkF m 24 #[.val (.ref r0), .val (.long xx), .second, .unset, .unset] [(.int (0 : Int32)), (.ref t)])) rfl rfl (hb hby d15_24) _ kS) ?_
  show own_Comes p e below s _ _ _ (T58.setTop (mkF m 25 #[.val (.ref r0), .val (.long xx), .second, .unset, .unset] [(.long xx)]))
  refine own_by (fun _ kS => XS.lstoreN X58.here hx rfl (hb hby d15_25) rfl (l' := #[.val (.ref r0), .val (.long xx), .second, .val (.long xx), .second]) rfl kS) ?_
  show own_Comes p e below s _ _ _ (T58.setTop (mkF m 26 #[.val (.ref r0), .val (.long xx), .second, .val (.long xx), .second] []))
  refine own_by (fun _ kS => XS.lloadN X58.here hx rfl (hb hby d15_26) rfl kS) ?_
  show own_Comes p e below s _ _ _ (T58.setTop (mkF m 27 #[.val (.ref r0), .val (.long xx), .second, .val (.long xx), .second] [(.long xx)]))
  refine own_by (fun _ kS => XS.lloadN X58.here hx rfl (hb hby d15_27) rfl kS) ?_
  show own_Comes p e below s _ _ _ (T58.setTop (mkF m 28 #[.val (.ref r0), .val (.long xx), .second, .val (.long xx), .second] [(.long xx), (.long xx)]))
  refine own_by (fun _ kS => XS.lloadN X58.here hx rfl (hb hby d15_28) rfl kS) ?_
  show own_Comes p e below s _ _ _ (T58.setTop (mkF m 29 #[.val (.ref r0), .val (.long xx), .second, .val (.long xx), .second] [(.long xx), (.long xx), (.long xx)]))
  refine own_by (fun _ kS => XS.lsub X58.here hx rfl (hb hby d15_29) rfl kS) ?_
  show own_Comes p e below s _ _ _ (T58.setTop (mkF m 30 #[.val (.ref r0), .val (.long xx), .second, .val (.long xx), .second] [(.long (xx - xx)), (.long xx)]))
  rw [show (xx - xx) = (0 : Int64) from Int64.sub_self xx]
  show own_Comes p e below s _ _ _ (T58.setTop (mkF m 30 #[.val (.ref r0), .val (.long xx), .second, .val (.long xx), .second] [(.long (0 : Int64)), (.long xx)]))
  refine own_by (fun _ kS => XS.iconst X58.here hx rfl (hb hby d15_30) kS) ?_
  show own_Comes p e below s _ _ _ (T58.setTop (mkF m 31 #[.val (.ref r0), .val (.long xx), .second, .val (.long xx), .second] [(.int (2 : Int32)), (.long (0 : Int64)), (.long xx)]))
  obtain ⟨_, _, ⟨T60, L60, k60, n60⟩, -, X60, ⟨Lc60, hQ60, l60, y60, z60⟩, st60⟩ := Jvm.LawKit.callS X58 hx (y := (⟨"java/lang/Math", "floorDiv", "(JI)J"⟩ : MethodName)) hown (mvT hZ (hw _ (List.mem_of_getElem? (i := 109) rfl))) (mvT hZ (hw _ (List.mem_of_getElem? (i := 110) rfl))) (mvT hZ (hw _ (List.mem_of_getElem? (i := 111) rfl))) (mvT hZ (hw _ (List.mem_of_getElem? (i := 112) rfl))) (by decide) (backOf (W := 2) (rm16 l Z a0 hw []  h0 n0 Z0) hZ (hw _ (List.mem_of_getElem? (i := 112) rfl)) (hw _ (List.mem_of_getElem? (i := 111) rfl)) (by decide) (by decide)) (g := (mkF m 31 #[.val (.ref r0), .val (.long xx), .second, .val (.long xx), .second] [(.int (2 : Int32)), (.long (0 : Int64)), (.long xx)])) rfl (by rw [hml]; rfl) (argsL := [(.long (0 : Int64)), (.int (2 : Int32))]) (rest := [(.long xx)]) (lenOf pd__JI_J_302 rfl) rfl (by show 2 * 0 + _ ≤ _; exact Nat.le_of_eq rfl) (hb hby d15_31) (fun _ _ => ⟨rfl, e58, (by decide : 0 + 0 ≤ _), (by decide : 0 + 0 ≤ _)⟩)
  dsimp only [Pt.U, Pt.locs, Pt.cells, Pt.slots] at X60 l60 y60 z60 st60 hQ60
  subst l60 y60 z60
  obtain ⟨rfl, N60q, e60q⟩ := hQ60
  have N60 := Fr.app N0 N60q
  refine own_by st60 ?_
  have e60 : T60.heap = h0 := e60q
  show own_Comes p e below s _ _ _ (T60.setTop (mkF m 34 #[.val (.ref r0), .val (.long xx), .second, .val (.long xx), .second] [(.long (0 : Int64)), (.long xx)]))
  refine own_by (fun _ kS => XS.ladd X60.here hx rfl (hb hby d15_34) rfl kS) ?_
  show own_Comes p e below s _ _ _ (T60.setTop (mkF m 35 #[.val (.ref r0), .val (.long xx), .second, .val (.long xx), .second] [(.long (xx + (0 : Int64)))]))
  refine own_ret X60 (v := some (.long (xx + (0 : Int64)))) (fun h => by rw [Bd.returns] at h; cases h) Bd.notSynchronized (by decide) (by decide) ?_ (fun fs hr => X60.lreturnOut hx Bd.returns (hb hby d15_35) hr)
  rw [e60]; exact ⟨rfl, N60, rfl⟩
def Q8 (Z : State) (r0 : Addr) (q1 : Int64) (P M : Int64) (o t : Addr) (ko kt : ClassId) (z : Int32) (vt : List Value) (ba : Int64) (h0 : Heap) (n0 : Nat) (v : Option Value) (h : Heap) (L : List Loc) : Prop := v = none ∧ Fr n0 L ∧ Keep h0 h [r0] ∧ own_AE Z h r0 P M o t ko kt z vt ba (0 : Int32) (0 : Int32) ((q1 + P) + M)
theorem ef_rm8 (m : MethodId) (x0 : Addr) (x1 : Int64) : entryFrame m #[(.ref x0), (.long x1)] 3 = mkF m 0 #[.val (.ref x0), .val (.long x1), .second] [] := by first | (simp [entryFrame, mkF, argsToLocals, Value.category]; done) | rfl
theorem d8_0 : decode prog_32_method_2_code 0 = .ok (.aload_n 0, 1) := by decide +kernel
theorem d8_1 : decode prog_32_method_2_code 1 = .ok (.iconst 0, 1) := by decide +kernel
theorem d8_2 : decode prog_32_method_2_code 2 = .ok (.putfield 42, 3) := by decide +kernel
theorem d8_5 : decode prog_32_method_2_code 5 = .ok (.aload_n 0, 1) := by decide +kernel
theorem d8_6 : decode prog_32_method_2_code 6 = .ok (.iconst 0, 1) := by decide +kernel
theorem d8_7 : decode prog_32_method_2_code 7 = .ok (.putfield 46, 3) := by decide +kernel
theorem d8_10 : decode prog_32_method_2_code 10 = .ok (.aload_n 0, 1) := by decide +kernel
theorem d8_11 : decode prog_32_method_2_code 11 = .ok (.lload_n 1, 1) := by decide +kernel
theorem d8_12 : decode prog_32_method_2_code 12 = .ok (.aload_n 0, 1) := by decide +kernel
theorem d8_13 : decode prog_32_method_2_code 13 = .ok (.getfield 23, 3) := by decide +kernel
theorem d8_16 : decode prog_32_method_2_code 16 = .ok (.ladd, 1) := by decide +kernel
theorem d8_17 : decode prog_32_method_2_code 17 = .ok (.aload_n 0, 1) := by decide +kernel
theorem d8_18 : decode prog_32_method_2_code 18 = .ok (.getfield 32, 3) := by decide +kernel
theorem d8_21 : decode prog_32_method_2_code 21 = .ok (.ladd, 1) := by decide +kernel
theorem d8_22 : decode prog_32_method_2_code 22 = .ok (.putfield 49, 3) := by decide +kernel
theorem d8_25 : decode prog_32_method_2_code 25 = .ok (.return_, 1) := by decide +kernel
set_option maxRecDepth 65536 in
set_option maxHeartbeats 40000000 in
theorem rm8 (l : Launch) (Z : State) (a0 : Array Value) (hw : ∀ d ∈ tables_1, d.before a0 Z = true) (ws : List Jvm.Cond) (r0 : Addr) (q1 : Int64) (P M : Int64) (o t : Addr) (ko kt : ClassId) (z : Int32) (vt : List Value) (ba : Int64) (cn nx : Int32) (fr : Int64) (h0 : Heap) (n0 : Nat) (Z0 : n0 ≤ h0.size) (hA : own_AE Z h0 r0 P M o t ko kt z vt ba cn nx fr) (g_r0 : n0 ≤ r0) :
    MetFree l (⟨"com/example/hetman/hetman/peer/ArrivalEstimator", "restart", "(J)V"⟩ : MethodName) (head1 (Jvm.Cond.code (⟨"com/example/hetman/hetman/peer/ArrivalEstimator", "restart", "(J)V"⟩ : MethodName) prog_32_method_2_code 3 none :: ws) ({ frames := 0, cells := 0, slots := 0, locals := 0 } : Room)) (fun aX UX => aX = #[(.ref r0), (.long q1)] ∧ Z.Warmed39 UX.vm ∧ UX.heap = h0) (fun _ _ _ _ _ => True) (fun _ UX oX UX' => ∃ vX LX, oX = .returned vX ∧ Q8 Z r0 q1 P M o t ko kt z vt ba h0 n0 vX UX'.heap LX ∧ FrameEnd UX oX UX' LX ({ frames := 0, cells := 0, slots := 0, locals := 0 } : Room).cells ({ frames := 0, cells := 0, slots := 0, locals := 0 } : Room).slots) := by
  refine MetFree.of_bodySF (plainFor_of_name pn_com_example_hetman_hetman_peer_ArrivalEstimator) hisR ?_
  intro p e s m args below meth c s₁ Bd hml0 hP hK
  obtain ⟨rfl, hZ, hh⟩ := hP
  have hx := Bd.exec
  have hby := Bd.bytes
  have hml : c.maxLocals = 3 := hml0
  have hown : s.vm.findClass "com/example/hetman/hetman/peer/ArrivalEstimator" = some m.cls := findClass_of_methodNamed Bd.named
  have hnm := (name_of_methodNamed Bd.named Bd.method).1
  have X0 : Stand p l e ({ frames := 0, cells := 0, slots := 0, locals := 0 } : Room) s m #[(.ref r0), (.long q1)] below meth c s₁ [] 0 0 := Stand.of_body Bd
  have e0 : s₁.heap = h0 := by rw [← hh, Bd.state]; rfl
  have N0 := Fr.nil n0
  show own_Comes p e below s ({ frames := 0, cells := 0, slots := 0, locals := 0 } : Room).cells ({ frames := 0, cells := 0, slots := 0, locals := 0 } : Room).slots (Q8 Z r0 q1 P M o t ko kt z vt ba h0 n0) _
  rw [show entryFrame m #[(.ref r0), (.long q1)] 3 = mkF m 0 #[.val (.ref r0), .val (.long q1), .second] [] from ef_rm8 m r0 q1]
  show own_Comes p e below s _ _ _ (s₁.setTop (mkF m 0 #[.val (.ref r0), .val (.long q1), .second] []))
  obtain ⟨EX61, Fp61, Fm61, Fo61, Ft61, Fb61, Fc61, Fn61, Ff61, ⟨vl61, Fl61⟩, ⟨va61, Fa61⟩, ⟨vo61, Vo61, ho61⟩, Vt61, ht61, nA61, nB61, nC61⟩ := hA
  refine own_by (fun _ kS => XS.aloadN X0.here hx rfl (hb hby d8_0) rfl rfl kS) ?_
  show own_Comes p e below s _ _ _ (s₁.setTop (mkF m 1 #[.val (.ref r0), .val (.long q1), .second] [(.ref r0)]))
  refine own_by (fun _ kS => XS.iconst X0.here hx rfl (hb hby d8_1) kS) ?_
  show own_Comes p e below s _ _ _ (s₁.setTop (mkF m 2 #[.val (.ref r0), .val (.long q1), .second] [(.int (0 : Int32)), (.ref r0)]))
  obtain ⟨T62, h62, X62, e62, W62, st62⟩ := putF X0 hx hZ hown (host := "") (Or.inl (hw _ (List.mem_of_getElem? (i := 65) rfl))) Via.refl e0 Fc61 EX61 (Or.inl (hw _ (List.mem_of_getElem? (i := 66) rfl))) (hw _ (List.mem_of_getElem? (i := 5) rfl)) (ty := .int) (by decide) rfl rfl (g := (mkF m 2 #[.val (.ref r0), .val (.long q1), .second] [(.int (0 : Int32)), (.ref r0)])) rfl rfl (hb hby d8_2)
  refine own_by st62 ?_
  have Fw62 := Fc61.same W62
  have N62 := Fr.snoc X62 N0 g_r0
  show own_Comes p e below s _ _ _ (T62.setTop (mkF m 5 #[.val (.ref r0), .val (.long q1), .second] []))
  refine own_by (fun _ kS => XS.aloadN X62.here hx rfl (hb hby d8_5) rfl rfl kS) ?_
  show own_Comes p e below s _ _ _ (T62.setTop (mkF m 6 #[.val (.ref r0), .val (.long q1), .second] [(.ref r0)]))
  refine own_by (fun _ kS => XS.iconst X62.here hx rfl (hb hby d8_6) kS) ?_
  show own_Comes p e below s _ _ _ (T62.setTop (mkF m 7 #[.val (.ref r0), .val (.long q1), .second] [(.int (0 : Int32)), (.ref r0)]))
  have c63 := (Fn61.other W62 (Or.inr (slot_ne (Or.inl (hw _ (List.mem_of_getElem? (i := 68) rfl))) (Or.inl (hw _ (List.mem_of_getElem? (i := 66) rfl))) (by decide) (t := .int) (t' := .int) (by decide) (by decide))))
  obtain ⟨T64, h64, X64, e64, W64, st64⟩ := putF X62 hx hZ hown (host := "") (Or.inl (hw _ (List.mem_of_getElem? (i := 67) rfl))) Via.refl e62 c63 (EX61.wr W62) (Or.inl (hw _ (List.mem_of_getElem? (i := 68) rfl))) (hw _ (List.mem_of_getElem? (i := 5) rfl)) (ty := .int) (by decide) rfl rfl (g := (mkF m 7 #[.val (.ref r0), .val (.long q1), .second] [(.int (0 : Int32)), (.ref r0)])) rfl rfl (hb hby d8_7)
  refine own_by st64 ?_
  have Fw64 := c63.same W64
  have N64 := Fr.snoc X64 N62 g_r0
  show own_Comes p e below s _ _ _ (T64.setTop (mkF m 10 #[.val (.ref r0), .val (.long q1), .second] []))
  refine own_by (fun _ kS => XS.aloadN X64.here hx rfl (hb hby d8_10) rfl rfl kS) ?_
  show own_Comes p e below s _ _ _ (T64.setTop (mkF m 11 #[.val (.ref r0), .val (.long q1), .second] [(.ref r0)]))
  refine own_by (fun _ kS => XS.lloadN X64.here hx rfl (hb hby d8_11) rfl kS) ?_
  show own_Comes p e below s _ _ _ (T64.setTop (mkF m 12 #[.val (.ref r0), .val (.long q1), .second] [(.long q1), (.ref r0)]))
  refine own_by (fun _ kS => XS.aloadN X64.here hx rfl (hb hby d8_12) rfl rfl kS) ?_
  show own_Comes p e below s _ _ _ (T64.setTop (mkF m 13 #[.val (.ref r0), .val (.long q1), .second] [(.ref r0), (.long q1), (.ref r0)]))
  have c65 := ((Fp61.other W62 (Or.inr (slot_ne (Or.inr (hw _ (List.mem_of_getElem? (i := 47) rfl))) (Or.inl (hw _ (List.mem_of_getElem? (i := 66) rfl))) (by decide) (t := .long) (t' := .int) (by decide) (by decide)))).other W64 (Or.inr (slot_ne (Or.inr (hw _ (List.mem_of_getElem? (i := 47) rfl))) (Or.inl (hw _ (List.mem_of_getElem? (i := 68) rfl))) (by decide) (t := .long) (t' := .int) (by decide) (by decide))))
  obtain ⟨T66, X66, e66, st66⟩ := getF X64 hx hZ hown (host := "") (Or.inl (hw _ (List.mem_of_getElem? (i := 46) rfl))) Via.refl e64 c65 (g := (mkF m 13 #[.val (.ref r0), .val (.long q1), .second] [(.ref r0), (.long q1), (.ref r0)])) rfl rfl (hb hby d8_13)
  refine own_by st66 ?_
  show own_Comes p e below s _ _ _ (T66.setTop (mkF m 16 #[.val (.ref r0), .val (.long q1), .second] [(.long P), (.long q1), (.ref r0)]))
  refine own_by (fun _ kS => XS.ladd X66.here hx rfl (hb hby d8_16) rfl kS) ?_
  show own_Comes p e below s _ _ _ (T66.setTop (mkF m 17 #[.val (.ref r0), .val (.long q1), .second] [(.long (q1 + P)), (.ref r0)]))
  refine own_by (fun _ kS => XS.aloadN X66.here hx rfl (hb hby d8_17) rfl rfl kS) ?_
  show own_Comes p e below s _ _ _ (T66.setTop (mkF m 18 #[.val (.ref r0), .val (.long q1), .second] [(.ref r0), (.long (q1 + P)), (.ref r0)]))
  have c67 := ((Fm61.other W62 (Or.inr (slot_ne (Or.inr (hw _ (List.mem_of_getElem? (i := 54) rfl))) (Or.inl (hw _ (List.mem_of_getElem? (i := 66) rfl))) (by decide) (t := .long) (t' := .int) (by decide) (by decide)))).other W64 (Or.inr (slot_ne (Or.inr (hw _ (List.mem_of_getElem? (i := 54) rfl))) (Or.inl (hw _ (List.mem_of_getElem? (i := 68) rfl))) (by decide) (t := .long) (t' := .int) (by decide) (by decide))))
  obtain ⟨T68, X68, e68, st68⟩ := getF X66 hx hZ hown (host := "") (Or.inl (hw _ (List.mem_of_getElem? (i := 53) rfl))) Via.refl e66 c67 (g := (mkF m 18 #[.val (.ref r0), .val (.long q1), .second] [(.ref r0), (.long (q1 + P)), (.ref r0)])) rfl rfl (hb hby d8_18)
  refine own_by st68 ?_
  show own_Comes p e below s _ _ _ (T68.setTop (mkF m 21 #[.val (.ref r0), .val (.long q1), .second] [(.long M), (.long (q1 + P)), (.ref r0)]))
  refine own_by (fun _ kS => XS.ladd X68.here hx rfl (hb hby d8_21) rfl kS) ?_
  show own_Comes p e below s _ _ _ (T68.setTop (mkF m 22 #[.val (.ref r0), .val (.long q1), .second] [(.long ((q1 + P) + M)), (.ref r0)]))
  have c69 := ((Ff61.other W62 (Or.inr (slot_ne (Or.inl (hw _ (List.mem_of_getElem? (i := 70) rfl))) (Or.inl (hw _ (List.mem_of_getElem? (i := 66) rfl))) (by decide) (t := .long) (t' := .int) (by decide) (by decide)))).other W64 (Or.inr (slot_ne (Or.inl (hw _ (List.mem_of_getElem? (i := 70) rfl))) (Or.inl (hw _ (List.mem_of_getElem? (i := 68) rfl))) (by decide) (t := .long) (t' := .int) (by decide) (by decide))))
  obtain ⟨T70, h70, X70, e70, W70, st70⟩ := putF X68 hx hZ hown (host := "") (Or.inl (hw _ (List.mem_of_getElem? (i := 69) rfl))) Via.refl e68 c69 ((EX61.wr W62).wr W64) (Or.inl (hw _ (List.mem_of_getElem? (i := 70) rfl))) (hw _ (List.mem_of_getElem? (i := 5) rfl)) (ty := .long) (by decide) rfl rfl (g := (mkF m 22 #[.val (.ref r0), .val (.long q1), .second] [(.long ((q1 + P) + M)), (.ref r0)])) rfl rfl (hb hby d8_22)
  refine own_by st70 ?_
  have Fw70 := c69.same W70
  have N70 := Fr.snoc X70 N64 g_r0
  show own_Comes p e below s _ _ _ (T70.setTop (mkF m 25 #[.val (.ref r0), .val (.long q1), .second] []))
  have c71 := (c65.other W70 (Or.inr (slot_ne (Or.inr (hw _ (List.mem_of_getElem? (i := 47) rfl))) (Or.inl (hw _ (List.mem_of_getElem? (i := 70) rfl))) (by decide) (t := .long) (t' := .long) (by decide) (by decide))))
  have c72 := (c67.other W70 (Or.inr (slot_ne (Or.inr (hw _ (List.mem_of_getElem? (i := 54) rfl))) (Or.inl (hw _ (List.mem_of_getElem? (i := 70) rfl))) (by decide) (t := .long) (t' := .long) (by decide) (by decide))))
  have c73 := (((Fo61.other W62 (Or.inr (slot_ne (Or.inr (hw _ (List.mem_of_getElem? (i := 57) rfl))) (Or.inl (hw _ (List.mem_of_getElem? (i := 66) rfl))) (by decide) (t := (.array .long)) (t' := .int) (by decide) (by decide)))).other W64 (Or.inr (slot_ne (Or.inr (hw _ (List.mem_of_getElem? (i := 57) rfl))) (Or.inl (hw _ (List.mem_of_getElem? (i := 68) rfl))) (by decide) (t := (.array .long)) (t' := .int) (by decide) (by decide)))).other W70 (Or.inr (slot_ne (Or.inr (hw _ (List.mem_of_getElem? (i := 57) rfl))) (Or.inl (hw _ (List.mem_of_getElem? (i := 70) rfl))) (by decide) (t := (.array .long)) (t' := .long) (by decide) (by decide))))
  have c74 := (((Ft61.other W62 (Or.inr (slot_ne (Or.inr (hw _ (List.mem_of_getElem? (i := 59) rfl))) (Or.inl (hw _ (List.mem_of_getElem? (i := 66) rfl))) (by decide) (t := (.array .long)) (t' := .int) (by decide) (by decide)))).other W64 (Or.inr (slot_ne (Or.inr (hw _ (List.mem_of_getElem? (i := 59) rfl))) (Or.inl (hw _ (List.mem_of_getElem? (i := 68) rfl))) (by decide) (t := (.array .long)) (t' := .int) (by decide) (by decide)))).other W70 (Or.inr (slot_ne (Or.inr (hw _ (List.mem_of_getElem? (i := 59) rfl))) (Or.inl (hw _ (List.mem_of_getElem? (i := 70) rfl))) (by decide) (t := (.array .long)) (t' := .long) (by decide) (by decide))))
  have c75 := (((Fb61.other W62 (Or.inr (slot_ne (Or.inl (hw _ (List.mem_of_getElem? (i := 82) rfl))) (Or.inl (hw _ (List.mem_of_getElem? (i := 66) rfl))) (by decide) (t := .long) (t' := .int) (by decide) (by decide)))).other W64 (Or.inr (slot_ne (Or.inl (hw _ (List.mem_of_getElem? (i := 82) rfl))) (Or.inl (hw _ (List.mem_of_getElem? (i := 68) rfl))) (by decide) (t := .long) (t' := .int) (by decide) (by decide)))).other W70 (Or.inr (slot_ne (Or.inl (hw _ (List.mem_of_getElem? (i := 82) rfl))) (Or.inl (hw _ (List.mem_of_getElem? (i := 70) rfl))) (by decide) (t := .long) (t' := .long) (by decide) (by decide))))
  have c76 := ((Fw62.other W64 (Or.inr (slot_ne (Or.inl (hw _ (List.mem_of_getElem? (i := 66) rfl))) (Or.inl (hw _ (List.mem_of_getElem? (i := 68) rfl))) (by decide) (t := .int) (t' := .int) (by decide) (by decide)))).other W70 (Or.inr (slot_ne (Or.inl (hw _ (List.mem_of_getElem? (i := 66) rfl))) (Or.inl (hw _ (List.mem_of_getElem? (i := 70) rfl))) (by decide) (t := .int) (t' := .long) (by decide) (by decide))))
  have c77 := (Fw64.other W70 (Or.inr (slot_ne (Or.inl (hw _ (List.mem_of_getElem? (i := 68) rfl))) (Or.inl (hw _ (List.mem_of_getElem? (i := 70) rfl))) (by decide) (t := .int) (t' := .long) (by decide) (by decide))))
  have c78 := (((Fl61.other W62 (Or.inr (slot_ne (Or.inl (hw _ (List.mem_of_getElem? (i := 102) rfl))) (Or.inl (hw _ (List.mem_of_getElem? (i := 66) rfl))) (by decide) (t := .long) (t' := .int) (by decide) (by decide)))).other W64 (Or.inr (slot_ne (Or.inl (hw _ (List.mem_of_getElem? (i := 102) rfl))) (Or.inl (hw _ (List.mem_of_getElem? (i := 68) rfl))) (by decide) (t := .long) (t' := .int) (by decide) (by decide)))).other W70 (Or.inr (slot_ne (Or.inl (hw _ (List.mem_of_getElem? (i := 102) rfl))) (Or.inl (hw _ (List.mem_of_getElem? (i := 70) rfl))) (by decide) (t := .long) (t' := .long) (by decide) (by decide))))
  have c79 := (((Fa61.other W62 (Or.inr (slot_ne (Or.inl (hw _ (List.mem_of_getElem? (i := 104) rfl))) (Or.inl (hw _ (List.mem_of_getElem? (i := 66) rfl))) (by decide) (t := .long) (t' := .int) (by decide) (by decide)))).other W64 (Or.inr (slot_ne (Or.inl (hw _ (List.mem_of_getElem? (i := 104) rfl))) (Or.inl (hw _ (List.mem_of_getElem? (i := 68) rfl))) (by decide) (t := .long) (t' := .int) (by decide) (by decide)))).other W70 (Or.inr (slot_ne (Or.inl (hw _ (List.mem_of_getElem? (i := 104) rfl))) (Or.inl (hw _ (List.mem_of_getElem? (i := 70) rfl))) (by decide) (t := .long) (t' := .long) (by decide) (by decide))))
  have c80 := (((Vo61.other W62 (Ne.symm nA61)).other W64 (Ne.symm nA61)).other W70 (Ne.symm nA61))
  have c81 := (((Vt61.other W62 (Ne.symm nB61)).other W64 (Ne.symm nB61)).other W70 (Ne.symm nB61))
  refine own_ret X70 (v := none) (fun _ => rfl) Bd.notSynchronized (by decide) (by decide) ?_ (fun fs hr => X70.returnOut hx Bd.returns (hb hby d8_25) hr)
  rw [e70]; exact ⟨rfl, N70, ((((Keep.refl _ _).wr W62 (Or.inl (List.mem_of_getElem? (i := 0) rfl))).wr W64 (Or.inl (List.mem_of_getElem? (i := 0) rfl))).wr W70 (Or.inl (List.mem_of_getElem? (i := 0) rfl))), ⟨(((EX61.wr W62).wr W64).wr W70), c71, c72, c73, c74, c75, c76, c77, Fw70, ⟨_, c78⟩, ⟨_, c79⟩, ⟨_, c80, ho61⟩, c81, ht61, nA61, nB61, nC61⟩⟩
def Q10 (Z : State) (r0 : Addr) (q1 q2 q3 : Int64) (P M : Int64) (o t : Addr) (ko kt : ClassId) (z : Int32) (h0 : Heap) (n0 : Nat) (v : Option Value) (h : Heap) (L : List Loc) : Prop := v = none ∧ Fr n0 L ∧ Keep h0 h [r0, o, t] ∧ ∃ vt ba cn nx, own_AE Z h r0 P M o t ko kt z vt ba cn nx (((q2 - q3) + P) + M)
theorem ef_rm10 (m : MethodId) (x0 : Addr) (x1 : Int64) (x2 : Int64) (x3 : Int64) : entryFrame m #[(.ref x0), (.long x1), (.long x2), (.long x3)] 11 = mkF m 0 #[.val (.ref x0), .val (.long x1), .second, .val (.long x2), .second, .val (.long x3), .second, .unset, .unset, .unset, .unset] [] := by first | (simp [entryFrame, mkF, argsToLocals, Value.category]; done) | rfl
theorem d10_0 : decode prog_32_method_4_code 0 = .ok (.lload_n 3, 1) := by decide +kernel
theorem d10_1 : decode prog_32_method_4_code 1 = .ok (.lload 5, 2) := by decide +kernel
theorem d10_3 : decode prog_32_method_4_code 3 = .ok (.lsub, 1) := by decide +kernel
theorem d10_4 : decode prog_32_method_4_code 4 = .ok (.lstore 7, 2) := by decide +kernel
theorem d10_6 : decode prog_32_method_4_code 6 = .ok (.aload_n 0, 1) := by decide +kernel
theorem d10_7 : decode prog_32_method_4_code 7 = .ok (.getfield 42, 3) := by decide +kernel
theorem d10_10 : decode prog_32_method_4_code 10 = .ok (.ifCond .le 23, 3) := by decide +kernel
theorem d10_33 : decode prog_32_method_4_code 33 = .ok (.lload 7, 2) := by decide +kernel
theorem d10_35 : decode prog_32_method_4_code 35 = .ok (.aload_n 0, 1) := by decide +kernel
theorem d10_36 : decode prog_32_method_4_code 36 = .ok (.getfield 23, 3) := by decide +kernel
theorem d10_39 : decode prog_32_method_4_code 39 = .ok (.lload_n 1, 1) := by decide +kernel
theorem d10_40 : decode prog_32_method_4_code 40 = .ok (.lmul, 1) := by decide +kernel
theorem d10_41 : decode prog_32_method_4_code 41 = .ok (.lsub, 1) := by decide +kernel
theorem d10_42 : decode prog_32_method_4_code 42 = .ok (.lstore 9, 2) := by decide +kernel
theorem d10_44 : decode prog_32_method_4_code 44 = .ok (.aload_n 0, 1) := by decide +kernel
theorem d10_45 : decode prog_32_method_4_code 45 = .ok (.getfield 42, 3) := by decide +kernel
theorem d10_48 : decode prog_32_method_4_code 48 = .ok (.ifCond .ne 12, 3) := by decide +kernel
theorem d10_51 : decode prog_32_method_4_code 51 = .ok (.aload_n 0, 1) := by decide +kernel
theorem d10_52 : decode prog_32_method_4_code 52 = .ok (.lload 9, 2) := by decide +kernel
theorem d10_54 : decode prog_32_method_4_code 54 = .ok (.putfield 59, 3) := by decide +kernel
theorem d10_57 : decode prog_32_method_4_code 57 = .ok (.goto 33, 3) := by decide +kernel
theorem d10_90 : decode prog_32_method_4_code 90 = .ok (.aload_n 0, 1) := by decide +kernel
theorem d10_91 : decode prog_32_method_4_code 91 = .ok (.lload 9, 2) := by decide +kernel
theorem d10_93 : decode prog_32_method_4_code 93 = .ok (.aload_n 0, 1) := by decide +kernel
theorem d10_94 : decode prog_32_method_4_code 94 = .ok (.getfield 59, 3) := by decide +kernel
theorem d10_97 : decode prog_32_method_4_code 97 = .ok (.lsub, 1) := by decide +kernel
theorem pd__J_V_241 : parseMethodDescriptor "(J)V" = some ⟨[.long], none⟩ := by decide +kernel
theorem d10_98 : decode prog_32_method_4_code 98 = .ok (.invokevirtual 66, 3) := by decide +kernel
theorem d10_101 : decode prog_32_method_4_code 101 = .ok (.aload_n 0, 1) := by decide +kernel
theorem d10_102 : decode prog_32_method_4_code 102 = .ok (.getfield 35, 3) := by decide +kernel
theorem d10_105 : decode prog_32_method_4_code 105 = .ok (.aload_n 0, 1) := by decide +kernel
theorem d10_106 : decode prog_32_method_4_code 106 = .ok (.getfield 46, 3) := by decide +kernel
theorem d10_109 : decode prog_32_method_4_code 109 = .ok (.lload 9, 2) := by decide +kernel
theorem d10_111 : decode prog_32_method_4_code 111 = .ok (.lastore, 1) := by decide +kernel
theorem d10_112 : decode prog_32_method_4_code 112 = .ok (.aload_n 0, 1) := by decide +kernel
theorem d10_113 : decode prog_32_method_4_code 113 = .ok (.aload_n 0, 1) := by decide +kernel
theorem d10_114 : decode prog_32_method_4_code 114 = .ok (.getfield 46, 3) := by decide +kernel
theorem d10_117 : decode prog_32_method_4_code 117 = .ok (.iconst 1, 1) := by decide +kernel
theorem d10_118 : decode prog_32_method_4_code 118 = .ok (.iadd, 1) := by decide +kernel
theorem d10_119 : decode prog_32_method_4_code 119 = .ok (.aload_n 0, 1) := by decide +kernel
theorem d10_120 : decode prog_32_method_4_code 120 = .ok (.getfield 35, 3) := by decide +kernel
theorem d10_123 : decode prog_32_method_4_code 123 = .ok (.arraylength, 1) := by decide +kernel
theorem d10_124 : decode prog_32_method_4_code 124 = .ok (.irem, 1) := by decide +kernel
theorem d10_125 : decode prog_32_method_4_code 125 = .ok (.putfield 46, 3) := by decide +kernel
theorem d10_128 : decode prog_32_method_4_code 128 = .ok (.aload_n 0, 1) := by decide +kernel
theorem d10_129 : decode prog_32_method_4_code 129 = .ok (.lload_n 1, 1) := by decide +kernel
theorem d10_130 : decode prog_32_method_4_code 130 = .ok (.putfield 52, 3) := by decide +kernel
theorem d10_133 : decode prog_32_method_4_code 133 = .ok (.aload_n 0, 1) := by decide +kernel
theorem d10_134 : decode prog_32_method_4_code 134 = .ok (.lload 7, 2) := by decide +kernel
theorem d10_136 : decode prog_32_method_4_code 136 = .ok (.putfield 69, 3) := by decide +kernel
theorem d10_139 : decode prog_32_method_4_code 139 = .ok (.aload_n 0, 1) := by decide +kernel
theorem d10_140 : decode prog_32_method_4_code 140 = .ok (.aload_n 0, 1) := by decide +kernel
theorem d10_141 : decode prog_32_method_4_code 141 = .ok (.getfield 59, 3) := by decide +kernel
theorem d10_144 : decode prog_32_method_4_code 144 = .ok (.aload_n 0, 1) := by decide +kernel
theorem pd___J_155 : parseMethodDescriptor "()J" = some ⟨[], some .long⟩ := by decide +kernel
theorem d10_145 : decode prog_32_method_4_code 145 = .ok (.invokevirtual 72, 3) := by decide +kernel
theorem d10_148 : decode prog_32_method_4_code 148 = .ok (.ladd, 1) := by decide +kernel
theorem d10_149 : decode prog_32_method_4_code 149 = .ok (.aload_n 0, 1) := by decide +kernel
theorem d10_150 : decode prog_32_method_4_code 150 = .ok (.getfield 23, 3) := by decide +kernel
theorem d10_153 : decode prog_32_method_4_code 153 = .ok (.lload_n 1, 1) := by decide +kernel
theorem d10_154 : decode prog_32_method_4_code 154 = .ok (.lconst 1, 1) := by decide +kernel
theorem d10_155 : decode prog_32_method_4_code 155 = .ok (.ladd, 1) := by decide +kernel
theorem d10_156 : decode prog_32_method_4_code 156 = .ok (.lmul, 1) := by decide +kernel
theorem d10_157 : decode prog_32_method_4_code 157 = .ok (.ladd, 1) := by decide +kernel
theorem d10_158 : decode prog_32_method_4_code 158 = .ok (.aload_n 0, 1) := by decide +kernel
theorem d10_159 : decode prog_32_method_4_code 159 = .ok (.getfield 32, 3) := by decide +kernel
theorem d10_162 : decode prog_32_method_4_code 162 = .ok (.ladd, 1) := by decide +kernel
theorem d10_163 : decode prog_32_method_4_code 163 = .ok (.putfield 49, 3) := by decide +kernel
theorem d10_166 : decode prog_32_method_4_code 166 = .ok (.return_, 1) := by decide +kernel
set_option maxRecDepth 65536 in
set_option maxHeartbeats 40000000 in
theorem rm10 (l : Launch) (Z : State) (a0 : Array Value) (hw : ∀ d ∈ tables_1, d.before a0 Z = true) (ws : List Jvm.Cond) (r0 : Addr) (q1 q2 q3 : Int64) (P M : Int64) (o t : Addr) (ko kt : ClassId) (z : Int32) (vt : List Value) (ba : Int64) (fr : Int64) (h0 : Heap) (n0 : Nat) (Z0 : n0 ≤ h0.size) (hA : own_AE Z h0 r0 P M o t ko kt z vt ba (0 : Int32) (0 : Int32) fr) (g_r0 : n0 ≤ r0) (g_o : n0 ≤ o) (g_t : n0 ≤ t) (hz : 1 ≤ z.toInt ∧ z.toInt ≤ 8) :
    MetFree l (⟨"com/example/hetman/hetman/peer/ArrivalEstimator", "heard", "(JJJ)V"⟩ : MethodName) (head1 (Jvm.Cond.code (⟨"com/example/hetman/hetman/peer/ArrivalEstimator", "heard", "(JJJ)V"⟩ : MethodName) prog_32_method_4_code 11 none :: ws) ({ frames := 3, cells := 0, slots := 0, locals := 56 } : Room)) (fun aX UX => aX = #[(.ref r0), (.long q1), (.long q2), (.long q3)] ∧ Z.Warmed39 UX.vm ∧ UX.heap = h0) (fun _ _ _ _ _ => True) (fun _ UX oX UX' => ∃ vX LX, oX = .returned vX ∧ Q10 Z r0 q1 q2 q3 P M o t ko kt z h0 n0 vX UX'.heap LX ∧ FrameEnd UX oX UX' LX ({ frames := 3, cells := 0, slots := 0, locals := 56 } : Room).cells ({ frames := 3, cells := 0, slots := 0, locals := 56 } : Room).slots) := by
  refine MetFree.of_bodySF (plainFor_of_name pn_com_example_hetman_hetman_peer_ArrivalEstimator) hisR ?_
  intro p e s m args below meth c s₁ Bd hml0 hP hK
  obtain ⟨rfl, hZ, hh⟩ := hP
  have hx := Bd.exec
  have hby := Bd.bytes
  have hml : c.maxLocals = 11 := hml0
  have hown : s.vm.findClass "com/example/hetman/hetman/peer/ArrivalEstimator" = some m.cls := findClass_of_methodNamed Bd.named
  have hnm := (name_of_methodNamed Bd.named Bd.method).1
  have X0 : Stand p l e ({ frames := 3, cells := 0, slots := 0, locals := 56 } : Room) s m #[(.ref r0), (.long q1), (.long q2), (.long q3)] below meth c s₁ [] 0 0 := Stand.of_body Bd
  have e0 : s₁.heap = h0 := by rw [← hh, Bd.state]; rfl
  have N0 := Fr.nil n0
  show own_Comes p e below s ({ frames := 3, cells := 0, slots := 0, locals := 56 } : Room).cells ({ frames := 3, cells := 0, slots := 0, locals := 56 } : Room).slots (Q10 Z r0 q1 q2 q3 P M o t ko kt z h0 n0) _
  rw [show entryFrame m #[(.ref r0), (.long q1), (.long q2), (.long q3)] 11 = mkF m 0 #[.val (.ref r0), .val (.long q1), .second, .val (.long q2), .second, .val (.long q3), .second, .unset, .unset, .unset, .unset] [] from ef_rm10 m r0 q1 q2 q3]
  show own_Comes p e below s _ _ _ (s₁.setTop (mkF m 0 #[.val (.ref r0), .val (.long q1), .second, .val (.long q2), .second, .val (.long q3), .second, .unset, .unset, .unset, .unset] []))
  obtain ⟨EX82, Fp82, Fm82, Fo82, Ft82, Fb82, Fc82, Fn82, Ff82, ⟨vl82, Fl82⟩, ⟨va82, Fa82⟩, ⟨vo82, Vo82, ho82⟩, Vt82, ht82, nA82, nB82, nC82⟩ := hA
  have hnz124 := own_nz hz
  refine own_by (fun _ kS => XS.lloadN X0.here hx rfl (hb hby d10_0) rfl kS) ?_
  show own_Comes p e below s _ _ _ (s₁.setTop (mkF m 1 #[.val (.ref r0), .val (.long q1), .second, .val (.long q2), .second, .val (.long q3), .second, .unset, .unset, .unset, .unset] [(.long q2)]))
  refine own_by (fun _ kS => XS.lload X0.here hx rfl (hb hby d10_1) rfl kS) ?_
  show own_Comes p e below s _ _ _ (s₁.setTop (mkF m 3 #[.val (.ref r0), .val (.long q1), .second, .val (.long q2), .second, .val (.long q3), .second, .unset, .unset, .unset, .unset] [(.long q3), (.long q2)]))
  refine own_by (fun _ kS => XS.lsub X0.here hx rfl (hb hby d10_3) rfl kS) ?_
  show own_Comes p e below s _ _ _ (s₁.setTop (mkF m 4 #[.val (.ref r0), .val (.long q1), .second, .val (.long q2), .second, .val (.long q3), .second, .unset, .unset, .unset, .unset] [(.long (q2 - q3))]))
  refine own_by (fun _ kS => XS.lstore X0.here hx rfl (hb hby d10_4) rfl (l' := #[.val (.ref r0), .val (.long q1), .second, .val (.long q2), .second, .val (.long q3), .second, .val (.long (q2 - q3)), .second, .unset, .unset]) rfl kS) ?_
  show own_Comes p e below s _ _ _ (s₁.setTop (mkF m 6 #[.val (.ref r0), .val (.long q1), .second, .val (.long q2), .second, .val (.long q3), .second, .val (.long (q2 - q3)), .second, .unset, .unset] []))
  refine own_by (fun _ kS => XS.aloadN X0.here hx rfl (hb hby d10_6) rfl rfl kS) ?_
  show own_Comes p e below s _ _ _ (s₁.setTop (mkF m 7 #[.val (.ref r0), .val (.long q1), .second, .val (.long q2), .second, .val (.long q3), .second, .val (.long (q2 - q3)), .second, .unset, .unset] [(.ref r0)]))
  obtain ⟨T83, X83, e83, st83⟩ := getF X0 hx hZ hown (host := "") (Or.inl (hw _ (List.mem_of_getElem? (i := 65) rfl))) Via.refl e0 Fc82 (g := (mkF m 7 #[.val (.ref r0), .val (.long q1), .second, .val (.long q2), .second, .val (.long q3), .second, .val (.long (q2 - q3)), .second, .unset, .unset] [(.ref r0)])) rfl rfl (hb hby d10_7)
  refine own_by st83 ?_
  show own_Comes p e below s _ _ _ (T83.setTop (mkF m 10 #[.val (.ref r0), .val (.long q1), .second, .val (.long q2), .second, .val (.long q3), .second, .val (.long (q2 - q3)), .second, .unset, .unset] [(.int (0 : Int32))]))
  have hb84 : ¬ ((0 : Int32) < (0 : Int32)) := by decide
  refine own_by (fun _ kS => XS.ifYes X83.here hx rfl (pc0 := 10) (pc' := 33) rfl (hb hby d10_10) rfl ((if0 _ _).trans (flt hb84).2.2.2) (by decide) (by decide) kS) ?_
  show own_Comes p e below s _ _ _ (T83.setTop (mkF m 33 #[.val (.ref r0), .val (.long q1), .second, .val (.long q2), .second, .val (.long q3), .second, .val (.long (q2 - q3)), .second, .unset, .unset] []))
  refine own_by (fun _ kS => XS.lload X83.here hx rfl (hb hby d10_33) rfl kS) ?_
  show own_Comes p e below s _ _ _ (T83.setTop (mkF m 35 #[.val (.ref r0), .val (.long q1), .second, .val (.long q2), .second, .val (.long q3), .second, .val (.long (q2 - q3)), .second, .unset, .unset] [(.long (q2 - q3))]))
  refine own_by (fun _ kS => XS.aloadN X83.here hx rfl (hb hby d10_35) rfl rfl kS) ?_
  show own_Comes p e below s _ _ _ (T83.setTop (mkF m 36 #[.val (.ref r0), .val (.long q1), .second, .val (.long q2), .second, .val (.long q3), .second, .val (.long (q2 - q3)), .second, .unset, .unset] [(.ref r0), (.long (q2 - q3))]))
  obtain ⟨T85, X85, e85, st85⟩ := getF X83 hx hZ hown (host := "") (Or.inl (hw _ (List.mem_of_getElem? (i := 46) rfl))) Via.refl e83 Fp82 (g := (mkF m 36 #[.val (.ref r0), .val (.long q1), .second, .val (.long q2), .second, .val (.long q3), .second, .val (.long (q2 - q3)), .second, .unset, .unset] [(.ref r0), (.long (q2 - q3))])) rfl rfl (hb hby d10_36)
  refine own_by st85 ?_
  show own_Comes p e below s _ _ _ (T85.setTop (mkF m 39 #[.val (.ref r0), .val (.long q1), .second, .val (.long q2), .second, .val (.long q3), .second, .val (.long (q2 - q3)), .second, .unset, .unset] [(.long P), (.long (q2 - q3))]))
  refine own_by (fun _ kS => XS.lloadN X85.here hx rfl (hb hby d10_39) rfl kS) ?_
  show own_Comes p e below s _ _ _ (T85.setTop (mkF m 40 #[.val (.ref r0), .val (.long q1), .second, .val (.long q2), .second, .val (.long q3), .second, .val (.long (q2 - q3)), .second, .unset, .unset] [(.long q1), (.long P), (.long (q2 - q3))]))
  refine own_by (fun _ kS => XS.lmul X85.here hx rfl (hb hby d10_40) rfl kS) ?_
  show own_Comes p e below s _ _ _ (T85.setTop (mkF m 41 #[.val (.ref r0), .val (.long q1), .second, .val (.long q2), .second, .val (.long q3), .second, .val (.long (q2 - q3)), .second, .unset, .unset] [(.long (P * q1)), (.long (q2 - q3))]))
  refine own_by (fun _ kS => XS.lsub X85.here hx rfl (hb hby d10_41) rfl kS) ?_
  show own_Comes p e below s _ _ _ (T85.setTop (mkF m 42 #[.val (.ref r0), .val (.long q1), .second, .val (.long q2), .second, .val (.long q3), .second, .val (.long (q2 - q3)), .second, .unset, .unset] [(.long ((q2 - q3) - (P * q1)))]))
  refine own_by (fun _ kS => XS.lstore X85.here hx rfl (hb hby d10_42) rfl (l' := #[.val (.ref r0), .val (.long q1), .second, .val (.long q2), .second, .val (.long q3), .second, .val (.long (q2 - q3)), .second, .val (.long ((q2 - q3) - (P * q1))), .second]) rfl kS) ?_
  show own_Comes p e below s _ _ _ (T85.setTop (mkF m 44 #[.val (.ref r0), .val (.long q1), .second, .val (.long q2), .second, .val (.long q3), .second, .val (.long (q2 - q3)), .second, .val (.long ((q2 - q3) - (P * q1))), .second] []))
  refine own_by (fun _ kS => XS.aloadN X85.here hx rfl (hb hby d10_44) rfl rfl kS) ?_
  show own_Comes p e below s _ _ _ (T85.setTop (mkF m 45 #[.val (.ref r0), .val (.long q1), .second, .val (.long q2), .second, .val (.long q3), .second, .val (.long (q2 - q3)), .second, .val (.long ((q2 - q3) - (P * q1))), .second] [(.ref r0)]))
  obtain ⟨T86, X86, e86, st86⟩ := getF X85 hx hZ hown (host := "") (Or.inl (hw _ (List.mem_of_getElem? (i := 65) rfl))) Via.refl e85 Fc82 (g := (mkF m 45 #[.val (.ref r0), .val (.long q1), .second, .val (.long q2), .second, .val (.long q3), .second, .val (.long (q2 - q3)), .second, .val (.long ((q2 - q3) - (P * q1))), .second] [(.ref r0)])) rfl rfl (hb hby d10_45)
  refine own_by st86 ?_
  show own_Comes p e below s _ _ _ (T86.setTop (mkF m 48 #[.val (.ref r0), .val (.long q1), .second, .val (.long q2), .second, .val (.long q3), .second, .val (.long (q2 - q3)), .second, .val (.long ((q2 - q3) - (P * q1))), .second] [(.int (0 : Int32))]))
  have hb87 : (0 : Int32) = (0 : Int32) := by decide
  refine own_by (fun _ kS => XS.ifNo X86.here hx rfl (hb hby d10_48) rfl ((if0 _ _).trans (teq hb87).2) kS) ?_
  show own_Comes p e below s _ _ _ (T86.setTop (mkF m 51 #[.val (.ref r0), .val (.long q1), .second, .val (.long q2), .second, .val (.long q3), .second, .val (.long (q2 - q3)), .second, .val (.long ((q2 - q3) - (P * q1))), .second] []))
  refine own_by (fun _ kS => XS.aloadN X86.here hx rfl (hb hby d10_51) rfl rfl kS) ?_
  show own_Comes p e below s _ _ _ (T86.setTop (mkF m 52 #[.val (.ref r0), .val (.long q1), .second, .val (.long q2), .second, .val (.long q3), .second, .val (.long (q2 - q3)), .second, .val (.long ((q2 - q3) - (P * q1))), .second] [(.ref r0)]))
  refine own_by (fun _ kS => XS.lload X86.here hx rfl (hb hby d10_52) rfl kS) ?_
  show own_Comes p e below s _ _ _ (T86.setTop (mkF m 54 #[.val (.ref r0), .val (.long q1), .second, .val (.long q2), .second, .val (.long q3), .second, .val (.long (q2 - q3)), .second, .val (.long ((q2 - q3) - (P * q1))), .second] [(.long ((q2 - q3) - (P * q1))), (.ref r0)]))
  obtain ⟨T88, h88, X88, e88, W88, st88⟩ := putF X86 hx hZ hown (host := "") (Or.inl (hw _ (List.mem_of_getElem? (i := 81) rfl))) Via.refl e86 Fb82 EX82 (Or.inl (hw _ (List.mem_of_getElem? (i := 82) rfl))) (hw _ (List.mem_of_getElem? (i := 5) rfl)) (ty := .long) (by decide) rfl rfl (g := (mkF m 54 #[.val (.ref r0), .val (.long q1), .second, .val (.long q2), .second, .val (.long q3), .second, .val (.long (q2 - q3)), .second, .val (.long ((q2 - q3) - (P * q1))), .second] [(.long ((q2 - q3) - (P * q1))), (.ref r0)])) rfl rfl (hb hby d10_54)
  refine own_by st88 ?_
  have Fw88 := Fb82.same W88
  have N88 := Fr.snoc X88 N0 g_r0
  show own_Comes p e below s _ _ _ (T88.setTop (mkF m 57 #[.val (.ref r0), .val (.long q1), .second, .val (.long q2), .second, .val (.long q3), .second, .val (.long (q2 - q3)), .second, .val (.long ((q2 - q3) - (P * q1))), .second] []))
  refine own_by (fun _ kS => XS.goto X88.here hx rfl (pc0 := 57) (pc' := 90) rfl (hb hby d10_57) (by decide) (by decide) kS) ?_
  show own_Comes p e below s _ _ _ (T88.setTop (mkF m 90 #[.val (.ref r0), .val (.long q1), .second, .val (.long q2), .second, .val (.long q3), .second, .val (.long (q2 - q3)), .second, .val (.long ((q2 - q3) - (P * q1))), .second] []))
  refine own_by (fun _ kS => XS.aloadN X88.here hx rfl (hb hby d10_90) rfl rfl kS) ?_
  show own_Comes p e below s _ _ _ (T88.setTop (mkF m 91 #[.val (.ref r0), .val (.long q1), .second, .val (.long q2), .second, .val (.long q3), .second, .val (.long (q2 - q3)), .second, .val (.long ((q2 - q3) - (P * q1))), .second] [(.ref r0)]))
  refine own_by (fun _ kS => XS.lload X88.here hx rfl (hb hby d10_91) rfl kS) ?_
  show own_Comes p e below s _ _ _ (T88.setTop (mkF m 93 #[.val (.ref r0), .val (.long q1), .second, .val (.long q2), .second, .val (.long q3), .second, .val (.long (q2 - q3)), .second, .val (.long ((q2 - q3) - (P * q1))), .second] [(.long ((q2 - q3) - (P * q1))), (.ref r0)]))
  refine own_by (fun _ kS => XS.aloadN X88.here hx rfl (hb hby d10_93) rfl rfl kS) ?_
  show own_Comes p e below s _ _ _ (T88.setTop (mkF m 94 #[.val (.ref r0), .val (.long q1), .second, .val (.long q2), .second, .val (.long q3), .second, .val (.long (q2 - q3)), .second, .val (.long ((q2 - q3) - (P * q1))), .second] [(.ref r0), (.long ((q2 - q3) - (P * q1))), (.ref r0)]))
  obtain ⟨T89, X89, e89, st89⟩ := getF X88 hx hZ hown (host := "") (Or.inl (hw _ (List.mem_of_getElem? (i := 81) rfl))) Via.refl e88 Fw88 (g := (mkF m 94 #[.val (.ref r0), .val (.long q1), .second, .val (.long q2), .second, .val (.long q3), .second, .val (.long (q2 - q3)), .second, .val (.long ((q2 - q3) - (P * q1))), .second] [(.ref r0), (.long ((q2 - q3) - (P * q1))), (.ref r0)])) rfl rfl (hb hby d10_94)
  refine own_by st89 ?_
  show own_Comes p e below s _ _ _ (T89.setTop (mkF m 97 #[.val (.ref r0), .val (.long q1), .second, .val (.long q2), .second, .val (.long q3), .second, .val (.long (q2 - q3)), .second, .val (.long ((q2 - q3) - (P * q1))), .second] [(.long ((q2 - q3) - (P * q1))), (.long ((q2 - q3) - (P * q1))), (.ref r0)]))
  refine own_by (fun _ kS => XS.lsub X89.here hx rfl (hb hby d10_97) rfl kS) ?_
  show own_Comes p e below s _ _ _ (T89.setTop (mkF m 98 #[.val (.ref r0), .val (.long q1), .second, .val (.long q2), .second, .val (.long q3), .second, .val (.long (q2 - q3)), .second, .val (.long ((q2 - q3) - (P * q1))), .second] [(.long (((q2 - q3) - (P * q1)) - ((q2 - q3) - (P * q1)))), (.ref r0)]))
  have c90 := (Fp82.other W88 (Or.inr (slot_ne (Or.inr (hw _ (List.mem_of_getElem? (i := 47) rfl))) (Or.inl (hw _ (List.mem_of_getElem? (i := 82) rfl))) (by decide) (t := .long) (t' := .long) (by decide) (by decide))))
  have c91 := (Fm82.other W88 (Or.inr (slot_ne (Or.inr (hw _ (List.mem_of_getElem? (i := 54) rfl))) (Or.inl (hw _ (List.mem_of_getElem? (i := 82) rfl))) (by decide) (t := .long) (t' := .long) (by decide) (by decide))))
  have c92 := (Fo82.other W88 (Or.inr (slot_ne (Or.inr (hw _ (List.mem_of_getElem? (i := 57) rfl))) (Or.inl (hw _ (List.mem_of_getElem? (i := 82) rfl))) (by decide) (t := (.array .long)) (t' := .long) (by decide) (by decide))))
  have c93 := (Ft82.other W88 (Or.inr (slot_ne (Or.inr (hw _ (List.mem_of_getElem? (i := 59) rfl))) (Or.inl (hw _ (List.mem_of_getElem? (i := 82) rfl))) (by decide) (t := (.array .long)) (t' := .long) (by decide) (by decide))))
  have c94 := (Fc82.other W88 (Or.inr (slot_ne (Or.inl (hw _ (List.mem_of_getElem? (i := 66) rfl))) (Or.inl (hw _ (List.mem_of_getElem? (i := 82) rfl))) (by decide) (t := .int) (t' := .long) (by decide) (by decide))))
  have c95 := (Fn82.other W88 (Or.inr (slot_ne (Or.inl (hw _ (List.mem_of_getElem? (i := 68) rfl))) (Or.inl (hw _ (List.mem_of_getElem? (i := 82) rfl))) (by decide) (t := .int) (t' := .long) (by decide) (by decide))))
  have c96 := (Ff82.other W88 (Or.inr (slot_ne (Or.inl (hw _ (List.mem_of_getElem? (i := 70) rfl))) (Or.inl (hw _ (List.mem_of_getElem? (i := 82) rfl))) (by decide) (t := .long) (t' := .long) (by decide) (by decide))))
  have c97 := (Fl82.other W88 (Or.inr (slot_ne (Or.inl (hw _ (List.mem_of_getElem? (i := 102) rfl))) (Or.inl (hw _ (List.mem_of_getElem? (i := 82) rfl))) (by decide) (t := .long) (t' := .long) (by decide) (by decide))))
  have c98 := (Fa82.other W88 (Or.inr (slot_ne (Or.inl (hw _ (List.mem_of_getElem? (i := 104) rfl))) (Or.inl (hw _ (List.mem_of_getElem? (i := 82) rfl))) (by decide) (t := .long) (t' := .long) (by decide) (by decide))))
  have hA1 : own_AE Z h88 r0 P M o t ko kt z vt ((q2 - q3) - (P * q1)) (0 : Int32) (0 : Int32) fr := ⟨(EX82.wr W88), c90, c91, c92, c93, Fw88, c94, c95, c96, ⟨_, c97⟩, ⟨_, c98⟩, ⟨_, (Vo82.other W88 (Ne.symm nA82)), ho82⟩, (Vt82.other W88 (Ne.symm nB82)), ht82, nA82, nB82, nC82⟩
  obtain ⟨cq99, q99, q99'⟩ := (EX82.wr W88).cell
  obtain ⟨_, _, ⟨T99, L99, k99, n99⟩, -, X99, ⟨Lc99, hQ99, l99, y99, z99⟩, st99⟩ := X89.privateBack hx (y := (⟨"com/example/hetman/hetman/peer/ArrivalEstimator", "insert", "(J)V"⟩ : MethodName)) hown (mvT hZ (hw _ (List.mem_of_getElem? (i := 83) rfl))) (mvT hZ (hw _ (List.mem_of_getElem? (i := 84) rfl))) (Jvm.Kit.selects_private (by decide) (mvT hZ (hw _ (List.mem_of_getElem? (i := 5) rfl))) (mvP hZ (hw _ (List.mem_of_getElem? (i := 85) rfl))) (mvT hZ (hw _ (List.mem_of_getElem? (i := 84) rfl)))) (Cond.privateMethod_at (mvP hZ (hw _ (List.mem_of_getElem? (i := 85) rfl)) (args := #[]))) (mvT hZ (hw _ (List.mem_of_getElem? (i := 86) rfl))) (by decide) (backOf (W := 0) (rm11 l Z a0 hw [] r0 (((q2 - q3) - (P * q1)) - ((q2 - q3) - (P * q1))) P M o t ko kt z vt ((q2 - q3) - (P * q1)) (0 : Int32) fr h88 n0 (Nat.le_trans Z0 (Keep.of_wr W88).1) hA1 g_r0 g_t hz) hZ (hw _ (List.mem_of_getElem? (i := 86) rfl)) (hw _ (List.mem_of_getElem? (i := 6) rfl)) (by decide) (by decide)) (g := (mkF m 98 #[.val (.ref r0), .val (.long q1), .second, .val (.long q2), .second, .val (.long q3), .second, .val (.long (q2 - q3)), .second, .val (.long ((q2 - q3) - (P * q1))), .second] [(.long (((q2 - q3) - (P * q1)) - ((q2 - q3) - (P * q1)))), (.ref r0)])) rfl (by rw [hml]; rfl) (Steps.refl _) (a := r0) (by rw [e89]; exact q99) q99' (argsL := [(.long (((q2 - q3) - (P * q1)) - ((q2 - q3) - (P * q1))))]) (rest := []) (lenOf pd__J_V_241 rfl) rfl (by show 2 * 0 + _ ≤ _; exact Nat.le_of_eq rfl) (hb hby d10_98) (fun _ _ => ⟨rfl, e89, (by decide : 0 + 0 ≤ _), (by decide : 0 + 0 ≤ _)⟩)
  dsimp only [Pt.U, Pt.locs, Pt.cells, Pt.slots] at X99 l99 y99 z99 st99 hQ99
  subst l99 y99 z99
  obtain ⟨rfl, N99q, K99, vu99, hA99, hg99⟩ := hQ99
  have N99 := Fr.app N88 N99q
  refine own_tr st99 ?_
  show own_Comes p e below s _ _ _ (T99.setTop (mkF m 101 #[.val (.ref r0), .val (.long q1), .second, .val (.long q2), .second, .val (.long q3), .second, .val (.long (q2 - q3)), .second, .val (.long ((q2 - q3) - (P * q1))), .second] []))
  obtain ⟨EX100, Fp100, Fm100, Fo100, Ft100, Fb100, Fc100, Fn100, Ff100, ⟨vl100, Fl100⟩, ⟨va100, Fa100⟩, ⟨vo100, Vo100, ho100⟩, Vt100, ht100, nA100, nB100, nC100⟩ := hA99
  refine own_by (fun _ kS => XS.aloadN X99.here hx rfl (hb hby d10_101) rfl rfl kS) ?_
  show own_Comes p e below s _ _ _ (T99.setTop (mkF m 102 #[.val (.ref r0), .val (.long q1), .second, .val (.long q2), .second, .val (.long q3), .second, .val (.long (q2 - q3)), .second, .val (.long ((q2 - q3) - (P * q1))), .second] [(.ref r0)]))
  obtain ⟨T101, X101, e101, st101⟩ := getF X99 hx hZ hown (host := "") (Or.inl (hw _ (List.mem_of_getElem? (i := 56) rfl))) Via.refl rfl Fo100 (g := (mkF m 102 #[.val (.ref r0), .val (.long q1), .second, .val (.long q2), .second, .val (.long q3), .second, .val (.long (q2 - q3)), .second, .val (.long ((q2 - q3) - (P * q1))), .second] [(.ref r0)])) rfl rfl (hb hby d10_102)
  refine own_by st101 ?_
  show own_Comes p e below s _ _ _ (T101.setTop (mkF m 105 #[.val (.ref r0), .val (.long q1), .second, .val (.long q2), .second, .val (.long q3), .second, .val (.long (q2 - q3)), .second, .val (.long ((q2 - q3) - (P * q1))), .second] [(.ref o)]))
  refine own_by (fun _ kS => XS.aloadN X101.here hx rfl (hb hby d10_105) rfl rfl kS) ?_
  show own_Comes p e below s _ _ _ (T101.setTop (mkF m 106 #[.val (.ref r0), .val (.long q1), .second, .val (.long q2), .second, .val (.long q3), .second, .val (.long (q2 - q3)), .second, .val (.long ((q2 - q3) - (P * q1))), .second] [(.ref r0), (.ref o)]))
  obtain ⟨T102, X102, e102, st102⟩ := getF X101 hx hZ hown (host := "") (Or.inl (hw _ (List.mem_of_getElem? (i := 67) rfl))) Via.refl e101 Fn100 (g := (mkF m 106 #[.val (.ref r0), .val (.long q1), .second, .val (.long q2), .second, .val (.long q3), .second, .val (.long (q2 - q3)), .second, .val (.long ((q2 - q3) - (P * q1))), .second] [(.ref r0), (.ref o)])) rfl rfl (hb hby d10_106)
  refine own_by st102 ?_
  show own_Comes p e below s _ _ _ (T102.setTop (mkF m 109 #[.val (.ref r0), .val (.long q1), .second, .val (.long q2), .second, .val (.long q3), .second, .val (.long (q2 - q3)), .second, .val (.long ((q2 - q3) - (P * q1))), .second] [(.int (0 : Int32)), (.ref o)]))
  refine own_by (fun _ kS => XS.lload X102.here hx rfl (hb hby d10_109) rfl kS) ?_
  show own_Comes p e below s _ _ _ (T102.setTop (mkF m 111 #[.val (.ref r0), .val (.long q1), .second, .val (.long q2), .second, .val (.long q3), .second, .val (.long (q2 - q3)), .second, .val (.long ((q2 - q3) - (P * q1))), .second] [(.long ((q2 - q3) - (P * q1))), (.int (0 : Int32)), (.ref o)]))
  have Vo103 := Vo100
  obtain ⟨cl103, Ar103, qA103, SA103, NA103, HA103, GA103⟩ := Vo103
  have hin103 : ¬ ((0 : Int32) < 0 ∨ cl103.slots.size ≤ ((0 : Int32)).toNatClampNeg) := inb_of SA103 (own_in0 hz)
  obtain ⟨T104, h104, X104, e104, W104, st104⟩ := stJ X102 hx hZ e102 Ar103 (j := (0 : Int32)) hin103 (g := (mkF m 111 #[.val (.ref r0), .val (.long q1), .second, .val (.long q2), .second, .val (.long q3), .second, .val (.long (q2 - q3)), .second, .val (.long ((q2 - q3) - (P * q1))), .second] [(.long ((q2 - q3) - (P * q1))), (.int (0 : Int32)), (.ref o)])) rfl rfl (hb hby d10_111)
  refine own_by st104 ?_
  have V104 : Arv Z h104 o ko .long z (vo100.set 0 (.long ((q2 - q3) - (P * q1)))) (.long (0 : Int64)) := Arv.set Ar103 qA103 SA103 NA103 HA103 GA103 rfl W104 0 rfl ho100
  have N104 := Fr.snoc X104 N99 g_o
  show own_Comes p e below s _ _ _ (T104.setTop (mkF m 112 #[.val (.ref r0), .val (.long q1), .second, .val (.long q2), .second, .val (.long q3), .second, .val (.long (q2 - q3)), .second, .val (.long ((q2 - q3) - (P * q1))), .second] []))
  refine own_by (fun _ kS => XS.aloadN X104.here hx rfl (hb hby d10_112) rfl rfl kS) ?_
  show own_Comes p e below s _ _ _ (T104.setTop (mkF m 113 #[.val (.ref r0), .val (.long q1), .second, .val (.long q2), .second, .val (.long q3), .second, .val (.long (q2 - q3)), .second, .val (.long ((q2 - q3) - (P * q1))), .second] [(.ref r0)]))
  refine own_by (fun _ kS => XS.aloadN X104.here hx rfl (hb hby d10_113) rfl rfl kS) ?_
  show own_Comes p e below s _ _ _ (T104.setTop (mkF m 114 #[.val (.ref r0), .val (.long q1), .second, .val (.long q2), .second, .val (.long q3), .second, .val (.long (q2 - q3)), .second, .val (.long ((q2 - q3) - (P * q1))), .second] [(.ref r0), (.ref r0)]))
  obtain ⟨T105, X105, e105, st105⟩ := getF X104 hx hZ hown (host := "") (Or.inl (hw _ (List.mem_of_getElem? (i := 67) rfl))) Via.refl e104 (Fn100.other W104 (Or.inl nA100)) (g := (mkF m 114 #[.val (.ref r0), .val (.long q1), .second, .val (.long q2), .second, .val (.long q3), .second, .val (.long (q2 - q3)), .second, .val (.long ((q2 - q3) - (P * q1))), .second] [(.ref r0), (.ref r0)])) rfl rfl (hb hby d10_114)
  refine own_by st105 ?_
  show own_Comes p e below s _ _ _ (T105.setTop (mkF m 117 #[.val (.ref r0), .val (.long q1), .second, .val (.long q2), .second, .val (.long q3), .second, .val (.long (q2 - q3)), .second, .val (.long ((q2 - q3) - (P * q1))), .second] [(.int (0 : Int32)), (.ref r0)]))
  refine own_by (fun _ kS => XS.iconst X105.here hx rfl (hb hby d10_117) kS) ?_
  show own_Comes p e below s _ _ _ (T105.setTop (mkF m 118 #[.val (.ref r0), .val (.long q1), .second, .val (.long q2), .second, .val (.long q3), .second, .val (.long (q2 - q3)), .second, .val (.long ((q2 - q3) - (P * q1))), .second] [(.int (1 : Int32)), (.int (0 : Int32)), (.ref r0)]))
  refine own_by (fun _ kS => XS.iadd X105.here hx rfl (hb hby d10_118) rfl kS) ?_
  show own_Comes p e below s _ _ _ (T105.setTop (mkF m 119 #[.val (.ref r0), .val (.long q1), .second, .val (.long q2), .second, .val (.long q3), .second, .val (.long (q2 - q3)), .second, .val (.long ((q2 - q3) - (P * q1))), .second] [(.int ((0 : Int32) + (1 : Int32))), (.ref r0)]))
  refine own_by (fun _ kS => XS.aloadN X105.here hx rfl (hb hby d10_119) rfl rfl kS) ?_
  show own_Comes p e below s _ _ _ (T105.setTop (mkF m 120 #[.val (.ref r0), .val (.long q1), .second, .val (.long q2), .second, .val (.long q3), .second, .val (.long (q2 - q3)), .second, .val (.long ((q2 - q3) - (P * q1))), .second] [(.ref r0), (.int ((0 : Int32) + (1 : Int32))), (.ref r0)]))
  obtain ⟨T106, X106, e106, st106⟩ := getF X105 hx hZ hown (host := "") (Or.inl (hw _ (List.mem_of_getElem? (i := 56) rfl))) Via.refl e105 (Fo100.other W104 (Or.inl nA100)) (g := (mkF m 120 #[.val (.ref r0), .val (.long q1), .second, .val (.long q2), .second, .val (.long q3), .second, .val (.long (q2 - q3)), .second, .val (.long ((q2 - q3) - (P * q1))), .second] [(.ref r0), (.int ((0 : Int32) + (1 : Int32))), (.ref r0)])) rfl rfl (hb hby d10_120)
  refine own_by st106 ?_
  show own_Comes p e below s _ _ _ (T106.setTop (mkF m 123 #[.val (.ref r0), .val (.long q1), .second, .val (.long q2), .second, .val (.long q3), .second, .val (.long (q2 - q3)), .second, .val (.long ((q2 - q3) - (P * q1))), .second] [(.ref o), (.int ((0 : Int32) + (1 : Int32))), (.ref r0)]))
  have Vo107 := V104
  obtain ⟨cl107, Ar107, qA107, SA107, NA107, HA107, GA107⟩ := Vo107
  refine own_by (fun _ kS => X106.arraylength hx (by rw [e106]; exact Ar107.1) (State.isArrayOf_alike hZ.alike Ar107.2.1) (g := (mkF m 123 #[.val (.ref r0), .val (.long q1), .second, .val (.long q2), .second, .val (.long q3), .second, .val (.long (q2 - q3)), .second, .val (.long ((q2 - q3) - (P * q1))), .second] [(.ref o), (.int ((0 : Int32) + (1 : Int32))), (.ref r0)])) rfl rfl (hb hby d10_123) _ kS) ?_
  rw [len_of SA107 NA107]
  show own_Comes p e below s _ _ _ (T106.setTop (mkF m 124 #[.val (.ref r0), .val (.long q1), .second, .val (.long q2), .second, .val (.long q3), .second, .val (.long (q2 - q3)), .second, .val (.long ((q2 - q3) - (P * q1))), .second] [(.int z), (.int ((0 : Int32) + (1 : Int32))), (.ref r0)]))
  refine own_by (fun _ kS => iremM X106 hx rfl (hb hby d10_124) rfl hnz124 kS) ?_
  show own_Comes p e below s _ _ _ (T106.setTop (mkF m 125 #[.val (.ref r0), .val (.long q1), .second, .val (.long q2), .second, .val (.long q3), .second, .val (.long (q2 - q3)), .second, .val (.long ((q2 - q3) - (P * q1))), .second] [(.int (((0 : Int32) + (1 : Int32)) % z)), (.ref r0)]))
  obtain ⟨T108, h108, X108, e108, W108, st108⟩ := putF X106 hx hZ hown (host := "") (Or.inl (hw _ (List.mem_of_getElem? (i := 67) rfl))) Via.refl e106 (Fn100.other W104 (Or.inl nA100)) (EX100.wr W104) (Or.inl (hw _ (List.mem_of_getElem? (i := 68) rfl))) (hw _ (List.mem_of_getElem? (i := 5) rfl)) (ty := .int) (by decide) rfl rfl (g := (mkF m 125 #[.val (.ref r0), .val (.long q1), .second, .val (.long q2), .second, .val (.long q3), .second, .val (.long (q2 - q3)), .second, .val (.long ((q2 - q3) - (P * q1))), .second] [(.int (((0 : Int32) + (1 : Int32)) % z)), (.ref r0)])) rfl rfl (hb hby d10_125)
  refine own_by st108 ?_
  have Fw108 := (Fn100.other W104 (Or.inl nA100)).same W108
  have N108 := Fr.snoc X108 N104 g_r0
  show own_Comes p e below s _ _ _ (T108.setTop (mkF m 128 #[.val (.ref r0), .val (.long q1), .second, .val (.long q2), .second, .val (.long q3), .second, .val (.long (q2 - q3)), .second, .val (.long ((q2 - q3) - (P * q1))), .second] []))
  refine own_by (fun _ kS => XS.aloadN X108.here hx rfl (hb hby d10_128) rfl rfl kS) ?_
  show own_Comes p e below s _ _ _ (T108.setTop (mkF m 129 #[.val (.ref r0), .val (.long q1), .second, .val (.long q2), .second, .val (.long q3), .second, .val (.long (q2 - q3)), .second, .val (.long ((q2 - q3) - (P * q1))), .second] [(.ref r0)]))
  refine own_by (fun _ kS => XS.lloadN X108.here hx rfl (hb hby d10_129) rfl kS) ?_
  show own_Comes p e below s _ _ _ (T108.setTop (mkF m 130 #[.val (.ref r0), .val (.long q1), .second, .val (.long q2), .second, .val (.long q3), .second, .val (.long (q2 - q3)), .second, .val (.long ((q2 - q3) - (P * q1))), .second] [(.long q1), (.ref r0)]))
  have c109 := ((Fl100.other W104 (Or.inl nA100)).other W108 (Or.inr (slot_ne (Or.inl (hw _ (List.mem_of_getElem? (i := 102) rfl))) (Or.inl (hw _ (List.mem_of_getElem? (i := 68) rfl))) (by decide) (t := .long) (t' := .int) (by decide) (by decide))))
  obtain ⟨T110, h110, X110, e110, W110, st110⟩ := putF X108 hx hZ hown (host := "") (Or.inl (hw _ (List.mem_of_getElem? (i := 101) rfl))) Via.refl e108 c109 ((EX100.wr W104).wr W108) (Or.inl (hw _ (List.mem_of_getElem? (i := 102) rfl))) (hw _ (List.mem_of_getElem? (i := 5) rfl)) (ty := .long) (by decide) rfl rfl (g := (mkF m 130 #[.val (.ref r0), .val (.long q1), .second, .val (.long q2), .second, .val (.long q3), .second, .val (.long (q2 - q3)), .second, .val (.long ((q2 - q3) - (P * q1))), .second] [(.long q1), (.ref r0)])) rfl rfl (hb hby d10_130)
  refine own_by st110 ?_
  have Fw110 := c109.same W110
  have N110 := Fr.snoc X110 N108 g_r0
  show own_Comes p e below s _ _ _ (T110.setTop (mkF m 133 #[.val (.ref r0), .val (.long q1), .second, .val (.long q2), .second, .val (.long q3), .second, .val (.long (q2 - q3)), .second, .val (.long ((q2 - q3) - (P * q1))), .second] []))
  refine own_by (fun _ kS => XS.aloadN X110.here hx rfl (hb hby d10_133) rfl rfl kS) ?_
  show own_Comes p e below s _ _ _ (T110.setTop (mkF m 134 #[.val (.ref r0), .val (.long q1), .second, .val (.long q2), .second, .val (.long q3), .second, .val (.long (q2 - q3)), .second, .val (.long ((q2 - q3) - (P * q1))), .second] [(.ref r0)]))
  refine own_by (fun _ kS => XS.lload X110.here hx rfl (hb hby d10_134) rfl kS) ?_
  show own_Comes p e below s _ _ _ (T110.setTop (mkF m 136 #[.val (.ref r0), .val (.long q1), .second, .val (.long q2), .second, .val (.long q3), .second, .val (.long (q2 - q3)), .second, .val (.long ((q2 - q3) - (P * q1))), .second] [(.long (q2 - q3)), (.ref r0)]))
  have c111 := (((Fa100.other W104 (Or.inl nA100)).other W108 (Or.inr (slot_ne (Or.inl (hw _ (List.mem_of_getElem? (i := 104) rfl))) (Or.inl (hw _ (List.mem_of_getElem? (i := 68) rfl))) (by decide) (t := .long) (t' := .int) (by decide) (by decide)))).other W110 (Or.inr (slot_ne (Or.inl (hw _ (List.mem_of_getElem? (i := 104) rfl))) (Or.inl (hw _ (List.mem_of_getElem? (i := 102) rfl))) (by decide) (t := .long) (t' := .long) (by decide) (by decide))))
  obtain ⟨T112, h112, X112, e112, W112, st112⟩ := putF X110 hx hZ hown (host := "") (Or.inl (hw _ (List.mem_of_getElem? (i := 103) rfl))) Via.refl e110 c111 (((EX100.wr W104).wr W108).wr W110) (Or.inl (hw _ (List.mem_of_getElem? (i := 104) rfl))) (hw _ (List.mem_of_getElem? (i := 5) rfl)) (ty := .long) (by decide) rfl rfl (g := (mkF m 136 #[.val (.ref r0), .val (.long q1), .second, .val (.long q2), .second, .val (.long q3), .second, .val (.long (q2 - q3)), .second, .val (.long ((q2 - q3) - (P * q1))), .second] [(.long (q2 - q3)), (.ref r0)])) rfl rfl (hb hby d10_136)
  refine own_by st112 ?_
  have Fw112 := c111.same W112
  have N112 := Fr.snoc X112 N110 g_r0
  show own_Comes p e below s _ _ _ (T112.setTop (mkF m 139 #[.val (.ref r0), .val (.long q1), .second, .val (.long q2), .second, .val (.long q3), .second, .val (.long (q2 - q3)), .second, .val (.long ((q2 - q3) - (P * q1))), .second] []))
  refine own_by (fun _ kS => XS.aloadN X112.here hx rfl (hb hby d10_139) rfl rfl kS) ?_
  show own_Comes p e below s _ _ _ (T112.setTop (mkF m 140 #[.val (.ref r0), .val (.long q1), .second, .val (.long q2), .second, .val (.long q3), .second, .val (.long (q2 - q3)), .second, .val (.long ((q2 - q3) - (P * q1))), .second] [(.ref r0)]))
  refine own_by (fun _ kS => XS.aloadN X112.here hx rfl (hb hby d10_140) rfl rfl kS) ?_
  show own_Comes p e below s _ _ _ (T112.setTop (mkF m 141 #[.val (.ref r0), .val (.long q1), .second, .val (.long q2), .second, .val (.long q3), .second, .val (.long (q2 - q3)), .second, .val (.long ((q2 - q3) - (P * q1))), .second] [(.ref r0), (.ref r0)]))
  have c113 := ((((Fb100.other W104 (Or.inl nA100)).other W108 (Or.inr (slot_ne (Or.inl (hw _ (List.mem_of_getElem? (i := 82) rfl))) (Or.inl (hw _ (List.mem_of_getElem? (i := 68) rfl))) (by decide) (t := .long) (t' := .int) (by decide) (by decide)))).other W110 (Or.inr (slot_ne (Or.inl (hw _ (List.mem_of_getElem? (i := 82) rfl))) (Or.inl (hw _ (List.mem_of_getElem? (i := 102) rfl))) (by decide) (t := .long) (t' := .long) (by decide) (by decide)))).other W112 (Or.inr (slot_ne (Or.inl (hw _ (List.mem_of_getElem? (i := 82) rfl))) (Or.inl (hw _ (List.mem_of_getElem? (i := 104) rfl))) (by decide) (t := .long) (t' := .long) (by decide) (by decide))))
  obtain ⟨T114, X114, e114, st114⟩ := getF X112 hx hZ hown (host := "") (Or.inl (hw _ (List.mem_of_getElem? (i := 81) rfl))) Via.refl e112 c113 (g := (mkF m 141 #[.val (.ref r0), .val (.long q1), .second, .val (.long q2), .second, .val (.long q3), .second, .val (.long (q2 - q3)), .second, .val (.long ((q2 - q3) - (P * q1))), .second] [(.ref r0), (.ref r0)])) rfl rfl (hb hby d10_141)
  refine own_by st114 ?_
  show own_Comes p e below s _ _ _ (T114.setTop (mkF m 144 #[.val (.ref r0), .val (.long q1), .second, .val (.long q2), .second, .val (.long q3), .second, .val (.long (q2 - q3)), .second, .val (.long ((q2 - q3) - (P * q1))), .second] [(.long ((q2 - q3) - (P * q1))), (.ref r0)]))
  refine own_by (fun _ kS => XS.aloadN X114.here hx rfl (hb hby d10_144) rfl rfl kS) ?_
  show own_Comes p e below s _ _ _ (T114.setTop (mkF m 145 #[.val (.ref r0), .val (.long q1), .second, .val (.long q2), .second, .val (.long q3), .second, .val (.long (q2 - q3)), .second, .val (.long ((q2 - q3) - (P * q1))), .second] [(.ref r0), (.long ((q2 - q3) - (P * q1))), (.ref r0)]))
  have c115 := ((((Fp100.other W104 (Or.inl nA100)).other W108 (Or.inr (slot_ne (Or.inr (hw _ (List.mem_of_getElem? (i := 47) rfl))) (Or.inl (hw _ (List.mem_of_getElem? (i := 68) rfl))) (by decide) (t := .long) (t' := .int) (by decide) (by decide)))).other W110 (Or.inr (slot_ne (Or.inr (hw _ (List.mem_of_getElem? (i := 47) rfl))) (Or.inl (hw _ (List.mem_of_getElem? (i := 102) rfl))) (by decide) (t := .long) (t' := .long) (by decide) (by decide)))).other W112 (Or.inr (slot_ne (Or.inr (hw _ (List.mem_of_getElem? (i := 47) rfl))) (Or.inl (hw _ (List.mem_of_getElem? (i := 104) rfl))) (by decide) (t := .long) (t' := .long) (by decide) (by decide))))
  have c116 := ((((Fm100.other W104 (Or.inl nA100)).other W108 (Or.inr (slot_ne (Or.inr (hw _ (List.mem_of_getElem? (i := 54) rfl))) (Or.inl (hw _ (List.mem_of_getElem? (i := 68) rfl))) (by decide) (t := .long) (t' := .int) (by decide) (by decide)))).other W110 (Or.inr (slot_ne (Or.inr (hw _ (List.mem_of_getElem? (i := 54) rfl))) (Or.inl (hw _ (List.mem_of_getElem? (i := 102) rfl))) (by decide) (t := .long) (t' := .long) (by decide) (by decide)))).other W112 (Or.inr (slot_ne (Or.inr (hw _ (List.mem_of_getElem? (i := 54) rfl))) (Or.inl (hw _ (List.mem_of_getElem? (i := 104) rfl))) (by decide) (t := .long) (t' := .long) (by decide) (by decide))))
  have c117 := ((((Fo100.other W104 (Or.inl nA100)).other W108 (Or.inr (slot_ne (Or.inr (hw _ (List.mem_of_getElem? (i := 57) rfl))) (Or.inl (hw _ (List.mem_of_getElem? (i := 68) rfl))) (by decide) (t := (.array .long)) (t' := .int) (by decide) (by decide)))).other W110 (Or.inr (slot_ne (Or.inr (hw _ (List.mem_of_getElem? (i := 57) rfl))) (Or.inl (hw _ (List.mem_of_getElem? (i := 102) rfl))) (by decide) (t := (.array .long)) (t' := .long) (by decide) (by decide)))).other W112 (Or.inr (slot_ne (Or.inr (hw _ (List.mem_of_getElem? (i := 57) rfl))) (Or.inl (hw _ (List.mem_of_getElem? (i := 104) rfl))) (by decide) (t := (.array .long)) (t' := .long) (by decide) (by decide))))
  have c118 := ((((Ft100.other W104 (Or.inl nA100)).other W108 (Or.inr (slot_ne (Or.inr (hw _ (List.mem_of_getElem? (i := 59) rfl))) (Or.inl (hw _ (List.mem_of_getElem? (i := 68) rfl))) (by decide) (t := (.array .long)) (t' := .int) (by decide) (by decide)))).other W110 (Or.inr (slot_ne (Or.inr (hw _ (List.mem_of_getElem? (i := 59) rfl))) (Or.inl (hw _ (List.mem_of_getElem? (i := 102) rfl))) (by decide) (t := (.array .long)) (t' := .long) (by decide) (by decide)))).other W112 (Or.inr (slot_ne (Or.inr (hw _ (List.mem_of_getElem? (i := 59) rfl))) (Or.inl (hw _ (List.mem_of_getElem? (i := 104) rfl))) (by decide) (t := (.array .long)) (t' := .long) (by decide) (by decide))))
  have c119 := ((((Fc100.other W104 (Or.inl nA100)).other W108 (Or.inr (slot_ne (Or.inl (hw _ (List.mem_of_getElem? (i := 66) rfl))) (Or.inl (hw _ (List.mem_of_getElem? (i := 68) rfl))) (by decide) (t := .int) (t' := .int) (by decide) (by decide)))).other W110 (Or.inr (slot_ne (Or.inl (hw _ (List.mem_of_getElem? (i := 66) rfl))) (Or.inl (hw _ (List.mem_of_getElem? (i := 102) rfl))) (by decide) (t := .int) (t' := .long) (by decide) (by decide)))).other W112 (Or.inr (slot_ne (Or.inl (hw _ (List.mem_of_getElem? (i := 66) rfl))) (Or.inl (hw _ (List.mem_of_getElem? (i := 104) rfl))) (by decide) (t := .int) (t' := .long) (by decide) (by decide))))
  have c120 := ((Fw108.other W110 (Or.inr (slot_ne (Or.inl (hw _ (List.mem_of_getElem? (i := 68) rfl))) (Or.inl (hw _ (List.mem_of_getElem? (i := 102) rfl))) (by decide) (t := .int) (t' := .long) (by decide) (by decide)))).other W112 (Or.inr (slot_ne (Or.inl (hw _ (List.mem_of_getElem? (i := 68) rfl))) (Or.inl (hw _ (List.mem_of_getElem? (i := 104) rfl))) (by decide) (t := .int) (t' := .long) (by decide) (by decide))))
  have c121 := ((((Ff100.other W104 (Or.inl nA100)).other W108 (Or.inr (slot_ne (Or.inl (hw _ (List.mem_of_getElem? (i := 70) rfl))) (Or.inl (hw _ (List.mem_of_getElem? (i := 68) rfl))) (by decide) (t := .long) (t' := .int) (by decide) (by decide)))).other W110 (Or.inr (slot_ne (Or.inl (hw _ (List.mem_of_getElem? (i := 70) rfl))) (Or.inl (hw _ (List.mem_of_getElem? (i := 102) rfl))) (by decide) (t := .long) (t' := .long) (by decide) (by decide)))).other W112 (Or.inr (slot_ne (Or.inl (hw _ (List.mem_of_getElem? (i := 70) rfl))) (Or.inl (hw _ (List.mem_of_getElem? (i := 104) rfl))) (by decide) (t := .long) (t' := .long) (by decide) (by decide))))
  have c122 := (Fw110.other W112 (Or.inr (slot_ne (Or.inl (hw _ (List.mem_of_getElem? (i := 102) rfl))) (Or.inl (hw _ (List.mem_of_getElem? (i := 104) rfl))) (by decide) (t := .long) (t' := .long) (by decide) (by decide))))
  have c123 := (((V104.other W108 (Ne.symm nA100)).other W110 (Ne.symm nA100)).other W112 (Ne.symm nA100))
  have c124 := ((((Vt100.other W104 (Ne.symm nC100)).other W108 (Ne.symm nB100)).other W110 (Ne.symm nB100)).other W112 (Ne.symm nB100))
  have hA2 : own_AE Z h112 r0 P M o t ko kt z vu99 ((q2 - q3) - (P * q1)) (1 : Int32) (((0 : Int32) + (1 : Int32)) % z) fr := ⟨((((EX100.wr W104).wr W108).wr W110).wr W112), c115, c116, c117, c118, c113, c119, c120, c121, ⟨_, c122⟩, ⟨_, Fw112⟩, ⟨_, c123, (by rw [List.length_set]; exact ho100)⟩, c124, ht100, nA100, nB100, nC100⟩
  obtain ⟨cq125, q125, q125'⟩ := ((((EX100.wr W104).wr W108).wr W110).wr W112).cell
  obtain ⟨_, _, ⟨T125, L125, k125, n125⟩, -, X125, ⟨Lc125, hQ125, l125, y125, z125⟩, st125⟩ := X114.privateBack hx (y := (⟨"com/example/hetman/hetman/peer/ArrivalEstimator", "medianFromBase", "()J"⟩ : MethodName)) hown (mvT hZ (hw _ (List.mem_of_getElem? (i := 105) rfl))) (mvT hZ (hw _ (List.mem_of_getElem? (i := 106) rfl))) (Jvm.Kit.selects_private (by decide) (mvT hZ (hw _ (List.mem_of_getElem? (i := 5) rfl))) (mvP hZ (hw _ (List.mem_of_getElem? (i := 107) rfl))) (mvT hZ (hw _ (List.mem_of_getElem? (i := 106) rfl)))) (Cond.privateMethod_at (mvP hZ (hw _ (List.mem_of_getElem? (i := 107) rfl)) (args := #[]))) (mvT hZ (hw _ (List.mem_of_getElem? (i := 108) rfl))) (by decide) (backOf (W := 3) (rm15 l Z a0 hw [] r0 P M o t ko kt z vu99 ((q2 - q3) - (P * q1)) (((0 : Int32) + (1 : Int32)) % z) fr (((q2 - q3) - (P * q1)) - ((q2 - q3) - (P * q1))) h112 n0 (Nat.le_trans (Nat.le_trans (Nat.le_trans (Nat.le_trans (Nat.le_trans (Nat.le_trans Z0 (Keep.of_wr W88).1) K99.1) (Keep.of_wr W104).1) (Keep.of_wr W108).1) (Keep.of_wr W110).1) (Keep.of_wr W112).1) hA2 hz hg99) hZ (hw _ (List.mem_of_getElem? (i := 108) rfl)) (hw _ (List.mem_of_getElem? (i := 6) rfl)) (by decide) (by decide)) (g := (mkF m 145 #[.val (.ref r0), .val (.long q1), .second, .val (.long q2), .second, .val (.long q3), .second, .val (.long (q2 - q3)), .second, .val (.long ((q2 - q3) - (P * q1))), .second] [(.ref r0), (.long ((q2 - q3) - (P * q1))), (.ref r0)])) rfl (by rw [hml]; rfl) (Steps.refl _) (a := r0) (by rw [e114]; exact q125) q125' (argsL := []) (rest := [(.long ((q2 - q3) - (P * q1))), (.ref r0)]) (lenOf pd___J_155 rfl) rfl (by show 2 * 0 + _ ≤ _; exact Nat.le_of_eq rfl) (hb hby d10_145) (fun _ _ => ⟨rfl, e114, (by decide : 0 + 0 ≤ _), (by decide : 0 + 0 ≤ _)⟩)
  dsimp only [Pt.U, Pt.locs, Pt.cells, Pt.slots] at X125 l125 y125 z125 st125 hQ125
  subst l125 y125 z125
  obtain ⟨rfl, N125q, e125q⟩ := hQ125
  have N125 := Fr.app N112 N125q
  refine own_tr st125 ?_
  have e125 : T125.heap = h112 := e125q
  show own_Comes p e below s _ _ _ (T125.setTop (mkF m 148 #[.val (.ref r0), .val (.long q1), .second, .val (.long q2), .second, .val (.long q3), .second, .val (.long (q2 - q3)), .second, .val (.long ((q2 - q3) - (P * q1))), .second] [(.long ((((q2 - q3) - (P * q1)) - ((q2 - q3) - (P * q1))) + (0 : Int64))), (.long ((q2 - q3) - (P * q1))), (.ref r0)]))
  refine own_by (fun _ kS => XS.ladd X125.here hx rfl (hb hby d10_148) rfl kS) ?_
  show own_Comes p e below s _ _ _ (T125.setTop (mkF m 149 #[.val (.ref r0), .val (.long q1), .second, .val (.long q2), .second, .val (.long q3), .second, .val (.long (q2 - q3)), .second, .val (.long ((q2 - q3) - (P * q1))), .second] [(.long (((q2 - q3) - (P * q1)) + ((((q2 - q3) - (P * q1)) - ((q2 - q3) - (P * q1))) + (0 : Int64)))), (.ref r0)]))
  refine own_by (fun _ kS => XS.aloadN X125.here hx rfl (hb hby d10_149) rfl rfl kS) ?_
  show own_Comes p e below s _ _ _ (T125.setTop (mkF m 150 #[.val (.ref r0), .val (.long q1), .second, .val (.long q2), .second, .val (.long q3), .second, .val (.long (q2 - q3)), .second, .val (.long ((q2 - q3) - (P * q1))), .second] [(.ref r0), (.long (((q2 - q3) - (P * q1)) + ((((q2 - q3) - (P * q1)) - ((q2 - q3) - (P * q1))) + (0 : Int64)))), (.ref r0)]))
  obtain ⟨T126, X126, e126, st126⟩ := getF X125 hx hZ hown (host := "") (Or.inl (hw _ (List.mem_of_getElem? (i := 46) rfl))) Via.refl e125 c115 (g := (mkF m 150 #[.val (.ref r0), .val (.long q1), .second, .val (.long q2), .second, .val (.long q3), .second, .val (.long (q2 - q3)), .second, .val (.long ((q2 - q3) - (P * q1))), .second] [(.ref r0), (.long (((q2 - q3) - (P * q1)) + ((((q2 - q3) - (P * q1)) - ((q2 - q3) - (P * q1))) + (0 : Int64)))), (.ref r0)])) rfl rfl (hb hby d10_150)
  refine own_by st126 ?_
  show own_Comes p e below s _ _ _ (T126.setTop (mkF m 153 #[.val (.ref r0), .val (.long q1), .second, .val (.long q2), .second, .val (.long q3), .second, .val (.long (q2 - q3)), .second, .val (.long ((q2 - q3) - (P * q1))), .second] [(.long P), (.long (((q2 - q3) - (P * q1)) + ((((q2 - q3) - (P * q1)) - ((q2 - q3) - (P * q1))) + (0 : Int64)))), (.ref r0)]))
  refine own_by (fun _ kS => XS.lloadN X126.here hx rfl (hb hby d10_153) rfl kS) ?_
  show own_Comes p e below s _ _ _ (T126.setTop (mkF m 154 #[.val (.ref r0), .val (.long q1), .second, .val (.long q2), .second, .val (.long q3), .second, .val (.long (q2 - q3)), .second, .val (.long ((q2 - q3) - (P * q1))), .second] [(.long q1), (.long P), (.long (((q2 - q3) - (P * q1)) + ((((q2 - q3) - (P * q1)) - ((q2 - q3) - (P * q1))) + (0 : Int64)))), (.ref r0)]))
  refine own_by (fun _ kS => XS.lconst X126.here hx rfl (hb hby d10_154) kS) ?_
  show own_Comes p e below s _ _ _ (T126.setTop (mkF m 155 #[.val (.ref r0), .val (.long q1), .second, .val (.long q2), .second, .val (.long q3), .second, .val (.long (q2 - q3)), .second, .val (.long ((q2 - q3) - (P * q1))), .second] [(.long (1 : Int64)), (.long q1), (.long P), (.long (((q2 - q3) - (P * q1)) + ((((q2 - q3) - (P * q1)) - ((q2 - q3) - (P * q1))) + (0 : Int64)))), (.ref r0)]))
  refine own_by (fun _ kS => XS.ladd X126.here hx rfl (hb hby d10_155) rfl kS) ?_
  show own_Comes p e below s _ _ _ (T126.setTop (mkF m 156 #[.val (.ref r0), .val (.long q1), .second, .val (.long q2), .second, .val (.long q3), .second, .val (.long (q2 - q3)), .second, .val (.long ((q2 - q3) - (P * q1))), .second] [(.long (q1 + (1 : Int64))), (.long P), (.long (((q2 - q3) - (P * q1)) + ((((q2 - q3) - (P * q1)) - ((q2 - q3) - (P * q1))) + (0 : Int64)))), (.ref r0)]))
  refine own_by (fun _ kS => XS.lmul X126.here hx rfl (hb hby d10_156) rfl kS) ?_
  show own_Comes p e below s _ _ _ (T126.setTop (mkF m 157 #[.val (.ref r0), .val (.long q1), .second, .val (.long q2), .second, .val (.long q3), .second, .val (.long (q2 - q3)), .second, .val (.long ((q2 - q3) - (P * q1))), .second] [(.long (P * (q1 + (1 : Int64)))), (.long (((q2 - q3) - (P * q1)) + ((((q2 - q3) - (P * q1)) - ((q2 - q3) - (P * q1))) + (0 : Int64)))), (.ref r0)]))
  refine own_by (fun _ kS => XS.ladd X126.here hx rfl (hb hby d10_157) rfl kS) ?_
  show own_Comes p e below s _ _ _ (T126.setTop (mkF m 158 #[.val (.ref r0), .val (.long q1), .second, .val (.long q2), .second, .val (.long q3), .second, .val (.long (q2 - q3)), .second, .val (.long ((q2 - q3) - (P * q1))), .second] [(.long ((((q2 - q3) - (P * q1)) + ((((q2 - q3) - (P * q1)) - ((q2 - q3) - (P * q1))) + (0 : Int64))) + (P * (q1 + (1 : Int64))))), (.ref r0)]))
  refine own_by (fun _ kS => XS.aloadN X126.here hx rfl (hb hby d10_158) rfl rfl kS) ?_
  show own_Comes p e below s _ _ _ (T126.setTop (mkF m 159 #[.val (.ref r0), .val (.long q1), .second, .val (.long q2), .second, .val (.long q3), .second, .val (.long (q2 - q3)), .second, .val (.long ((q2 - q3) - (P * q1))), .second] [(.ref r0), (.long ((((q2 - q3) - (P * q1)) + ((((q2 - q3) - (P * q1)) - ((q2 - q3) - (P * q1))) + (0 : Int64))) + (P * (q1 + (1 : Int64))))), (.ref r0)]))
  obtain ⟨T127, X127, e127, st127⟩ := getF X126 hx hZ hown (host := "") (Or.inl (hw _ (List.mem_of_getElem? (i := 53) rfl))) Via.refl e126 c116 (g := (mkF m 159 #[.val (.ref r0), .val (.long q1), .second, .val (.long q2), .second, .val (.long q3), .second, .val (.long (q2 - q3)), .second, .val (.long ((q2 - q3) - (P * q1))), .second] [(.ref r0), (.long ((((q2 - q3) - (P * q1)) + ((((q2 - q3) - (P * q1)) - ((q2 - q3) - (P * q1))) + (0 : Int64))) + (P * (q1 + (1 : Int64))))), (.ref r0)])) rfl rfl (hb hby d10_159)
  refine own_by st127 ?_
  show own_Comes p e below s _ _ _ (T127.setTop (mkF m 162 #[.val (.ref r0), .val (.long q1), .second, .val (.long q2), .second, .val (.long q3), .second, .val (.long (q2 - q3)), .second, .val (.long ((q2 - q3) - (P * q1))), .second] [(.long M), (.long ((((q2 - q3) - (P * q1)) + ((((q2 - q3) - (P * q1)) - ((q2 - q3) - (P * q1))) + (0 : Int64))) + (P * (q1 + (1 : Int64))))), (.ref r0)]))
  refine own_by (fun _ kS => XS.ladd X127.here hx rfl (hb hby d10_162) rfl kS) ?_
  show own_Comes p e below s _ _ _ (T127.setTop (mkF m 163 #[.val (.ref r0), .val (.long q1), .second, .val (.long q2), .second, .val (.long q3), .second, .val (.long (q2 - q3)), .second, .val (.long ((q2 - q3) - (P * q1))), .second] [(.long (((((q2 - q3) - (P * q1)) + ((((q2 - q3) - (P * q1)) - ((q2 - q3) - (P * q1))) + (0 : Int64))) + (P * (q1 + (1 : Int64)))) + M)), (.ref r0)]))
  rw [show (((((q2 - q3) - (P * q1)) + ((((q2 - q3) - (P * q1)) - ((q2 - q3) - (P * q1))) + (0 : Int64))) + (P * (q1 + (1 : Int64)))) + M) = (((q2 - q3) + P) + M) from own_fin _ _ _ _ _ _ (by rw [Int64.sub_self]; rfl)]
  show own_Comes p e below s _ _ _ (T127.setTop (mkF m 163 #[.val (.ref r0), .val (.long q1), .second, .val (.long q2), .second, .val (.long q3), .second, .val (.long (q2 - q3)), .second, .val (.long ((q2 - q3) - (P * q1))), .second] [(.long (((q2 - q3) + P) + M)), (.ref r0)]))
  obtain ⟨T128, h128, X128, e128, W128, st128⟩ := putF X127 hx hZ hown (host := "") (Or.inl (hw _ (List.mem_of_getElem? (i := 69) rfl))) Via.refl e127 c121 ((((EX100.wr W104).wr W108).wr W110).wr W112) (Or.inl (hw _ (List.mem_of_getElem? (i := 70) rfl))) (hw _ (List.mem_of_getElem? (i := 5) rfl)) (ty := .long) (by decide) rfl rfl (g := (mkF m 163 #[.val (.ref r0), .val (.long q1), .second, .val (.long q2), .second, .val (.long q3), .second, .val (.long (q2 - q3)), .second, .val (.long ((q2 - q3) - (P * q1))), .second] [(.long (((q2 - q3) + P) + M)), (.ref r0)])) rfl rfl (hb hby d10_163)
  refine own_by st128 ?_
  have Fw128 := c121.same W128
  have N128 := Fr.snoc X128 N125 g_r0
  show own_Comes p e below s _ _ _ (T128.setTop (mkF m 166 #[.val (.ref r0), .val (.long q1), .second, .val (.long q2), .second, .val (.long q3), .second, .val (.long (q2 - q3)), .second, .val (.long ((q2 - q3) - (P * q1))), .second] []))
  have c129 := (((((EX100.wr W104).wr W108).wr W110).wr W112).wr W128)
  have c130 := (c115.other W128 (Or.inr (slot_ne (Or.inr (hw _ (List.mem_of_getElem? (i := 47) rfl))) (Or.inl (hw _ (List.mem_of_getElem? (i := 70) rfl))) (by decide) (t := .long) (t' := .long) (by decide) (by decide))))
  have c131 := (c116.other W128 (Or.inr (slot_ne (Or.inr (hw _ (List.mem_of_getElem? (i := 54) rfl))) (Or.inl (hw _ (List.mem_of_getElem? (i := 70) rfl))) (by decide) (t := .long) (t' := .long) (by decide) (by decide))))
  have c132 := (c117.other W128 (Or.inr (slot_ne (Or.inr (hw _ (List.mem_of_getElem? (i := 57) rfl))) (Or.inl (hw _ (List.mem_of_getElem? (i := 70) rfl))) (by decide) (t := (.array .long)) (t' := .long) (by decide) (by decide))))
  have c133 := (c118.other W128 (Or.inr (slot_ne (Or.inr (hw _ (List.mem_of_getElem? (i := 59) rfl))) (Or.inl (hw _ (List.mem_of_getElem? (i := 70) rfl))) (by decide) (t := (.array .long)) (t' := .long) (by decide) (by decide))))
  have c134 := (c113.other W128 (Or.inr (slot_ne (Or.inl (hw _ (List.mem_of_getElem? (i := 82) rfl))) (Or.inl (hw _ (List.mem_of_getElem? (i := 70) rfl))) (by decide) (t := .long) (t' := .long) (by decide) (by decide))))
  have c135 := (c119.other W128 (Or.inr (slot_ne (Or.inl (hw _ (List.mem_of_getElem? (i := 66) rfl))) (Or.inl (hw _ (List.mem_of_getElem? (i := 70) rfl))) (by decide) (t := .int) (t' := .long) (by decide) (by decide))))
  have c136 := (c120.other W128 (Or.inr (slot_ne (Or.inl (hw _ (List.mem_of_getElem? (i := 68) rfl))) (Or.inl (hw _ (List.mem_of_getElem? (i := 70) rfl))) (by decide) (t := .int) (t' := .long) (by decide) (by decide))))
  have c137 := (c122.other W128 (Or.inr (slot_ne (Or.inl (hw _ (List.mem_of_getElem? (i := 102) rfl))) (Or.inl (hw _ (List.mem_of_getElem? (i := 70) rfl))) (by decide) (t := .long) (t' := .long) (by decide) (by decide))))
  have c138 := (Fw112.other W128 (Or.inr (slot_ne (Or.inl (hw _ (List.mem_of_getElem? (i := 104) rfl))) (Or.inl (hw _ (List.mem_of_getElem? (i := 70) rfl))) (by decide) (t := .long) (t' := .long) (by decide) (by decide))))
  refine own_ret X128 (v := none) (fun _ => rfl) Bd.notSynchronized (by decide) (by decide) ?_ (fun fs hr => X128.returnOut hx Bd.returns (hb hby d10_166) hr)
  rw [e128]; exact ⟨rfl, N128, ((((((((Keep.refl _ _).wr W88 (Or.inl (List.mem_of_getElem? (i := 0) rfl))).trans K99 (allS (Or.inl (List.mem_of_getElem? (i := 0) rfl)) (allS (Or.inl (List.mem_of_getElem? (i := 2) rfl)) all0))).wr W104 (Or.inl (List.mem_of_getElem? (i := 1) rfl))).wr W108 (Or.inl (List.mem_of_getElem? (i := 0) rfl))).wr W110 (Or.inl (List.mem_of_getElem? (i := 0) rfl))).wr W112 (Or.inl (List.mem_of_getElem? (i := 0) rfl))).wr W128 (Or.inl (List.mem_of_getElem? (i := 0) rfl))), _, _, _, _, ⟨c129, c130, c131, c132, c133, c134, c135, c136, Fw128, ⟨_, c137⟩, ⟨_, c138⟩, ⟨_, (c123.other W128 (Ne.symm nA100)), (by rw [List.length_set]; exact ho100)⟩, (c124.other W128 (Ne.symm nB100)), ht100, nA100, nB100, nC100⟩⟩
def Q4 (Z : State) (r0 : Addr) (z : Int32) (A B : Int64) (h0 : Heap) (n0 : Nat) (v : Option Value) (h : Heap) (L : List Loc) : Prop := v = none ∧ Fr n0 L ∧ Keep h0 h [r0] ∧ ∃ o t ko kt vt, n0 ≤ o ∧ n0 ≤ t ∧ own_AE Z h r0 (A * (1000000 : Int64)) (B * (1000000 : Int64)) o t ko kt z vt (0 : Int64) (0 : Int32) (0 : Int32) (0 : Int64)
theorem ef_rm4 (m : MethodId) (x0 : Addr) (x1 : Addr) (x2 : Int32) : entryFrame m #[(.ref x0), (.ref x1), (.int x2)] 3 = mkF m 0 #[.val (.ref x0), .val (.ref x1), .val (.int x2)] [] := by first | (simp [entryFrame, mkF, argsToLocals, Value.category]; done) | rfl
theorem d4_0 : decode prog_32_method_1_code 0 = .ok (.aload_n 0, 1) := by decide +kernel
theorem d4_1 : decode prog_32_method_1_code 1 = .ok (.invokespecial 1, 3) := by decide +kernel
theorem d4_4 : decode prog_32_method_1_code 4 = .ok (.aload_n 0, 1) := by decide +kernel
theorem d4_5 : decode prog_32_method_1_code 5 = .ok (.getstatic 7, 3) := by decide +kernel
theorem d4_8 : decode prog_32_method_1_code 8 = .ok (.aload_n 1, 1) := by decide +kernel
theorem d4_9 : decode prog_32_method_1_code 9 = .ok (.invokevirtual 13, 3) := by decide +kernel
theorem pd__J_J_229 : parseMethodDescriptor "(J)J" = some ⟨[.long], some .long⟩ := by decide +kernel
theorem d4_12 : decode prog_32_method_1_code 12 = .ok (.invokevirtual 19, 3) := by decide +kernel
theorem d4_15 : decode prog_32_method_1_code 15 = .ok (.putfield 23, 3) := by decide +kernel
theorem d4_18 : decode prog_32_method_1_code 18 = .ok (.aload_n 0, 1) := by decide +kernel
theorem d4_19 : decode prog_32_method_1_code 19 = .ok (.getstatic 7, 3) := by decide +kernel
theorem d4_22 : decode prog_32_method_1_code 22 = .ok (.aload_n 1, 1) := by decide +kernel
theorem d4_23 : decode prog_32_method_1_code 23 = .ok (.invokevirtual 29, 3) := by decide +kernel
theorem d4_26 : decode prog_32_method_1_code 26 = .ok (.invokevirtual 19, 3) := by decide +kernel
theorem d4_29 : decode prog_32_method_1_code 29 = .ok (.putfield 32, 3) := by decide +kernel
theorem d4_32 : decode prog_32_method_1_code 32 = .ok (.aload_n 0, 1) := by decide +kernel
theorem d4_33 : decode prog_32_method_1_code 33 = .ok (.iload_n 2, 1) := by decide +kernel
theorem d4_34 : decode prog_32_method_1_code 34 = .ok (.newarray .long, 2) := by decide +kernel
theorem d4_36 : decode prog_32_method_1_code 36 = .ok (.putfield 35, 3) := by decide +kernel
theorem d4_39 : decode prog_32_method_1_code 39 = .ok (.aload_n 0, 1) := by decide +kernel
theorem d4_40 : decode prog_32_method_1_code 40 = .ok (.iload_n 2, 1) := by decide +kernel
theorem d4_41 : decode prog_32_method_1_code 41 = .ok (.newarray .long, 2) := by decide +kernel
theorem d4_43 : decode prog_32_method_1_code 43 = .ok (.putfield 39, 3) := by decide +kernel
theorem d4_46 : decode prog_32_method_1_code 46 = .ok (.return_, 1) := by decide +kernel
set_option maxRecDepth 65536 in
set_option maxHeartbeats 40000000 in
theorem rm4 (l : Launch) (Z : State) (a0 : Array Value) (hw : ∀ d ∈ tables_1, d.before a0 Z = true) (ws : List Jvm.Cond) (r0 r1 : Addr) (p2 : Int32) (A B : Int64) (ms : Addr) (h0 : Heap) (n0 : Nat) (Z0 : n0 ≤ h0.size) (Et : Exa Z h0 r0 "com/example/hetman/hetman/peer/ArrivalEstimator") (G_periodNanos : Fld Z h0 r0 "com/example/hetman/hetman/peer/ArrivalEstimator" "periodNanos" "J" (.long (0 : Int64))) (G_marginNanos : Fld Z h0 r0 "com/example/hetman/hetman/peer/ArrivalEstimator" "marginNanos" "J" (.long (0 : Int64))) (G_offsets : Fld Z h0 r0 "com/example/hetman/hetman/peer/ArrivalEstimator" "offsets" "[J" (.null)) (G_sorted : Fld Z h0 r0 "com/example/hetman/hetman/peer/ArrivalEstimator" "sorted" "[J" (.null)) (G_base : Fld Z h0 r0 "com/example/hetman/hetman/peer/ArrivalEstimator" "base" "J" (.long (0 : Int64))) (G_count : Fld Z h0 r0 "com/example/hetman/hetman/peer/ArrivalEstimator" "count" "I" (.int (0 : Int32))) (G_next : Fld Z h0 r0 "com/example/hetman/hetman/peer/ArrivalEstimator" "next" "I" (.int (0 : Int32))) (G_freshnessNanos : Fld Z h0 r0 "com/example/hetman/hetman/peer/ArrivalEstimator" "freshnessNanos" "J" (.long (0 : Int64))) (G_largestLabel : Fld Z h0 r0 "com/example/hetman/hetman/peer/ArrivalEstimator" "largestLabel" "J" (.long (0 : Int64))) (G_lastOnTimeNanos : Fld Z h0 r0 "com/example/hetman/hetman/peer/ArrivalEstimator" "lastOnTimeNanos" "J" (.long (0 : Int64))) (Eh : Exa Z h0 r1 "com/example/hetman/hetman/HeartbeatTiming") (Fpm : Fld Z h0 r1 "com/example/hetman/hetman/HeartbeatTiming" "periodMs" "J" (.long A)) (Fmm : Fld Z h0 r1 "com/example/hetman/hetman/HeartbeatTiming" "marginMs" "J" (.long B)) (Sm : Sta Z h0 "java/util/concurrent/TimeUnit" "MILLISECONDS" "Ljava/util/concurrent/TimeUnit;" (.ref ms)) (Em : Exa Z h0 ms "java/util/concurrent/TimeUnit") (Fs : Fld Z h0 ms "java/util/concurrent/TimeUnit" "scale" "J" (.long (1000000 : Int64))) (Fx : Fld Z h0 ms "java/util/concurrent/TimeUnit" "maxNanos" "J" (.long (9223372036854 : Int64))) (g_r0 : n0 ≤ r0) (hz : 1 ≤ p2.toInt ∧ p2.toInt ≤ 8) (kA : 0 ≤ A.toInt ∧ A.toInt ≤ 3600000) (kB : 0 ≤ B.toInt ∧ B.toInt ≤ 3600000) :
    MetFree l (⟨"com/example/hetman/hetman/peer/ArrivalEstimator", "<init>", "(Lcom/example/hetman/hetman/HeartbeatTiming;I)V"⟩ : MethodName) (head1 (Jvm.Cond.code (⟨"com/example/hetman/hetman/peer/ArrivalEstimator", "<init>", "(Lcom/example/hetman/hetman/HeartbeatTiming;I)V"⟩ : MethodName) prog_32_method_1_code 3 none :: ws) ({ frames := 1, cells := 2, slots := 16, locals := 19 } : Room)) (fun aX UX => aX = #[(.ref r0), (.ref r1), (.int p2)] ∧ Z.Warmed39 UX.vm ∧ UX.heap = h0) (fun _ _ _ _ _ => True) (fun _ UX oX UX' => ∃ vX LX, oX = .returned vX ∧ Q4 Z r0 p2 A B h0 n0 vX UX'.heap LX ∧ FrameEnd UX oX UX' LX ({ frames := 1, cells := 2, slots := 16, locals := 19 } : Room).cells ({ frames := 1, cells := 2, slots := 16, locals := 19 } : Room).slots) := by
  refine MetFree.of_bodySF (plainFor_of_name pn_com_example_hetman_hetman_peer_ArrivalEstimator) hisR ?_
  intro p e s m args below meth c s₁ Bd hml0 hP hK
  obtain ⟨rfl, hZ, hh⟩ := hP
  have hx := Bd.exec
  have hby := Bd.bytes
  have hml : c.maxLocals = 3 := hml0
  have hown : s.vm.findClass "com/example/hetman/hetman/peer/ArrivalEstimator" = some m.cls := findClass_of_methodNamed Bd.named
  have hnm := (name_of_methodNamed Bd.named Bd.method).1
  have X0 : Stand p l e ({ frames := 1, cells := 2, slots := 16, locals := 19 } : Room) s m #[(.ref r0), (.ref r1), (.int p2)] below meth c s₁ [] 0 0 := Stand.of_body Bd
  have e0 : s₁.heap = h0 := by rw [← hh, Bd.state]; rfl
  have N0 := Fr.nil n0
  show own_Comes p e below s ({ frames := 1, cells := 2, slots := 16, locals := 19 } : Room).cells ({ frames := 1, cells := 2, slots := 16, locals := 19 } : Room).slots (Q4 Z r0 p2 A B h0 n0) _
  rw [show entryFrame m #[(.ref r0), (.ref r1), (.int p2)] 3 = mkF m 0 #[.val (.ref r0), .val (.ref r1), .val (.int p2)] [] from ef_rm4 m r0 r1 p2]
  show own_Comes p e below s _ _ _ (s₁.setTop (mkF m 0 #[.val (.ref r0), .val (.ref r1), .val (.int p2)] []))
  have neh : r0 ≠ r1 := ne_exa Et Eh (by decide)
  have nem : r0 ≠ ms := ne_exa Et Em (by decide)
  have e1 : (9223372036854 : Int64).toInt = 9223372036854 := by decide
  have e2 : (-(9223372036854 : Int64)).toInt = -9223372036854 := by decide
  refine own_by (fun _ kS => XS.aloadN X0.here hx rfl (hb hby d4_0) rfl rfl kS) ?_
  show own_Comes p e below s _ _ _ (s₁.setTop (mkF m 1 #[.val (.ref r0), .val (.ref r1), .val (.int p2)] [(.ref r0)]))
  obtain ⟨T139, X139, e139, st139⟩ := initO X0 hx hZ hown (hw _ (List.mem_of_getElem? (i := 29) rfl)) (hw _ (List.mem_of_getElem? (i := 19) rfl)) (hw _ (List.mem_of_getElem? (i := 20) rfl)) e0 (g := (mkF m 1 #[.val (.ref r0), .val (.ref r1), .val (.int p2)] [(.ref r0)])) rfl (by rw [hml]; rfl) rfl (hb hby d4_1) (by decide) (W := 0) (by show 2 * 0 + _ ≤ _; exact Nat.le_of_eq rfl) (by decide)
  refine own_by st139 ?_
  show own_Comes p e below s _ _ _ (T139.setTop (mkF m 4 #[.val (.ref r0), .val (.ref r1), .val (.int p2)] []))
  refine own_by (fun _ kS => XS.aloadN X139.here hx rfl (hb hby d4_4) rfl rfl kS) ?_
  show own_Comes p e below s _ _ _ (T139.setTop (mkF m 5 #[.val (.ref r0), .val (.ref r1), .val (.int p2)] [(.ref r0)]))
  obtain ⟨T140, X140, e140, st140⟩ := getS2 X139 hx hZ hown (host := "") (Or.inl (hw _ (List.mem_of_getElem? (i := 30) rfl))) Via.refl e139 Sm (g := (mkF m 5 #[.val (.ref r0), .val (.ref r1), .val (.int p2)] [(.ref r0)])) rfl (hb hby d4_5)
  refine own_by st140 ?_
  show own_Comes p e below s _ _ _ (T140.setTop (mkF m 8 #[.val (.ref r0), .val (.ref r1), .val (.int p2)] [(.ref ms), (.ref r0)]))
  refine own_by (fun _ kS => XS.aloadN X140.here hx rfl (hb hby d4_8) rfl rfl kS) ?_
  show own_Comes p e below s _ _ _ (T140.setTop (mkF m 9 #[.val (.ref r0), .val (.ref r1), .val (.int p2)] [(.ref r1), (.ref ms), (.ref r0)]))
  obtain ⟨cq141, kq141, q141a, q141b, q141c⟩ := isOf hZ e140 Eh
  obtain ⟨_, _, ⟨T141, L141, k141, n141⟩, -, X141, ⟨Lc141, hQ141, l141, y141, z141⟩, st141⟩ := X140.virtualBack hx (y := (⟨"com/example/hetman/hetman/HeartbeatTiming", "periodMs", "()J"⟩ : MethodName)) (z := (⟨"com/example/hetman/hetman/HeartbeatTiming", "periodMs", "()J"⟩ : MethodName)) hown (mvT hZ (hw _ (List.mem_of_getElem? (i := 32) rfl))) (mvT hZ (hw _ (List.mem_of_getElem? (i := 33) rfl))) (notFace_of_selects (args := #[]) (mvT hZ (hw _ (List.mem_of_getElem? (i := 35) rfl)))) (mvT hZ (hw _ (List.mem_of_getElem? (i := 35) rfl))) (mvT hZ (hw _ (List.mem_of_getElem? (i := 34) rfl))) (by decide) (backOf (W := 2) (rm5 l Z a0 hw [] r1 A h0 n0 Z0 Fpm) hZ (hw _ (List.mem_of_getElem? (i := 36) rfl)) (hw _ (List.mem_of_getElem? (i := 9) rfl)) (by decide) (by decide)) q141a q141c (g := (mkF m 9 #[.val (.ref r0), .val (.ref r1), .val (.int p2)] [(.ref r1), (.ref ms), (.ref r0)])) rfl (by rw [hml]; rfl) (Steps.refl _) (argsL := []) (rest := [(.ref ms), (.ref r0)]) (lenOf pd___J_155 rfl) rfl (by show 2 * 0 + _ ≤ _; exact Nat.le_of_eq rfl) (hb hby d4_9) (fun _ _ => ⟨rfl, e140, (by decide : 0 + 0 ≤ _), (by decide : 0 + 0 ≤ _)⟩)
  dsimp only [Pt.U, Pt.locs, Pt.cells, Pt.slots] at X141 l141 y141 z141 st141 hQ141
  subst l141 y141 z141
  obtain ⟨rfl, N141q, e141q⟩ := hQ141
  have N141 := Fr.app N0 N141q
  refine own_tr st141 ?_
  have e141 : T141.heap = h0 := e141q
  show own_Comes p e below s _ _ _ (T141.setTop (mkF m 12 #[.val (.ref r0), .val (.ref r1), .val (.int p2)] [(.long A), (.ref ms), (.ref r0)]))
  obtain ⟨cq142, kq142, q142a, q142b, q142c⟩ := isOf hZ e141 Em
  obtain ⟨_, _, ⟨T142, L142, k142, n142⟩, -, X142, ⟨Lc142, hQ142, l142, y142, z142⟩, st142⟩ := X141.virtualBack hx (y := (⟨"java/util/concurrent/TimeUnit", "toNanos", "(J)J"⟩ : MethodName)) (z := (⟨"java/util/concurrent/TimeUnit", "toNanos", "(J)J"⟩ : MethodName)) hown (mvT hZ (hw _ (List.mem_of_getElem? (i := 37) rfl))) (mvT hZ (hw _ (List.mem_of_getElem? (i := 38) rfl))) (notFace_of_selects (args := #[]) (mvT hZ (hw _ (List.mem_of_getElem? (i := 40) rfl)))) (mvT hZ (hw _ (List.mem_of_getElem? (i := 40) rfl))) (mvT hZ (hw _ (List.mem_of_getElem? (i := 39) rfl))) (by decide) (backOf (W := 1) (rm6 l Z a0 hw [] ms A h0 n0 Z0 Fs Fx (own_lt64 (by omega)) (own_lt64 (by omega))) hZ (hw _ (List.mem_of_getElem? (i := 41) rfl)) (hw _ (List.mem_of_getElem? (i := 31) rfl)) (by decide) (by decide)) q142a q142c (g := (mkF m 12 #[.val (.ref r0), .val (.ref r1), .val (.int p2)] [(.long A), (.ref ms), (.ref r0)])) rfl (by rw [hml]; rfl) (Steps.refl _) (argsL := [(.long A)]) (rest := [(.ref r0)]) (lenOf pd__J_J_229 rfl) rfl (by show 2 * 0 + _ ≤ _; exact Nat.le_of_eq rfl) (hb hby d4_12) (fun _ _ => ⟨rfl, e141, (by decide : 0 + 0 ≤ _), (by decide : 0 + 0 ≤ _)⟩)
  dsimp only [Pt.U, Pt.locs, Pt.cells, Pt.slots] at X142 l142 y142 z142 st142 hQ142
  subst l142 y142 z142
  obtain ⟨rfl, N142q, e142q⟩ := hQ142
  have N142 := Fr.app N141 N142q
  refine own_tr st142 ?_
  have e142 : T142.heap = h0 := e142q
  show own_Comes p e below s _ _ _ (T142.setTop (mkF m 15 #[.val (.ref r0), .val (.ref r1), .val (.int p2)] [(.long (A * (1000000 : Int64))), (.ref r0)]))
  obtain ⟨T143, h143, X143, e143, W143, st143⟩ := putF X142 hx hZ hown (host := "") (Or.inl (hw _ (List.mem_of_getElem? (i := 46) rfl))) Via.refl e142 G_periodNanos Et (Or.inr ⟨(hw _ (List.mem_of_getElem? (i := 47) rfl)), rfl, hnm⟩) (hw _ (List.mem_of_getElem? (i := 5) rfl)) (ty := .long) (by decide) rfl rfl (g := (mkF m 15 #[.val (.ref r0), .val (.ref r1), .val (.int p2)] [(.long (A * (1000000 : Int64))), (.ref r0)])) rfl rfl (hb hby d4_15)
  refine own_by st143 ?_
  have Fw143 := G_periodNanos.same W143
  have N143 := Fr.snoc X143 N142 g_r0
  show own_Comes p e below s _ _ _ (T143.setTop (mkF m 18 #[.val (.ref r0), .val (.ref r1), .val (.int p2)] []))
  refine own_by (fun _ kS => XS.aloadN X143.here hx rfl (hb hby d4_18) rfl rfl kS) ?_
  show own_Comes p e below s _ _ _ (T143.setTop (mkF m 19 #[.val (.ref r0), .val (.ref r1), .val (.int p2)] [(.ref r0)]))
  obtain ⟨T144, X144, e144, st144⟩ := getS2 X143 hx hZ hown (host := "") (Or.inl (hw _ (List.mem_of_getElem? (i := 30) rfl))) Via.refl e143 (Sm.wr W143) (g := (mkF m 19 #[.val (.ref r0), .val (.ref r1), .val (.int p2)] [(.ref r0)])) rfl (hb hby d4_19)
  refine own_by st144 ?_
  show own_Comes p e below s _ _ _ (T144.setTop (mkF m 22 #[.val (.ref r0), .val (.ref r1), .val (.int p2)] [(.ref ms), (.ref r0)]))
  refine own_by (fun _ kS => XS.aloadN X144.here hx rfl (hb hby d4_22) rfl rfl kS) ?_
  show own_Comes p e below s _ _ _ (T144.setTop (mkF m 23 #[.val (.ref r0), .val (.ref r1), .val (.int p2)] [(.ref r1), (.ref ms), (.ref r0)]))
  obtain ⟨cq145, kq145, q145a, q145b, q145c⟩ := isOf hZ e144 (Eh.wr W143)
  obtain ⟨_, _, ⟨T145, L145, k145, n145⟩, -, X145, ⟨Lc145, hQ145, l145, y145, z145⟩, st145⟩ := X144.virtualBack hx (y := (⟨"com/example/hetman/hetman/HeartbeatTiming", "marginMs", "()J"⟩ : MethodName)) (z := (⟨"com/example/hetman/hetman/HeartbeatTiming", "marginMs", "()J"⟩ : MethodName)) hown (mvT hZ (hw _ (List.mem_of_getElem? (i := 48) rfl))) (mvT hZ (hw _ (List.mem_of_getElem? (i := 49) rfl))) (notFace_of_selects (args := #[]) (mvT hZ (hw _ (List.mem_of_getElem? (i := 51) rfl)))) (mvT hZ (hw _ (List.mem_of_getElem? (i := 51) rfl))) (mvT hZ (hw _ (List.mem_of_getElem? (i := 50) rfl))) (by decide) (backOf (W := 2) (rm7 l Z a0 hw [] r1 B h143 n0 (Nat.le_trans Z0 (Keep.of_wr W143).1) (Fmm.other W143 (Or.inl (Ne.symm neh)))) hZ (hw _ (List.mem_of_getElem? (i := 52) rfl)) (hw _ (List.mem_of_getElem? (i := 9) rfl)) (by decide) (by decide)) q145a q145c (g := (mkF m 23 #[.val (.ref r0), .val (.ref r1), .val (.int p2)] [(.ref r1), (.ref ms), (.ref r0)])) rfl (by rw [hml]; rfl) (Steps.refl _) (argsL := []) (rest := [(.ref ms), (.ref r0)]) (lenOf pd___J_155 rfl) rfl (by show 2 * 0 + _ ≤ _; exact Nat.le_of_eq rfl) (hb hby d4_23) (fun _ _ => ⟨rfl, e144, (by decide : 0 + 0 ≤ _), (by decide : 0 + 0 ≤ _)⟩)
  dsimp only [Pt.U, Pt.locs, Pt.cells, Pt.slots] at X145 l145 y145 z145 st145 hQ145
  subst l145 y145 z145
  obtain ⟨rfl, N145q, e145q⟩ := hQ145
  have N145 := Fr.app N143 N145q
  refine own_tr st145 ?_
  have e145 : T145.heap = h143 := e145q
  show own_Comes p e below s _ _ _ (T145.setTop (mkF m 26 #[.val (.ref r0), .val (.ref r1), .val (.int p2)] [(.long B), (.ref ms), (.ref r0)]))
  obtain ⟨cq146, kq146, q146a, q146b, q146c⟩ := isOf hZ e145 (Em.wr W143)
  obtain ⟨_, _, ⟨T146, L146, k146, n146⟩, -, X146, ⟨Lc146, hQ146, l146, y146, z146⟩, st146⟩ := X145.virtualBack hx (y := (⟨"java/util/concurrent/TimeUnit", "toNanos", "(J)J"⟩ : MethodName)) (z := (⟨"java/util/concurrent/TimeUnit", "toNanos", "(J)J"⟩ : MethodName)) hown (mvT hZ (hw _ (List.mem_of_getElem? (i := 37) rfl))) (mvT hZ (hw _ (List.mem_of_getElem? (i := 38) rfl))) (notFace_of_selects (args := #[]) (mvT hZ (hw _ (List.mem_of_getElem? (i := 40) rfl)))) (mvT hZ (hw _ (List.mem_of_getElem? (i := 40) rfl))) (mvT hZ (hw _ (List.mem_of_getElem? (i := 39) rfl))) (by decide) (backOf (W := 1) (rm6 l Z a0 hw [] ms B h143 n0 (Nat.le_trans Z0 (Keep.of_wr W143).1) (Fs.other W143 (Or.inl (Ne.symm nem))) (Fx.other W143 (Or.inl (Ne.symm nem))) (own_lt64 (by omega)) (own_lt64 (by omega))) hZ (hw _ (List.mem_of_getElem? (i := 41) rfl)) (hw _ (List.mem_of_getElem? (i := 31) rfl)) (by decide) (by decide)) q146a q146c (g := (mkF m 26 #[.val (.ref r0), .val (.ref r1), .val (.int p2)] [(.long B), (.ref ms), (.ref r0)])) rfl (by rw [hml]; rfl) (Steps.refl _) (argsL := [(.long B)]) (rest := [(.ref r0)]) (lenOf pd__J_J_229 rfl) rfl (by show 2 * 0 + _ ≤ _; exact Nat.le_of_eq rfl) (hb hby d4_26) (fun _ _ => ⟨rfl, e145, (by decide : 0 + 0 ≤ _), (by decide : 0 + 0 ≤ _)⟩)
  dsimp only [Pt.U, Pt.locs, Pt.cells, Pt.slots] at X146 l146 y146 z146 st146 hQ146
  subst l146 y146 z146
  obtain ⟨rfl, N146q, e146q⟩ := hQ146
  have N146 := Fr.app N145 N146q
  refine own_tr st146 ?_
  have e146 : T146.heap = h143 := e146q
  show own_Comes p e below s _ _ _ (T146.setTop (mkF m 29 #[.val (.ref r0), .val (.ref r1), .val (.int p2)] [(.long (B * (1000000 : Int64))), (.ref r0)]))
  have c147 := (G_marginNanos.other W143 (Or.inr (slot_ne (Or.inr (hw _ (List.mem_of_getElem? (i := 54) rfl))) (Or.inr (hw _ (List.mem_of_getElem? (i := 47) rfl))) (by decide) (t := .long) (t' := .long) (by decide) (by decide))))
  obtain ⟨T148, h148, X148, e148, W148, st148⟩ := putF X146 hx hZ hown (host := "") (Or.inl (hw _ (List.mem_of_getElem? (i := 53) rfl))) Via.refl e146 c147 (Et.wr W143) (Or.inr ⟨(hw _ (List.mem_of_getElem? (i := 54) rfl)), rfl, hnm⟩) (hw _ (List.mem_of_getElem? (i := 5) rfl)) (ty := .long) (by decide) rfl rfl (g := (mkF m 29 #[.val (.ref r0), .val (.ref r1), .val (.int p2)] [(.long (B * (1000000 : Int64))), (.ref r0)])) rfl rfl (hb hby d4_29)
  refine own_by st148 ?_
  have Fw148 := c147.same W148
  have N148 := Fr.snoc X148 N146 g_r0
  show own_Comes p e below s _ _ _ (T148.setTop (mkF m 32 #[.val (.ref r0), .val (.ref r1), .val (.int p2)] []))
  refine own_by (fun _ kS => XS.aloadN X148.here hx rfl (hb hby d4_32) rfl rfl kS) ?_
  show own_Comes p e below s _ _ _ (T148.setTop (mkF m 33 #[.val (.ref r0), .val (.ref r1), .val (.int p2)] [(.ref r0)]))
  refine own_by (fun _ kS => XS.iloadN X148.here hx rfl (hb hby d4_33) rfl kS) ?_
  show own_Comes p e below s _ _ _ (T148.setTop (mkF m 34 #[.val (.ref r0), .val (.ref r1), .val (.int p2)] [(.int p2), (.ref r0)]))
  obtain ⟨T149, h149, k149, X149, e149, E149, A149, st149⟩ := newP X148 hx hZ (hw _ (List.mem_of_getElem? (i := 55) rfl)) e148 (g := (mkF m 34 #[.val (.ref r0), .val (.ref r1), .val (.int p2)] [(.int p2), (.ref r0)])) rfl (hb hby d4_34) rfl (own_neg hz) (cap := 8) (own_cap hz) (by decide) (by decide) (by decide)
  obtain ⟨b149, g149⟩ : ∃ z, z = h148.size := ⟨_, rfl⟩
  rw [← g149] at A149 st149
  have g_b149 : n0 ≤ b149 := Nat.le_trans (Nat.le_trans (Nat.le_trans Z0 (Keep.of_wr W143).1) (Keep.of_wr W148).1) (Nat.le_of_eq g149.symm)
  refine own_by st149 ?_
  have V_b149 : Arv Z h149 b149 k149 .long p2 [(.long (0 : Int64)), (.long (0 : Int64)), (.long (0 : Int64)), (.long (0 : Int64)), (.long (0 : Int64)), (.long (0 : Int64)), (.long (0 : Int64)), (.long (0 : Int64))] (.long (0 : Int64)) := (Arv.new A149 (own_neg hz)).pad (pad_rep [] (.long (0 : Int64)) 8)
  show own_Comes p e below s _ _ _ (T149.setTop (mkF m 36 #[.val (.ref r0), .val (.ref r1), .val (.int p2)] [(.ref b149), (.ref r0)]))
  have nA : r0 ≠ b149 := Nat.ne_of_lt (Nat.lt_of_lt_of_le (((Et.wr W143).wr W148).lt) (Nat.le_of_eq g149.symm))
  have c150 := (((G_offsets.other W143 (Or.inr (slot_ne (Or.inr (hw _ (List.mem_of_getElem? (i := 57) rfl))) (Or.inr (hw _ (List.mem_of_getElem? (i := 47) rfl))) (by decide) (t := (.array .long)) (t' := .long) (by decide) (by decide)))).other W148 (Or.inr (slot_ne (Or.inr (hw _ (List.mem_of_getElem? (i := 57) rfl))) (Or.inr (hw _ (List.mem_of_getElem? (i := 54) rfl))) (by decide) (t := (.array .long)) (t' := .long) (by decide) (by decide)))).ext E149)
  obtain ⟨T151, h151, X151, e151, W151, st151⟩ := putF X149 hx hZ hown (host := "") (Or.inl (hw _ (List.mem_of_getElem? (i := 56) rfl))) Via.refl e149 c150 (((Et.wr W143).wr W148).ext E149) (Or.inr ⟨(hw _ (List.mem_of_getElem? (i := 57) rfl)), rfl, hnm⟩) (hw _ (List.mem_of_getElem? (i := 5) rfl)) (ty := (.array .long)) (by decide) rfl rfl (g := (mkF m 36 #[.val (.ref r0), .val (.ref r1), .val (.int p2)] [(.ref b149), (.ref r0)])) rfl rfl (hb hby d4_36)
  refine own_by st151 ?_
  have Fw151 := c150.same W151
  have N151 := Fr.snoc X151 N148 g_r0
  show own_Comes p e below s _ _ _ (T151.setTop (mkF m 39 #[.val (.ref r0), .val (.ref r1), .val (.int p2)] []))
  refine own_by (fun _ kS => XS.aloadN X151.here hx rfl (hb hby d4_39) rfl rfl kS) ?_
  show own_Comes p e below s _ _ _ (T151.setTop (mkF m 40 #[.val (.ref r0), .val (.ref r1), .val (.int p2)] [(.ref r0)]))
  refine own_by (fun _ kS => XS.iloadN X151.here hx rfl (hb hby d4_40) rfl kS) ?_
  show own_Comes p e below s _ _ _ (T151.setTop (mkF m 41 #[.val (.ref r0), .val (.ref r1), .val (.int p2)] [(.int p2), (.ref r0)]))
  obtain ⟨T152, h152, k152, X152, e152, E152, A152, st152⟩ := newP X151 hx hZ (hw _ (List.mem_of_getElem? (i := 55) rfl)) e151 (g := (mkF m 41 #[.val (.ref r0), .val (.ref r1), .val (.int p2)] [(.int p2), (.ref r0)])) rfl (hb hby d4_41) rfl (own_neg hz) (cap := 8) (own_cap hz) (by decide) (by decide) (by decide)
  obtain ⟨b152, g152⟩ : ∃ z, z = h151.size := ⟨_, rfl⟩
  rw [← g152] at A152 st152
  have g_b152 : n0 ≤ b152 := Nat.le_trans (Nat.le_trans (Nat.le_trans (Nat.le_trans (Nat.le_trans Z0 (Keep.of_wr W143).1) (Keep.of_wr W148).1) E149.1) (Keep.of_wr W151).1) (Nat.le_of_eq g152.symm)
  refine own_by st152 ?_
  have V_b152 : Arv Z h152 b152 k152 .long p2 [(.long (0 : Int64)), (.long (0 : Int64)), (.long (0 : Int64)), (.long (0 : Int64)), (.long (0 : Int64)), (.long (0 : Int64)), (.long (0 : Int64)), (.long (0 : Int64))] (.long (0 : Int64)) := (Arv.new A152 (own_neg hz)).pad (pad_rep [] (.long (0 : Int64)) 8)
  show own_Comes p e below s _ _ _ (T152.setTop (mkF m 43 #[.val (.ref r0), .val (.ref r1), .val (.int p2)] [(.ref b152), (.ref r0)]))
  have nB : r0 ≠ b152 := Nat.ne_of_lt (Nat.lt_of_lt_of_le (((((Et.wr W143).wr W148).ext E149).wr W151).lt) (Nat.le_of_eq g152.symm))
  have nC : b149 ≠ b152 := Nat.ne_of_lt (Nat.lt_of_lt_of_le ((V_b149.other W151 (Ne.symm nA)).lt) (Nat.le_of_eq g152.symm))
  have c153 := (((((G_sorted.other W143 (Or.inr (slot_ne (Or.inr (hw _ (List.mem_of_getElem? (i := 59) rfl))) (Or.inr (hw _ (List.mem_of_getElem? (i := 47) rfl))) (by decide) (t := (.array .long)) (t' := .long) (by decide) (by decide)))).other W148 (Or.inr (slot_ne (Or.inr (hw _ (List.mem_of_getElem? (i := 59) rfl))) (Or.inr (hw _ (List.mem_of_getElem? (i := 54) rfl))) (by decide) (t := (.array .long)) (t' := .long) (by decide) (by decide)))).ext E149).other W151 (Or.inr (slot_ne (Or.inr (hw _ (List.mem_of_getElem? (i := 59) rfl))) (Or.inr (hw _ (List.mem_of_getElem? (i := 57) rfl))) (by decide) (t := (.array .long)) (t' := (.array .long)) (by decide) (by decide)))).ext E152)
  have c154 := (((((Et.wr W143).wr W148).ext E149).wr W151).ext E152)
  obtain ⟨T155, h155, X155, e155, W155, st155⟩ := putF X152 hx hZ hown (host := "") (Or.inl (hw _ (List.mem_of_getElem? (i := 58) rfl))) Via.refl e152 c153 c154 (Or.inr ⟨(hw _ (List.mem_of_getElem? (i := 59) rfl)), rfl, hnm⟩) (hw _ (List.mem_of_getElem? (i := 5) rfl)) (ty := (.array .long)) (by decide) rfl rfl (g := (mkF m 43 #[.val (.ref r0), .val (.ref r1), .val (.int p2)] [(.ref b152), (.ref r0)])) rfl rfl (hb hby d4_43)
  refine own_by st155 ?_
  have Fw155 := c153.same W155
  have N155 := Fr.snoc X155 N151 g_r0
  show own_Comes p e below s _ _ _ (T155.setTop (mkF m 46 #[.val (.ref r0), .val (.ref r1), .val (.int p2)] []))
  have c156 := (((((Fw143.other W148 (Or.inr (slot_ne (Or.inr (hw _ (List.mem_of_getElem? (i := 47) rfl))) (Or.inr (hw _ (List.mem_of_getElem? (i := 54) rfl))) (by decide) (t := .long) (t' := .long) (by decide) (by decide)))).ext E149).other W151 (Or.inr (slot_ne (Or.inr (hw _ (List.mem_of_getElem? (i := 47) rfl))) (Or.inr (hw _ (List.mem_of_getElem? (i := 57) rfl))) (by decide) (t := .long) (t' := (.array .long)) (by decide) (by decide)))).ext E152).other W155 (Or.inr (slot_ne (Or.inr (hw _ (List.mem_of_getElem? (i := 47) rfl))) (Or.inr (hw _ (List.mem_of_getElem? (i := 59) rfl))) (by decide) (t := .long) (t' := (.array .long)) (by decide) (by decide))))
  have c157 := ((((Fw148.ext E149).other W151 (Or.inr (slot_ne (Or.inr (hw _ (List.mem_of_getElem? (i := 54) rfl))) (Or.inr (hw _ (List.mem_of_getElem? (i := 57) rfl))) (by decide) (t := .long) (t' := (.array .long)) (by decide) (by decide)))).ext E152).other W155 (Or.inr (slot_ne (Or.inr (hw _ (List.mem_of_getElem? (i := 54) rfl))) (Or.inr (hw _ (List.mem_of_getElem? (i := 59) rfl))) (by decide) (t := .long) (t' := (.array .long)) (by decide) (by decide))))
  have c158 := ((Fw151.ext E152).other W155 (Or.inr (slot_ne (Or.inr (hw _ (List.mem_of_getElem? (i := 57) rfl))) (Or.inr (hw _ (List.mem_of_getElem? (i := 59) rfl))) (by decide) (t := (.array .long)) (t' := (.array .long)) (by decide) (by decide))))
  have c159 := ((((((G_base.other W143 (Or.inr (slot_ne (Or.inl (hw _ (List.mem_of_getElem? (i := 82) rfl))) (Or.inr (hw _ (List.mem_of_getElem? (i := 47) rfl))) (by decide) (t := .long) (t' := .long) (by decide) (by decide)))).other W148 (Or.inr (slot_ne (Or.inl (hw _ (List.mem_of_getElem? (i := 82) rfl))) (Or.inr (hw _ (List.mem_of_getElem? (i := 54) rfl))) (by decide) (t := .long) (t' := .long) (by decide) (by decide)))).ext E149).other W151 (Or.inr (slot_ne (Or.inl (hw _ (List.mem_of_getElem? (i := 82) rfl))) (Or.inr (hw _ (List.mem_of_getElem? (i := 57) rfl))) (by decide) (t := .long) (t' := (.array .long)) (by decide) (by decide)))).ext E152).other W155 (Or.inr (slot_ne (Or.inl (hw _ (List.mem_of_getElem? (i := 82) rfl))) (Or.inr (hw _ (List.mem_of_getElem? (i := 59) rfl))) (by decide) (t := .long) (t' := (.array .long)) (by decide) (by decide))))
  have c160 := ((((((G_count.other W143 (Or.inr (slot_ne (Or.inl (hw _ (List.mem_of_getElem? (i := 66) rfl))) (Or.inr (hw _ (List.mem_of_getElem? (i := 47) rfl))) (by decide) (t := .int) (t' := .long) (by decide) (by decide)))).other W148 (Or.inr (slot_ne (Or.inl (hw _ (List.mem_of_getElem? (i := 66) rfl))) (Or.inr (hw _ (List.mem_of_getElem? (i := 54) rfl))) (by decide) (t := .int) (t' := .long) (by decide) (by decide)))).ext E149).other W151 (Or.inr (slot_ne (Or.inl (hw _ (List.mem_of_getElem? (i := 66) rfl))) (Or.inr (hw _ (List.mem_of_getElem? (i := 57) rfl))) (by decide) (t := .int) (t' := (.array .long)) (by decide) (by decide)))).ext E152).other W155 (Or.inr (slot_ne (Or.inl (hw _ (List.mem_of_getElem? (i := 66) rfl))) (Or.inr (hw _ (List.mem_of_getElem? (i := 59) rfl))) (by decide) (t := .int) (t' := (.array .long)) (by decide) (by decide))))
  have c161 := ((((((G_next.other W143 (Or.inr (slot_ne (Or.inl (hw _ (List.mem_of_getElem? (i := 68) rfl))) (Or.inr (hw _ (List.mem_of_getElem? (i := 47) rfl))) (by decide) (t := .int) (t' := .long) (by decide) (by decide)))).other W148 (Or.inr (slot_ne (Or.inl (hw _ (List.mem_of_getElem? (i := 68) rfl))) (Or.inr (hw _ (List.mem_of_getElem? (i := 54) rfl))) (by decide) (t := .int) (t' := .long) (by decide) (by decide)))).ext E149).other W151 (Or.inr (slot_ne (Or.inl (hw _ (List.mem_of_getElem? (i := 68) rfl))) (Or.inr (hw _ (List.mem_of_getElem? (i := 57) rfl))) (by decide) (t := .int) (t' := (.array .long)) (by decide) (by decide)))).ext E152).other W155 (Or.inr (slot_ne (Or.inl (hw _ (List.mem_of_getElem? (i := 68) rfl))) (Or.inr (hw _ (List.mem_of_getElem? (i := 59) rfl))) (by decide) (t := .int) (t' := (.array .long)) (by decide) (by decide))))
  have c162 := ((((((G_freshnessNanos.other W143 (Or.inr (slot_ne (Or.inl (hw _ (List.mem_of_getElem? (i := 70) rfl))) (Or.inr (hw _ (List.mem_of_getElem? (i := 47) rfl))) (by decide) (t := .long) (t' := .long) (by decide) (by decide)))).other W148 (Or.inr (slot_ne (Or.inl (hw _ (List.mem_of_getElem? (i := 70) rfl))) (Or.inr (hw _ (List.mem_of_getElem? (i := 54) rfl))) (by decide) (t := .long) (t' := .long) (by decide) (by decide)))).ext E149).other W151 (Or.inr (slot_ne (Or.inl (hw _ (List.mem_of_getElem? (i := 70) rfl))) (Or.inr (hw _ (List.mem_of_getElem? (i := 57) rfl))) (by decide) (t := .long) (t' := (.array .long)) (by decide) (by decide)))).ext E152).other W155 (Or.inr (slot_ne (Or.inl (hw _ (List.mem_of_getElem? (i := 70) rfl))) (Or.inr (hw _ (List.mem_of_getElem? (i := 59) rfl))) (by decide) (t := .long) (t' := (.array .long)) (by decide) (by decide))))
  have c163 := ((((((G_largestLabel.other W143 (Or.inr (slot_ne (Or.inl (hw _ (List.mem_of_getElem? (i := 102) rfl))) (Or.inr (hw _ (List.mem_of_getElem? (i := 47) rfl))) (by decide) (t := .long) (t' := .long) (by decide) (by decide)))).other W148 (Or.inr (slot_ne (Or.inl (hw _ (List.mem_of_getElem? (i := 102) rfl))) (Or.inr (hw _ (List.mem_of_getElem? (i := 54) rfl))) (by decide) (t := .long) (t' := .long) (by decide) (by decide)))).ext E149).other W151 (Or.inr (slot_ne (Or.inl (hw _ (List.mem_of_getElem? (i := 102) rfl))) (Or.inr (hw _ (List.mem_of_getElem? (i := 57) rfl))) (by decide) (t := .long) (t' := (.array .long)) (by decide) (by decide)))).ext E152).other W155 (Or.inr (slot_ne (Or.inl (hw _ (List.mem_of_getElem? (i := 102) rfl))) (Or.inr (hw _ (List.mem_of_getElem? (i := 59) rfl))) (by decide) (t := .long) (t' := (.array .long)) (by decide) (by decide))))
  have c164 := ((((((G_lastOnTimeNanos.other W143 (Or.inr (slot_ne (Or.inl (hw _ (List.mem_of_getElem? (i := 104) rfl))) (Or.inr (hw _ (List.mem_of_getElem? (i := 47) rfl))) (by decide) (t := .long) (t' := .long) (by decide) (by decide)))).other W148 (Or.inr (slot_ne (Or.inl (hw _ (List.mem_of_getElem? (i := 104) rfl))) (Or.inr (hw _ (List.mem_of_getElem? (i := 54) rfl))) (by decide) (t := .long) (t' := .long) (by decide) (by decide)))).ext E149).other W151 (Or.inr (slot_ne (Or.inl (hw _ (List.mem_of_getElem? (i := 104) rfl))) (Or.inr (hw _ (List.mem_of_getElem? (i := 57) rfl))) (by decide) (t := .long) (t' := (.array .long)) (by decide) (by decide)))).ext E152).other W155 (Or.inr (slot_ne (Or.inl (hw _ (List.mem_of_getElem? (i := 104) rfl))) (Or.inr (hw _ (List.mem_of_getElem? (i := 59) rfl))) (by decide) (t := .long) (t' := (.array .long)) (by decide) (by decide))))
  have c165 := (((V_b149.other W151 (Ne.symm nA)).ext E152).other W155 (Ne.symm nA))
  refine own_ret X155 (v := none) (fun _ => rfl) Bd.notSynchronized (by decide) (by decide) ?_ (fun fs hr => X155.returnOut hx Bd.returns (hb hby d4_46) hr)
  rw [e155]; exact ⟨rfl, N155, (((((((Keep.refl _ _).wr W143 (Or.inl (List.mem_of_getElem? (i := 0) rfl))).wr W148 (Or.inl (List.mem_of_getElem? (i := 0) rfl))).ext E149).wr W151 (Or.inl (List.mem_of_getElem? (i := 0) rfl))).ext E152).wr W155 (Or.inl (List.mem_of_getElem? (i := 0) rfl))), _, _, _, _, _, g_b149, g_b152, ⟨(c154.wr W155), c156, c157, c158, Fw155, c159, c160, c161, c162, ⟨_, c163⟩, ⟨_, c164⟩, ⟨_, c165, (by decide)⟩, (V_b152.other W155 (Ne.symm nB)), (by decide), nA, nB, nC⟩⟩
def Q0 (Z : State) (h0 : Heap) (n0 : Nat) (v : Option Value) (h : Heap) (L : List Loc) : Prop := v = some (.int (1 : Int32)) ∧ Fr n0 L
theorem ef_rm0 (m : MethodId) (x0 : Int32) (x1 : Int32) (x2 : Int64) (x3 : Int64) (x4 : Int64) (x5 : Int32) : entryFrame m #[(.int x0), (.int x1), (.long x2), (.long x3), (.long x4), (.int x5)] maxLocals = mkF m 0 #[.val (.int x0), .val (.int x1), .val (.long x2), .second, .val (.long x3), .second, .val (.long x4), .second, .val (.int x5), .unset, .unset, .unset, .unset, .unset, .unset, .unset, .unset, .unset, .unset, .unset, .unset, .unset, .unset, .unset] [] := by first | (simp [entryFrame, mkF, argsToLocals, Value.category, maxLocals]; done) | rfl
theorem pn_com_example_hetman_hetman_peer_ArrivalEstimatorRestartPinLaw : plainName "com/example/hetman/hetman/peer/ArrivalEstimatorRestartPinLaw" = true := by first | (simp [plainName, overriddenIn]; done) | decide +kernel
theorem pd__JJ_V_315 : parseMethodDescriptor "(JJ)V" = some ⟨[.long, .long], none⟩ := by decide +kernel
theorem pd__Lcom_example_hetman_hetman_HeartbeatTiming_I_V_444 : parseMethodDescriptor "(Lcom/example/hetman/hetman/HeartbeatTiming;I)V" = some ⟨[(.object "com/example/hetman/hetman/HeartbeatTiming"), .int], none⟩ := by decide +kernel
theorem pd__JJJ_V_389 : parseMethodDescriptor "(JJJ)V" = some ⟨[.long, .long, .long], none⟩ := by decide +kernel
set_option maxRecDepth 65536 in
set_option maxHeartbeats 40000000 in
theorem rm0 (l : Launch) (Z : State) (a0 : Array Value) (hw : ∀ d ∈ tables_1, d.before a0 Z = true) (ws : List Jvm.Cond) (p0 p1 : Int32) (q2 q3 q4 : Int64) (p5 : Int32) (ms : Addr) (h0 : Heap) (n0 : Nat) (Z0 : n0 ≤ h0.size) (Sm : Sta Z h0 "java/util/concurrent/TimeUnit" "MILLISECONDS" "Ljava/util/concurrent/TimeUnit;" (.ref ms)) (Em : Exa Z h0 ms "java/util/concurrent/TimeUnit") (Fs : Fld Z h0 ms "java/util/concurrent/TimeUnit" "scale" "J" (.long (1000000 : Int64))) (Fx : Fld Z h0 ms "java/util/concurrent/TimeUnit" "maxNanos" "J" (.long (9223372036854 : Int64))) :
    MetFree l x (head1 (Jvm.Cond.code x code maxLocals ret :: ws) room_1) (fun aX UX => aX = #[(.int p0), (.int p1), (.long q2), (.long q3), (.long q4), (.int p5)] ∧ Z.Warmed39 UX.vm ∧ UX.heap = h0) (fun _ _ _ _ _ => True) (fun _ UX oX UX' => ∃ vX LX, oX = .returned vX ∧ Q0 Z  h0 n0 vX UX'.heap LX ∧ FrameEnd UX oX UX' LX room_1.cells room_1.slots) := by
  refine MetFree.of_bodySF (plainFor_of_name pn_com_example_hetman_hetman_peer_ArrivalEstimatorRestartPinLaw) hisR ?_
  intro p e s m args below meth c s₁ Bd hml0 hP hK
  obtain ⟨rfl, hZ, hh⟩ := hP
  have hx := Bd.exec
  have hby := Bd.bytes
  have hml : c.maxLocals = 24 := hml0
  have hown : s.vm.findClass "com/example/hetman/hetman/peer/ArrivalEstimatorRestartPinLaw" = some m.cls := findClass_of_methodNamed Bd.named
  have hnm := (name_of_methodNamed Bd.named Bd.method).1
  have X0 : Stand p l e room_1 s m #[(.int p0), (.int p1), (.long q2), (.long q3), (.long q4), (.int p5)] below meth c s₁ [] 0 0 := Stand.of_body Bd
  have e0 : s₁.heap = h0 := by rw [← hh, Bd.state]; rfl
  have N0 := Fr.nil n0
  show own_Comes p e below s room_1.cells room_1.slots (Q0 Z  h0 n0) _
  rw [show entryFrame m #[(.int p0), (.int p1), (.long q2), (.long q3), (.long q4), (.int p5)] maxLocals = mkF m 0 #[.val (.int p0), .val (.int p1), .val (.long q2), .second, .val (.long q3), .second, .val (.long q4), .second, .val (.int p5), .unset, .unset, .unset, .unset, .unset, .unset, .unset, .unset, .unset, .unset, .unset, .unset, .unset, .unset, .unset] [] from ef_rm0 m p0 p1 q2 q3 q4 p5]
  show own_Comes p e below s _ _ _ (s₁.setTop (mkF m 0 #[.val (.int p0), .val (.int p1), .val (.long q2), .second, .val (.long q3), .second, .val (.long q4), .second, .val (.int p5), .unset, .unset, .unset, .unset, .unset, .unset, .unset, .unset, .unset, .unset, .unset, .unset, .unset, .unset, .unset] []))
  refine own_by (fun _ kS => XS.lconst X0.here hx rfl (hb hby at_0) kS) ?_
  show own_Comes p e below s _ _ _ (s₁.setTop (mkF m 1 #[.val (.int p0), .val (.int p1), .val (.long q2), .second, .val (.long q3), .second, .val (.long q4), .second, .val (.int p5), .unset, .unset, .unset, .unset, .unset, .unset, .unset, .unset, .unset, .unset, .unset, .unset, .unset, .unset, .unset] [(.long (1 : Int64))]))
  refine own_by (fun _ kS => XS.iloadN X0.here hx rfl (hb hby at_1) rfl kS) ?_
  show own_Comes p e below s _ _ _ (s₁.setTop (mkF m 2 #[.val (.int p0), .val (.int p1), .val (.long q2), .second, .val (.long q3), .second, .val (.long q4), .second, .val (.int p5), .unset, .unset, .unset, .unset, .unset, .unset, .unset, .unset, .unset, .unset, .unset, .unset, .unset, .unset, .unset] [(.int p0), (.long (1 : Int64))]))
  refine own_by (fun _ kS => X0.ldcInt hx hown (mvT hZ (hw _ (List.mem_of_getElem? (i := 0) rfl))) (g := (mkF m 2 #[.val (.int p0), .val (.int p1), .val (.long q2), .second, .val (.long q3), .second, .val (.long q4), .second, .val (.int p5), .unset, .unset, .unset, .unset, .unset, .unset, .unset, .unset, .unset, .unset, .unset, .unset, .unset, .unset, .unset] [(.int p0), (.long (1 : Int64))])) rfl (hb hby at_2) _ kS) ?_
  show own_Comes p e below s _ _ _ (s₁.setTop (mkF m 4 #[.val (.int p0), .val (.int p1), .val (.long q2), .second, .val (.long q3), .second, .val (.long q4), .second, .val (.int p5), .unset, .unset, .unset, .unset, .unset, .unset, .unset, .unset, .unset, .unset, .unset, .unset, .unset, .unset, .unset] [(.int (2147483647 : Int32)), (.int p0), (.long (1 : Int64))]))
  refine own_by (fun _ kS => XS.iand X0.here hx rfl (hb hby at_4) rfl kS) ?_
  show own_Comes p e below s _ _ _ (s₁.setTop (mkF m 5 #[.val (.int p0), .val (.int p1), .val (.long q2), .second, .val (.long q3), .second, .val (.long q4), .second, .val (.int p5), .unset, .unset, .unset, .unset, .unset, .unset, .unset, .unset, .unset, .unset, .unset, .unset, .unset, .unset, .unset] [(.int (p0 &&& (2147483647 : Int32))), (.long (1 : Int64))]))
  refine own_by (fun _ kS => X0.ldcInt hx hown (mvT hZ (hw _ (List.mem_of_getElem? (i := 1) rfl))) (g := (mkF m 5 #[.val (.int p0), .val (.int p1), .val (.long q2), .second, .val (.long q3), .second, .val (.long q4), .second, .val (.int p5), .unset, .unset, .unset, .unset, .unset, .unset, .unset, .unset, .unset, .unset, .unset, .unset, .unset, .unset, .unset] [(.int (p0 &&& (2147483647 : Int32))), (.long (1 : Int64))])) rfl (hb hby at_5) _ kS) ?_
  show own_Comes p e below s _ _ _ (s₁.setTop (mkF m 7 #[.val (.int p0), .val (.int p1), .val (.long q2), .second, .val (.long q3), .second, .val (.long q4), .second, .val (.int p5), .unset, .unset, .unset, .unset, .unset, .unset, .unset, .unset, .unset, .unset, .unset, .unset, .unset, .unset, .unset] [(.int (3600000 : Int32)), (.int (p0 &&& (2147483647 : Int32))), (.long (1 : Int64))]))
  refine own_by (fun _ kS => iremM X0 hx rfl (hb hby at_7) rfl (by decide) kS) ?_
  show own_Comes p e below s _ _ _ (s₁.setTop (mkF m 8 #[.val (.int p0), .val (.int p1), .val (.long q2), .second, .val (.long q3), .second, .val (.long q4), .second, .val (.int p5), .unset, .unset, .unset, .unset, .unset, .unset, .unset, .unset, .unset, .unset, .unset, .unset, .unset, .unset, .unset] [(.int ((p0 &&& (2147483647 : Int32)) % (3600000 : Int32))), (.long (1 : Int64))]))
  refine own_by (fun _ kS => XS.i2l X0.here hx rfl (hb hby at_8) rfl kS) ?_
  show own_Comes p e below s _ _ _ (s₁.setTop (mkF m 9 #[.val (.int p0), .val (.int p1), .val (.long q2), .second, .val (.long q3), .second, .val (.long q4), .second, .val (.int p5), .unset, .unset, .unset, .unset, .unset, .unset, .unset, .unset, .unset, .unset, .unset, .unset, .unset, .unset, .unset] [(.long (((p0 &&& (2147483647 : Int32)) % (3600000 : Int32)).toInt64)), (.long (1 : Int64))]))
  refine own_by (fun _ kS => XS.ladd X0.here hx rfl (hb hby at_9) rfl kS) ?_
  show own_Comes p e below s _ _ _ (s₁.setTop (mkF m 10 #[.val (.int p0), .val (.int p1), .val (.long q2), .second, .val (.long q3), .second, .val (.long q4), .second, .val (.int p5), .unset, .unset, .unset, .unset, .unset, .unset, .unset, .unset, .unset, .unset, .unset, .unset, .unset, .unset, .unset] [(.long ((1 : Int64) + (((p0 &&& (2147483647 : Int32)) % (3600000 : Int32)).toInt64)))]))
  obtain ⟨P, hP⟩ : ∃ z, z = ((1 : Int64) + (((p0 &&& (2147483647 : Int32)) % (3600000 : Int32)).toInt64)) := ⟨_, rfl⟩
  rw [show ((1 : Int64) + (((p0 &&& (2147483647 : Int32)) % (3600000 : Int32)).toInt64)) = P from hP.symm]
  show own_Comes p e below s _ _ _ (s₁.setTop (mkF m 10 #[.val (.int p0), .val (.int p1), .val (.long q2), .second, .val (.long q3), .second, .val (.long q4), .second, .val (.int p5), .unset, .unset, .unset, .unset, .unset, .unset, .unset, .unset, .unset, .unset, .unset, .unset, .unset, .unset, .unset] [(.long P)]))
  have kP := own_p p0
  rw [← hP] at kP
  have hnz23 := (own_d P kP).2
  refine own_by (fun _ kS => XS.lstore X0.here hx rfl (hb hby at_10) rfl (l' := #[.val (.int p0), .val (.int p1), .val (.long q2), .second, .val (.long q3), .second, .val (.long q4), .second, .val (.int p5), .val (.long P), .second, .unset, .unset, .unset, .unset, .unset, .unset, .unset, .unset, .unset, .unset, .unset, .unset, .unset]) rfl kS) ?_
  show own_Comes p e below s _ _ _ (s₁.setTop (mkF m 12 #[.val (.int p0), .val (.int p1), .val (.long q2), .second, .val (.long q3), .second, .val (.long q4), .second, .val (.int p5), .val (.long P), .second, .unset, .unset, .unset, .unset, .unset, .unset, .unset, .unset, .unset, .unset, .unset, .unset, .unset] []))
  refine own_by (fun _ kS => XS.iloadN X0.here hx rfl (hb hby at_12) rfl kS) ?_
  show own_Comes p e below s _ _ _ (s₁.setTop (mkF m 13 #[.val (.int p0), .val (.int p1), .val (.long q2), .second, .val (.long q3), .second, .val (.long q4), .second, .val (.int p5), .val (.long P), .second, .unset, .unset, .unset, .unset, .unset, .unset, .unset, .unset, .unset, .unset, .unset, .unset, .unset] [(.int p1)]))
  refine own_by (fun _ kS => X0.ldcInt hx hown (mvT hZ (hw _ (List.mem_of_getElem? (i := 0) rfl))) (g := (mkF m 13 #[.val (.int p0), .val (.int p1), .val (.long q2), .second, .val (.long q3), .second, .val (.long q4), .second, .val (.int p5), .val (.long P), .second, .unset, .unset, .unset, .unset, .unset, .unset, .unset, .unset, .unset, .unset, .unset, .unset, .unset] [(.int p1)])) rfl (hb hby at_13) _ kS) ?_
  show own_Comes p e below s _ _ _ (s₁.setTop (mkF m 15 #[.val (.int p0), .val (.int p1), .val (.long q2), .second, .val (.long q3), .second, .val (.long q4), .second, .val (.int p5), .val (.long P), .second, .unset, .unset, .unset, .unset, .unset, .unset, .unset, .unset, .unset, .unset, .unset, .unset, .unset] [(.int (2147483647 : Int32)), (.int p1)]))
  refine own_by (fun _ kS => XS.iand X0.here hx rfl (hb hby at_15) rfl kS) ?_
  show own_Comes p e below s _ _ _ (s₁.setTop (mkF m 16 #[.val (.int p0), .val (.int p1), .val (.long q2), .second, .val (.long q3), .second, .val (.long q4), .second, .val (.int p5), .val (.long P), .second, .unset, .unset, .unset, .unset, .unset, .unset, .unset, .unset, .unset, .unset, .unset, .unset, .unset] [(.int (p1 &&& (2147483647 : Int32)))]))
  refine own_by (fun _ kS => XS.i2l X0.here hx rfl (hb hby at_16) rfl kS) ?_
  show own_Comes p e below s _ _ _ (s₁.setTop (mkF m 17 #[.val (.int p0), .val (.int p1), .val (.long q2), .second, .val (.long q3), .second, .val (.long q4), .second, .val (.int p5), .val (.long P), .second, .unset, .unset, .unset, .unset, .unset, .unset, .unset, .unset, .unset, .unset, .unset, .unset, .unset] [(.long ((p1 &&& (2147483647 : Int32)).toInt64))]))
  refine own_by (fun _ kS => X0.ldc2Long hx hown (mvT hZ (hw _ (List.mem_of_getElem? (i := 2) rfl))) (g := (mkF m 17 #[.val (.int p0), .val (.int p1), .val (.long q2), .second, .val (.long q3), .second, .val (.long q4), .second, .val (.int p5), .val (.long P), .second, .unset, .unset, .unset, .unset, .unset, .unset, .unset, .unset, .unset, .unset, .unset, .unset, .unset] [(.long ((p1 &&& (2147483647 : Int32)).toInt64))])) rfl (hb hby at_17) _ kS) ?_
  show own_Comes p e below s _ _ _ (s₁.setTop (mkF m 20 #[.val (.int p0), .val (.int p1), .val (.long q2), .second, .val (.long q3), .second, .val (.long q4), .second, .val (.int p5), .val (.long P), .second, .unset, .unset, .unset, .unset, .unset, .unset, .unset, .unset, .unset, .unset, .unset, .unset, .unset] [(.long (3600001 : Int64)), (.long ((p1 &&& (2147483647 : Int32)).toInt64))]))
  refine own_by (fun _ kS => XS.lload X0.here hx rfl (hb hby at_20) rfl kS) ?_
  show own_Comes p e below s _ _ _ (s₁.setTop (mkF m 22 #[.val (.int p0), .val (.int p1), .val (.long q2), .second, .val (.long q3), .second, .val (.long q4), .second, .val (.int p5), .val (.long P), .second, .unset, .unset, .unset, .unset, .unset, .unset, .unset, .unset, .unset, .unset, .unset, .unset, .unset] [(.long P), (.long (3600001 : Int64)), (.long ((p1 &&& (2147483647 : Int32)).toInt64))]))
  refine own_by (fun _ kS => XS.lsub X0.here hx rfl (hb hby at_22) rfl kS) ?_
  show own_Comes p e below s _ _ _ (s₁.setTop (mkF m 23 #[.val (.int p0), .val (.int p1), .val (.long q2), .second, .val (.long q3), .second, .val (.long q4), .second, .val (.int p5), .val (.long P), .second, .unset, .unset, .unset, .unset, .unset, .unset, .unset, .unset, .unset, .unset, .unset, .unset, .unset] [(.long ((3600001 : Int64) - P)), (.long ((p1 &&& (2147483647 : Int32)).toInt64))]))
  refine own_by (fun _ kS => XS.lrem X0.here hx rfl (hb hby at_23) rfl hnz23 kS) ?_
  show own_Comes p e below s _ _ _ (s₁.setTop (mkF m 24 #[.val (.int p0), .val (.int p1), .val (.long q2), .second, .val (.long q3), .second, .val (.long q4), .second, .val (.int p5), .val (.long P), .second, .unset, .unset, .unset, .unset, .unset, .unset, .unset, .unset, .unset, .unset, .unset, .unset, .unset] [(.long (((p1 &&& (2147483647 : Int32)).toInt64) - (((p1 &&& (2147483647 : Int32)).toInt64) / ((3600001 : Int64) - P)) * ((3600001 : Int64) - P)))]))
  obtain ⟨M, hM⟩ : ∃ z, z = (((p1 &&& (2147483647 : Int32)).toInt64) - (((p1 &&& (2147483647 : Int32)).toInt64) / ((3600001 : Int64) - P)) * ((3600001 : Int64) - P)) := ⟨_, rfl⟩
  rw [show (((p1 &&& (2147483647 : Int32)).toInt64) - (((p1 &&& (2147483647 : Int32)).toInt64) / ((3600001 : Int64) - P)) * ((3600001 : Int64) - P)) = M from hM.symm]
  show own_Comes p e below s _ _ _ (s₁.setTop (mkF m 24 #[.val (.int p0), .val (.int p1), .val (.long q2), .second, .val (.long q3), .second, .val (.long q4), .second, .val (.int p5), .val (.long P), .second, .unset, .unset, .unset, .unset, .unset, .unset, .unset, .unset, .unset, .unset, .unset, .unset, .unset] [(.long M)]))
  have kM := own_m p1 P kP
  rw [← hM] at kM
  refine own_by (fun _ kS => XS.lstore X0.here hx rfl (hb hby at_24) rfl (l' := #[.val (.int p0), .val (.int p1), .val (.long q2), .second, .val (.long q3), .second, .val (.long q4), .second, .val (.int p5), .val (.long P), .second, .val (.long M), .second, .unset, .unset, .unset, .unset, .unset, .unset, .unset, .unset, .unset, .unset, .unset]) rfl kS) ?_
  show own_Comes p e below s _ _ _ (s₁.setTop (mkF m 26 #[.val (.int p0), .val (.int p1), .val (.long q2), .second, .val (.long q3), .second, .val (.long q4), .second, .val (.int p5), .val (.long P), .second, .val (.long M), .second, .unset, .unset, .unset, .unset, .unset, .unset, .unset, .unset, .unset, .unset, .unset] []))
  refine own_by (fun _ kS => XS.iconst X0.here hx rfl (hb hby at_26) kS) ?_
  show own_Comes p e below s _ _ _ (s₁.setTop (mkF m 27 #[.val (.int p0), .val (.int p1), .val (.long q2), .second, .val (.long q3), .second, .val (.long q4), .second, .val (.int p5), .val (.long P), .second, .val (.long M), .second, .unset, .unset, .unset, .unset, .unset, .unset, .unset, .unset, .unset, .unset, .unset] [(.int (1 : Int32))]))
  refine own_by (fun _ kS => XS.iload X0.here hx rfl (hb hby at_27) rfl kS) ?_
  show own_Comes p e below s _ _ _ (s₁.setTop (mkF m 29 #[.val (.int p0), .val (.int p1), .val (.long q2), .second, .val (.long q3), .second, .val (.long q4), .second, .val (.int p5), .val (.long P), .second, .val (.long M), .second, .unset, .unset, .unset, .unset, .unset, .unset, .unset, .unset, .unset, .unset, .unset] [(.int p5), (.int (1 : Int32))]))
  refine own_by (fun _ kS => XS.bipush X0.here hx rfl (hb hby at_29) kS) ?_
  show own_Comes p e below s _ _ _ (s₁.setTop (mkF m 31 #[.val (.int p0), .val (.int p1), .val (.long q2), .second, .val (.long q3), .second, .val (.long q4), .second, .val (.int p5), .val (.long P), .second, .val (.long M), .second, .unset, .unset, .unset, .unset, .unset, .unset, .unset, .unset, .unset, .unset, .unset] [(.int (7 : Int32)), (.int p5), (.int (1 : Int32))]))
  refine own_by (fun _ kS => XS.iand X0.here hx rfl (hb hby at_31) rfl kS) ?_
  show own_Comes p e below s _ _ _ (s₁.setTop (mkF m 32 #[.val (.int p0), .val (.int p1), .val (.long q2), .second, .val (.long q3), .second, .val (.long q4), .second, .val (.int p5), .val (.long P), .second, .val (.long M), .second, .unset, .unset, .unset, .unset, .unset, .unset, .unset, .unset, .unset, .unset, .unset] [(.int (p5 &&& (7 : Int32))), (.int (1 : Int32))]))
  refine own_by (fun _ kS => XS.iadd X0.here hx rfl (hb hby at_32) rfl kS) ?_
  show own_Comes p e below s _ _ _ (s₁.setTop (mkF m 33 #[.val (.int p0), .val (.int p1), .val (.long q2), .second, .val (.long q3), .second, .val (.long q4), .second, .val (.int p5), .val (.long P), .second, .val (.long M), .second, .unset, .unset, .unset, .unset, .unset, .unset, .unset, .unset, .unset, .unset, .unset] [(.int ((1 : Int32) + (p5 &&& (7 : Int32))))]))
  obtain ⟨D, hD⟩ : ∃ z, z = ((1 : Int32) + (p5 &&& (7 : Int32))) := ⟨_, rfl⟩
  rw [show ((1 : Int32) + (p5 &&& (7 : Int32))) = D from hD.symm]
  show own_Comes p e below s _ _ _ (s₁.setTop (mkF m 33 #[.val (.int p0), .val (.int p1), .val (.long q2), .second, .val (.long q3), .second, .val (.long q4), .second, .val (.int p5), .val (.long P), .second, .val (.long M), .second, .unset, .unset, .unset, .unset, .unset, .unset, .unset, .unset, .unset, .unset, .unset] [(.int D)]))
  have kD := own_w p5
  rw [← hD] at kD
  refine own_by (fun _ kS => XS.istore X0.here hx rfl (hb hby at_33) rfl (l' := #[.val (.int p0), .val (.int p1), .val (.long q2), .second, .val (.long q3), .second, .val (.long q4), .second, .val (.int p5), .val (.long P), .second, .val (.long M), .second, .val (.int D), .unset, .unset, .unset, .unset, .unset, .unset, .unset, .unset, .unset, .unset]) rfl kS) ?_
  show own_Comes p e below s _ _ _ (s₁.setTop (mkF m 35 #[.val (.int p0), .val (.int p1), .val (.long q2), .second, .val (.long q3), .second, .val (.long q4), .second, .val (.int p5), .val (.long P), .second, .val (.long M), .second, .val (.int D), .unset, .unset, .unset, .unset, .unset, .unset, .unset, .unset, .unset, .unset] []))
  refine own_by (fun _ kS => XS.iload X0.here hx rfl (hb hby at_35) rfl kS) ?_
  show own_Comes p e below s _ _ _ (s₁.setTop (mkF m 37 #[.val (.int p0), .val (.int p1), .val (.long q2), .second, .val (.long q3), .second, .val (.long q4), .second, .val (.int p5), .val (.long P), .second, .val (.long M), .second, .val (.int D), .unset, .unset, .unset, .unset, .unset, .unset, .unset, .unset, .unset, .unset] [(.int p5)]))
  refine own_by (fun _ kS => XS.bipush X0.here hx rfl (hb hby at_37) kS) ?_
  show own_Comes p e below s _ _ _ (s₁.setTop (mkF m 39 #[.val (.int p0), .val (.int p1), .val (.long q2), .second, .val (.long q3), .second, .val (.long q4), .second, .val (.int p5), .val (.long P), .second, .val (.long M), .second, .val (.int D), .unset, .unset, .unset, .unset, .unset, .unset, .unset, .unset, .unset, .unset] [(.int (8 : Int32)), (.int p5)]))
  refine own_by (fun _ kS => XS.iand X0.here hx rfl (hb hby at_39) rfl kS) ?_
  show own_Comes p e below s _ _ _ (s₁.setTop (mkF m 40 #[.val (.int p0), .val (.int p1), .val (.long q2), .second, .val (.long q3), .second, .val (.long q4), .second, .val (.int p5), .val (.long P), .second, .val (.long M), .second, .val (.int D), .unset, .unset, .unset, .unset, .unset, .unset, .unset, .unset, .unset, .unset] [(.int (p5 &&& (8 : Int32)))]))
  by_cases hc40_166 : (p5 &&& (8 : Int32)) = (0 : Int32)
  · refine own_by (fun _ kS => XS.ifYes X0.here hx rfl (pc0 := 40) (pc' := 47) rfl (hb hby at_40) rfl ((if0 _ _).trans (teq hc40_166).1) (by decide) (by decide) kS) ?_
    show own_Comes p e below s _ _ _ (s₁.setTop (mkF m 47 #[.val (.int p0), .val (.int p1), .val (.long q2), .second, .val (.long q3), .second, .val (.long q4), .second, .val (.int p5), .val (.long P), .second, .val (.long M), .second, .val (.int D), .unset, .unset, .unset, .unset, .unset, .unset, .unset, .unset, .unset, .unset] []))
    refine own_by (fun _ kS => XS.iconst X0.here hx rfl (hb hby at_47) kS) ?_
    show own_Comes p e below s _ _ _ (s₁.setTop (mkF m 48 #[.val (.int p0), .val (.int p1), .val (.long q2), .second, .val (.long q3), .second, .val (.long q4), .second, .val (.int p5), .val (.long P), .second, .val (.long M), .second, .val (.int D), .unset, .unset, .unset, .unset, .unset, .unset, .unset, .unset, .unset, .unset] [(.int (0 : Int32))]))
    refine own_by (fun _ kS => XS.istore X0.here hx rfl (hb hby at_48) rfl (l' := #[.val (.int p0), .val (.int p1), .val (.long q2), .second, .val (.long q3), .second, .val (.long q4), .second, .val (.int p5), .val (.long P), .second, .val (.long M), .second, .val (.int D), .val (.int (0 : Int32)), .unset, .unset, .unset, .unset, .unset, .unset, .unset, .unset, .unset]) rfl kS) ?_
    show own_Comes p e below s _ _ _ (s₁.setTop (mkF m 50 #[.val (.int p0), .val (.int p1), .val (.long q2), .second, .val (.long q3), .second, .val (.long q4), .second, .val (.int p5), .val (.long P), .second, .val (.long M), .second, .val (.int D), .val (.int (0 : Int32)), .unset, .unset, .unset, .unset, .unset, .unset, .unset, .unset, .unset] []))
    refine own_by (fun _ kS => XS.iload X0.here hx rfl (hb hby at_50) rfl kS) ?_
    show own_Comes p e below s _ _ _ (s₁.setTop (mkF m 52 #[.val (.int p0), .val (.int p1), .val (.long q2), .second, .val (.long q3), .second, .val (.long q4), .second, .val (.int p5), .val (.long P), .second, .val (.long M), .second, .val (.int D), .val (.int (0 : Int32)), .unset, .unset, .unset, .unset, .unset, .unset, .unset, .unset, .unset] [(.int p5)]))
    refine own_by (fun _ kS => XS.iconst X0.here hx rfl (hb hby at_52) kS) ?_
    show own_Comes p e below s _ _ _ (s₁.setTop (mkF m 53 #[.val (.int p0), .val (.int p1), .val (.long q2), .second, .val (.long q3), .second, .val (.long q4), .second, .val (.int p5), .val (.long P), .second, .val (.long M), .second, .val (.int D), .val (.int (0 : Int32)), .unset, .unset, .unset, .unset, .unset, .unset, .unset, .unset, .unset] [(.int (4 : Int32)), (.int p5)]))
    refine own_by (fun _ kS => XS.ishr X0.here hx rfl (hb hby at_53) rfl kS) ?_
    show own_Comes p e below s _ _ _ (s₁.setTop (mkF m 54 #[.val (.int p0), .val (.int p1), .val (.long q2), .second, .val (.long q3), .second, .val (.long q4), .second, .val (.int p5), .val (.long P), .second, .val (.long M), .second, .val (.int D), .val (.int (0 : Int32)), .unset, .unset, .unset, .unset, .unset, .unset, .unset, .unset, .unset] [(.int (p5 >>> ((4 : Int32) &&& 31)))]))
    refine own_by (fun _ kS => XS.i2l X0.here hx rfl (hb hby at_54) rfl kS) ?_
    show own_Comes p e below s _ _ _ (s₁.setTop (mkF m 55 #[.val (.int p0), .val (.int p1), .val (.long q2), .second, .val (.long q3), .second, .val (.long q4), .second, .val (.int p5), .val (.long P), .second, .val (.long M), .second, .val (.int D), .val (.int (0 : Int32)), .unset, .unset, .unset, .unset, .unset, .unset, .unset, .unset, .unset] [(.long ((p5 >>> ((4 : Int32) &&& 31)).toInt64))]))
    obtain ⟨LT, hLT⟩ : ∃ z, z = ((p5 >>> ((4 : Int32) &&& 31)).toInt64) := ⟨_, rfl⟩
    rw [show ((p5 >>> ((4 : Int32) &&& 31)).toInt64) = LT from hLT.symm]
    show own_Comes p e below s _ _ _ (s₁.setTop (mkF m 55 #[.val (.int p0), .val (.int p1), .val (.long q2), .second, .val (.long q3), .second, .val (.long q4), .second, .val (.int p5), .val (.long P), .second, .val (.long M), .second, .val (.int D), .val (.int (0 : Int32)), .unset, .unset, .unset, .unset, .unset, .unset, .unset, .unset, .unset] [(.long LT)]))
    refine own_by (fun _ kS => XS.lstore X0.here hx rfl (hb hby at_55) rfl (l' := #[.val (.int p0), .val (.int p1), .val (.long q2), .second, .val (.long q3), .second, .val (.long q4), .second, .val (.int p5), .val (.long P), .second, .val (.long M), .second, .val (.int D), .val (.int (0 : Int32)), .val (.long LT), .second, .unset, .unset, .unset, .unset, .unset, .unset, .unset]) rfl kS) ?_
    show own_Comes p e below s _ _ _ (s₁.setTop (mkF m 57 #[.val (.int p0), .val (.int p1), .val (.long q2), .second, .val (.long q3), .second, .val (.long q4), .second, .val (.int p5), .val (.long P), .second, .val (.long M), .second, .val (.int D), .val (.int (0 : Int32)), .val (.long LT), .second, .unset, .unset, .unset, .unset, .unset, .unset, .unset] []))
    refine own_by (fun _ kS => XS.lload X0.here hx rfl (hb hby at_57) rfl kS) ?_
    show own_Comes p e below s _ _ _ (s₁.setTop (mkF m 59 #[.val (.int p0), .val (.int p1), .val (.long q2), .second, .val (.long q3), .second, .val (.long q4), .second, .val (.int p5), .val (.long P), .second, .val (.long M), .second, .val (.int D), .val (.int (0 : Int32)), .val (.long LT), .second, .unset, .unset, .unset, .unset, .unset, .unset, .unset] [(.long P)]))
    refine own_by (fun _ kS => X0.ldc2Long hx hown (mvT hZ (hw _ (List.mem_of_getElem? (i := 3) rfl))) (g := (mkF m 59 #[.val (.int p0), .val (.int p1), .val (.long q2), .second, .val (.long q3), .second, .val (.long q4), .second, .val (.int p5), .val (.long P), .second, .val (.long M), .second, .val (.int D), .val (.int (0 : Int32)), .val (.long LT), .second, .unset, .unset, .unset, .unset, .unset, .unset, .unset] [(.long P)])) rfl (hb hby at_59) _ kS) ?_
    show own_Comes p e below s _ _ _ (s₁.setTop (mkF m 62 #[.val (.int p0), .val (.int p1), .val (.long q2), .second, .val (.long q3), .second, .val (.long q4), .second, .val (.int p5), .val (.long P), .second, .val (.long M), .second, .val (.int D), .val (.int (0 : Int32)), .val (.long LT), .second, .unset, .unset, .unset, .unset, .unset, .unset, .unset] [(.long (1000000 : Int64)), (.long P)]))
    refine own_by (fun _ kS => XS.lmul X0.here hx rfl (hb hby at_62) rfl kS) ?_
    show own_Comes p e below s _ _ _ (s₁.setTop (mkF m 63 #[.val (.int p0), .val (.int p1), .val (.long q2), .second, .val (.long q3), .second, .val (.long q4), .second, .val (.int p5), .val (.long P), .second, .val (.long M), .second, .val (.int D), .val (.int (0 : Int32)), .val (.long LT), .second, .unset, .unset, .unset, .unset, .unset, .unset, .unset] [(.long (P * (1000000 : Int64)))]))
    refine own_by (fun _ kS => XS.lstore X0.here hx rfl (hb hby at_63) rfl (l' := #[.val (.int p0), .val (.int p1), .val (.long q2), .second, .val (.long q3), .second, .val (.long q4), .second, .val (.int p5), .val (.long P), .second, .val (.long M), .second, .val (.int D), .val (.int (0 : Int32)), .val (.long LT), .second, .val (.long (P * (1000000 : Int64))), .second, .unset, .unset, .unset, .unset, .unset]) rfl kS) ?_
    show own_Comes p e below s _ _ _ (s₁.setTop (mkF m 65 #[.val (.int p0), .val (.int p1), .val (.long q2), .second, .val (.long q3), .second, .val (.long q4), .second, .val (.int p5), .val (.long P), .second, .val (.long M), .second, .val (.int D), .val (.int (0 : Int32)), .val (.long LT), .second, .val (.long (P * (1000000 : Int64))), .second, .unset, .unset, .unset, .unset, .unset] []))
    refine own_by (fun _ kS => XS.lload X0.here hx rfl (hb hby at_65) rfl kS) ?_
    show own_Comes p e below s _ _ _ (s₁.setTop (mkF m 67 #[.val (.int p0), .val (.int p1), .val (.long q2), .second, .val (.long q3), .second, .val (.long q4), .second, .val (.int p5), .val (.long P), .second, .val (.long M), .second, .val (.int D), .val (.int (0 : Int32)), .val (.long LT), .second, .val (.long (P * (1000000 : Int64))), .second, .unset, .unset, .unset, .unset, .unset] [(.long M)]))
    refine own_by (fun _ kS => X0.ldc2Long hx hown (mvT hZ (hw _ (List.mem_of_getElem? (i := 3) rfl))) (g := (mkF m 67 #[.val (.int p0), .val (.int p1), .val (.long q2), .second, .val (.long q3), .second, .val (.long q4), .second, .val (.int p5), .val (.long P), .second, .val (.long M), .second, .val (.int D), .val (.int (0 : Int32)), .val (.long LT), .second, .val (.long (P * (1000000 : Int64))), .second, .unset, .unset, .unset, .unset, .unset] [(.long M)])) rfl (hb hby at_67) _ kS) ?_
    show own_Comes p e below s _ _ _ (s₁.setTop (mkF m 70 #[.val (.int p0), .val (.int p1), .val (.long q2), .second, .val (.long q3), .second, .val (.long q4), .second, .val (.int p5), .val (.long P), .second, .val (.long M), .second, .val (.int D), .val (.int (0 : Int32)), .val (.long LT), .second, .val (.long (P * (1000000 : Int64))), .second, .unset, .unset, .unset, .unset, .unset] [(.long (1000000 : Int64)), (.long M)]))
    refine own_by (fun _ kS => XS.lmul X0.here hx rfl (hb hby at_70) rfl kS) ?_
    show own_Comes p e below s _ _ _ (s₁.setTop (mkF m 71 #[.val (.int p0), .val (.int p1), .val (.long q2), .second, .val (.long q3), .second, .val (.long q4), .second, .val (.int p5), .val (.long P), .second, .val (.long M), .second, .val (.int D), .val (.int (0 : Int32)), .val (.long LT), .second, .val (.long (P * (1000000 : Int64))), .second, .unset, .unset, .unset, .unset, .unset] [(.long (M * (1000000 : Int64)))]))
    refine own_by (fun _ kS => XS.lstore X0.here hx rfl (hb hby at_71) rfl (l' := #[.val (.int p0), .val (.int p1), .val (.long q2), .second, .val (.long q3), .second, .val (.long q4), .second, .val (.int p5), .val (.long P), .second, .val (.long M), .second, .val (.int D), .val (.int (0 : Int32)), .val (.long LT), .second, .val (.long (P * (1000000 : Int64))), .second, .val (.long (M * (1000000 : Int64))), .second, .unset, .unset, .unset]) rfl kS) ?_
    show own_Comes p e below s _ _ _ (s₁.setTop (mkF m 73 #[.val (.int p0), .val (.int p1), .val (.long q2), .second, .val (.long q3), .second, .val (.long q4), .second, .val (.int p5), .val (.long P), .second, .val (.long M), .second, .val (.int D), .val (.int (0 : Int32)), .val (.long LT), .second, .val (.long (P * (1000000 : Int64))), .second, .val (.long (M * (1000000 : Int64))), .second, .unset, .unset, .unset] []))
    obtain ⟨T167, h167, X167, e167, E167, A167, D167, -, st167⟩ := newO X0 hx hZ hown (hw _ (List.mem_of_getElem? (i := 4) rfl)) (hw _ (List.mem_of_getElem? (i := 5) rfl)) (hw _ (List.mem_of_getElem? (i := 6) rfl)) e0 (g := (mkF m 73 #[.val (.int p0), .val (.int p1), .val (.long q2), .second, .val (.long q3), .second, .val (.long q4), .second, .val (.int p5), .val (.long P), .second, .val (.long M), .second, .val (.int D), .val (.int (0 : Int32)), .val (.long LT), .second, .val (.long (P * (1000000 : Int64))), .second, .val (.long (M * (1000000 : Int64))), .second, .unset, .unset, .unset] [])) rfl (hb hby at_73) (by decide) (by decide)
    obtain ⟨b167, g167⟩ : ∃ z, z = h0.size := ⟨_, rfl⟩
    rw [← g167] at A167 D167 st167
    have g_b167 : n0 ≤ b167 := Nat.le_trans Z0 (Nat.le_of_eq g167.symm)
    refine own_by st167 ?_
    show own_Comes p e below s _ _ _ (T167.setTop (mkF m 76 #[.val (.int p0), .val (.int p1), .val (.long q2), .second, .val (.long q3), .second, .val (.long q4), .second, .val (.int p5), .val (.long P), .second, .val (.long M), .second, .val (.int D), .val (.int (0 : Int32)), .val (.long LT), .second, .val (.long (P * (1000000 : Int64))), .second, .val (.long (M * (1000000 : Int64))), .second, .unset, .unset, .unset] [(.ref b167)]))
    refine own_by (fun _ kS => XS.dup X167.here hx rfl (hb hby at_76) rfl rfl kS) ?_
    show own_Comes p e below s _ _ _ (T167.setTop (mkF m 77 #[.val (.int p0), .val (.int p1), .val (.long q2), .second, .val (.long q3), .second, .val (.long q4), .second, .val (.int p5), .val (.long P), .second, .val (.long M), .second, .val (.int D), .val (.int (0 : Int32)), .val (.long LT), .second, .val (.long (P * (1000000 : Int64))), .second, .val (.long (M * (1000000 : Int64))), .second, .unset, .unset, .unset] [(.ref b167), (.ref b167)]))
    obtain ⟨T168, h168, X168, e168, E168, A168, D168, -, st168⟩ := newO X167 hx hZ hown (hw _ (List.mem_of_getElem? (i := 7) rfl)) (hw _ (List.mem_of_getElem? (i := 8) rfl)) (hw _ (List.mem_of_getElem? (i := 9) rfl)) e167 (g := (mkF m 77 #[.val (.int p0), .val (.int p1), .val (.long q2), .second, .val (.long q3), .second, .val (.long q4), .second, .val (.int p5), .val (.long P), .second, .val (.long M), .second, .val (.int D), .val (.int (0 : Int32)), .val (.long LT), .second, .val (.long (P * (1000000 : Int64))), .second, .val (.long (M * (1000000 : Int64))), .second, .unset, .unset, .unset] [(.ref b167), (.ref b167)])) rfl (hb hby at_77) (by decide) (by decide)
    obtain ⟨b168, g168⟩ : ∃ z, z = h167.size := ⟨_, rfl⟩
    rw [← g168] at A168 D168 st168
    have g_b168 : n0 ≤ b168 := Nat.le_trans (Nat.le_trans Z0 E167.1) (Nat.le_of_eq g168.symm)
    refine own_by st168 ?_
    show own_Comes p e below s _ _ _ (T168.setTop (mkF m 80 #[.val (.int p0), .val (.int p1), .val (.long q2), .second, .val (.long q3), .second, .val (.long q4), .second, .val (.int p5), .val (.long P), .second, .val (.long M), .second, .val (.int D), .val (.int (0 : Int32)), .val (.long LT), .second, .val (.long (P * (1000000 : Int64))), .second, .val (.long (M * (1000000 : Int64))), .second, .unset, .unset, .unset] [(.ref b168), (.ref b167), (.ref b167)]))
    refine own_by (fun _ kS => XS.dup X168.here hx rfl (hb hby at_80) rfl rfl kS) ?_
    show own_Comes p e below s _ _ _ (T168.setTop (mkF m 81 #[.val (.int p0), .val (.int p1), .val (.long q2), .second, .val (.long q3), .second, .val (.long q4), .second, .val (.int p5), .val (.long P), .second, .val (.long M), .second, .val (.int D), .val (.int (0 : Int32)), .val (.long LT), .second, .val (.long (P * (1000000 : Int64))), .second, .val (.long (M * (1000000 : Int64))), .second, .unset, .unset, .unset] [(.ref b168), (.ref b168), (.ref b167), (.ref b167)]))
    refine own_by (fun _ kS => XS.lload X168.here hx rfl (hb hby at_81) rfl kS) ?_
    show own_Comes p e below s _ _ _ (T168.setTop (mkF m 83 #[.val (.int p0), .val (.int p1), .val (.long q2), .second, .val (.long q3), .second, .val (.long q4), .second, .val (.int p5), .val (.long P), .second, .val (.long M), .second, .val (.int D), .val (.int (0 : Int32)), .val (.long LT), .second, .val (.long (P * (1000000 : Int64))), .second, .val (.long (M * (1000000 : Int64))), .second, .unset, .unset, .unset] [(.long P), (.ref b168), (.ref b168), (.ref b167), (.ref b167)]))
    refine own_by (fun _ kS => XS.lload X168.here hx rfl (hb hby at_83) rfl kS) ?_
    show own_Comes p e below s _ _ _ (T168.setTop (mkF m 85 #[.val (.int p0), .val (.int p1), .val (.long q2), .second, .val (.long q3), .second, .val (.long q4), .second, .val (.int p5), .val (.long P), .second, .val (.long M), .second, .val (.int D), .val (.int (0 : Int32)), .val (.long LT), .second, .val (.long (P * (1000000 : Int64))), .second, .val (.long (M * (1000000 : Int64))), .second, .unset, .unset, .unset] [(.long M), (.long P), (.ref b168), (.ref b168), (.ref b167), (.ref b167)]))
    have f1 : (1 : Int64).toInt = 1 := by decide
    have f0 : (0 : Int64).toInt = 0 := by decide
    have f3 : (3600000 : Int64).toInt = 3600000 := by decide
    have f4 := own_f4 P kP
    have ne169 : b167 ≠ b168 := Nat.ne_of_lt (Nat.lt_of_lt_of_le (A167.lt) (Nat.le_of_eq g168.symm))
    have ne169m : ms ≠ b168 := ne_exa ((Em.ext E167).ext E168) A168 (by decide)
    have ne169n : ms ≠ b167 := ne_exa ((Em.ext E167).ext E168) (A167.ext E168) (by decide)
    have u1 : ¬ P < (1 : Int64) := own_lt64 (by rw [f1]; exact kP.1)
    have u2 : ¬ M < (0 : Int64) := own_lt64 (by rw [f0]; exact kM.1)
    have u3 : ¬ (3600000 : Int64) < P := own_lt64 (by rw [f3]; exact kP.2)
    have u4 : ¬ ((3600000 : Int64) - P) < M := own_lt64 (by rw [f4]; exact kM.2)
    have u5 : 0 ≤ P.toInt ∧ P.toInt ≤ 3600000 := ⟨Int.le_trans (by decide) kP.1, kP.2⟩
    have u6 : 0 ≤ M.toInt ∧ M.toInt ≤ 3600000 := ⟨kM.1, Int.le_trans kM.2 (Int.sub_le_self _ u5.1)⟩
    obtain ⟨_, _, ⟨T170, L170, k170, n170⟩, -, X170, ⟨Lc170, hQ170, l170, y170, z170⟩, st170⟩ := X168.specialBack hx (y := (⟨"com/example/hetman/hetman/HeartbeatTiming", "<init>", "(JJ)V"⟩ : MethodName)) rfl hown (mvT hZ (hw _ (List.mem_of_getElem? (i := 10) rfl))) (mvT hZ (hw _ (List.mem_of_getElem? (i := 11) rfl))) (mvT hZ (hw _ (List.mem_of_getElem? (i := 12) rfl))) (by decide) (backOf (W := 3) (rm1 l Z a0 hw [] b168 P M (.long 0) (.long 0) h168 n0 (Nat.le_trans (Nat.le_trans Z0 E167.1) E168.1) A168 (D168 (Or.inr (hw _ (List.mem_of_getElem? (i := 23) rfl))) (ty := .long) (by decide)) (D168 (Or.inr (hw _ (List.mem_of_getElem? (i := 25) rfl))) (ty := .long) (by decide)) g_b168 u1 u2 u3 u4) hZ (hw _ (List.mem_of_getElem? (i := 12) rfl)) (hw _ (List.mem_of_getElem? (i := 9) rfl)) (by decide) (by decide)) (g := (mkF m 85 #[.val (.int p0), .val (.int p1), .val (.long q2), .second, .val (.long q3), .second, .val (.long q4), .second, .val (.int p5), .val (.long P), .second, .val (.long M), .second, .val (.int D), .val (.int (0 : Int32)), .val (.long LT), .second, .val (.long (P * (1000000 : Int64))), .second, .val (.long (M * (1000000 : Int64))), .second, .unset, .unset, .unset] [(.long M), (.long P), (.ref b168), (.ref b168), (.ref b167), (.ref b167)])) rfl (by rw [hml]; rfl) (Steps.refl _) (a := b168) (argsL := [(.long P), (.long M)]) (rest := [(.ref b168), (.ref b167), (.ref b167)]) (lenOf pd__JJ_V_315 rfl) rfl (by show 2 * 0 + _ ≤ _; exact Nat.le_of_eq rfl) (hb hby at_85) (fun _ _ => ⟨rfl, e168, (by decide : 2 + 0 ≤ _), (by decide : 12 + 0 ≤ _)⟩)
    dsimp only [Pt.U, Pt.locs, Pt.cells, Pt.slots] at X170 l170 y170 z170 st170 hQ170
    subst l170 y170 z170
    obtain ⟨rfl, N170q, K170, Fp170, Fm170⟩ := hQ170
    have N170 := Fr.app N0 N170q
    refine own_tr st170 ?_
    show own_Comes p e below s _ _ _ (T170.setTop (mkF m 88 #[.val (.int p0), .val (.int p1), .val (.long q2), .second, .val (.long q3), .second, .val (.long q4), .second, .val (.int p5), .val (.long P), .second, .val (.long M), .second, .val (.int D), .val (.int (0 : Int32)), .val (.long LT), .second, .val (.long (P * (1000000 : Int64))), .second, .val (.long (M * (1000000 : Int64))), .second, .unset, .unset, .unset] [(.ref b168), (.ref b167), (.ref b167)]))
    have sz_b168 : h0.size ≤ b168 := Nat.le_trans (Nat.le_trans (Nat.le_refl _) E167.1) (Nat.le_of_eq g168.symm)
    have EE169 : Ext h0 T170.heap := own_ext ((((Keep.refl h0 []).ext E167).ext E168).trans K170 (allS (Or.inr sz_b168) all0))
    refine own_by (fun _ kS => XS.iload X170.here hx rfl (hb hby at_88) rfl kS) ?_
    show own_Comes p e below s _ _ _ (T170.setTop (mkF m 90 #[.val (.int p0), .val (.int p1), .val (.long q2), .second, .val (.long q3), .second, .val (.long q4), .second, .val (.int p5), .val (.long P), .second, .val (.long M), .second, .val (.int D), .val (.int (0 : Int32)), .val (.long LT), .second, .val (.long (P * (1000000 : Int64))), .second, .val (.long (M * (1000000 : Int64))), .second, .unset, .unset, .unset] [(.int D), (.ref b168), (.ref b167), (.ref b167)]))
    have c171 := (((D167 (Or.inr (hw _ (List.mem_of_getElem? (i := 47) rfl))) (ty := .long) (by decide)).ext E168).keep K170 (ninS ne169 nin0))
    have c172 := (((D167 (Or.inr (hw _ (List.mem_of_getElem? (i := 54) rfl))) (ty := .long) (by decide)).ext E168).keep K170 (ninS ne169 nin0))
    have c173 := (((D167 (Or.inr (hw _ (List.mem_of_getElem? (i := 57) rfl))) (ty := (.array .long)) (by decide)).ext E168).keep K170 (ninS ne169 nin0))
    have c174 := (((D167 (Or.inr (hw _ (List.mem_of_getElem? (i := 59) rfl))) (ty := (.array .long)) (by decide)).ext E168).keep K170 (ninS ne169 nin0))
    have c175 := (((D167 (Or.inl (hw _ (List.mem_of_getElem? (i := 82) rfl))) (ty := .long) (by decide)).ext E168).keep K170 (ninS ne169 nin0))
    have c176 := (((D167 (Or.inl (hw _ (List.mem_of_getElem? (i := 66) rfl))) (ty := .int) (by decide)).ext E168).keep K170 (ninS ne169 nin0))
    have c177 := (((D167 (Or.inl (hw _ (List.mem_of_getElem? (i := 68) rfl))) (ty := .int) (by decide)).ext E168).keep K170 (ninS ne169 nin0))
    have c178 := (((D167 (Or.inl (hw _ (List.mem_of_getElem? (i := 70) rfl))) (ty := .long) (by decide)).ext E168).keep K170 (ninS ne169 nin0))
    have c179 := (((D167 (Or.inl (hw _ (List.mem_of_getElem? (i := 102) rfl))) (ty := .long) (by decide)).ext E168).keep K170 (ninS ne169 nin0))
    have c180 := (((D167 (Or.inl (hw _ (List.mem_of_getElem? (i := 104) rfl))) (ty := .long) (by decide)).ext E168).keep K170 (ninS ne169 nin0))
    have c181 := (((Fs.ext E167).ext E168).keep K170 (ninS ne169m nin0))
    have c182 := (((Fx.ext E167).ext E168).keep K170 (ninS ne169m nin0))
    obtain ⟨_, _, ⟨T183, L183, k183, n183⟩, -, X183, ⟨Lc183, hQ183, l183, y183, z183⟩, st183⟩ := X170.specialBack hx (y := (⟨"com/example/hetman/hetman/peer/ArrivalEstimator", "<init>", "(Lcom/example/hetman/hetman/HeartbeatTiming;I)V"⟩ : MethodName)) rfl hown (mvT hZ (hw _ (List.mem_of_getElem? (i := 26) rfl))) (mvT hZ (hw _ (List.mem_of_getElem? (i := 27) rfl))) (mvT hZ (hw _ (List.mem_of_getElem? (i := 28) rfl))) (by decide) (backOf (W := 1) (rm4 l Z a0 hw [] b167 b168 D P M ms T170.heap n0 (Nat.le_trans (Nat.le_trans (Nat.le_trans Z0 E167.1) E168.1) K170.1) ((A167.ext E168).keep K170) c171 c172 c173 c174 c175 c176 c177 c178 c179 c180 (A168.keep K170) Fp170 Fm170 (Sm.ext EE169) (((Em.ext E167).ext E168).keep K170) c181 c182 g_b167 kD u5 u6) hZ (hw _ (List.mem_of_getElem? (i := 28) rfl)) (hw _ (List.mem_of_getElem? (i := 6) rfl)) (by decide) (by decide)) (g := (mkF m 90 #[.val (.int p0), .val (.int p1), .val (.long q2), .second, .val (.long q3), .second, .val (.long q4), .second, .val (.int p5), .val (.long P), .second, .val (.long M), .second, .val (.int D), .val (.int (0 : Int32)), .val (.long LT), .second, .val (.long (P * (1000000 : Int64))), .second, .val (.long (M * (1000000 : Int64))), .second, .unset, .unset, .unset] [(.int D), (.ref b168), (.ref b167), (.ref b167)])) rfl (by rw [hml]; rfl) (Steps.refl _) (a := b167) (argsL := [(.ref b168), (.int D)]) (rest := [(.ref b167)]) (lenOf pd__Lcom_example_hetman_hetman_HeartbeatTiming_I_V_444 rfl) rfl (by show 2 * 0 + _ ≤ _; exact Nat.le_of_eq rfl) (hb hby at_90) (fun _ _ => ⟨rfl, rfl, (by decide : 2 + 2 ≤ _), (by decide : 12 + 16 ≤ _)⟩)
    dsimp only [Pt.U, Pt.locs, Pt.cells, Pt.slots] at X183 l183 y183 z183 st183 hQ183
    subst l183 y183 z183
    obtain ⟨rfl, N183q, K183, o183, t183, ko183, kt183, vt183, go183, gt183, hA183⟩ := hQ183
    have N183 := Fr.app N170 N183q
    refine own_tr st183 ?_
    show own_Comes p e below s _ _ _ (T183.setTop (mkF m 93 #[.val (.int p0), .val (.int p1), .val (.long q2), .second, .val (.long q3), .second, .val (.long q4), .second, .val (.int p5), .val (.long P), .second, .val (.long M), .second, .val (.int D), .val (.int (0 : Int32)), .val (.long LT), .second, .val (.long (P * (1000000 : Int64))), .second, .val (.long (M * (1000000 : Int64))), .second, .unset, .unset, .unset] [(.ref b167)]))
    refine own_by (fun _ kS => XS.astore X183.here hx rfl (hb hby at_93) rfl rfl (l' := #[.val (.int p0), .val (.int p1), .val (.long q2), .second, .val (.long q3), .second, .val (.long q4), .second, .val (.int p5), .val (.long P), .second, .val (.long M), .second, .val (.int D), .val (.int (0 : Int32)), .val (.long LT), .second, .val (.long (P * (1000000 : Int64))), .second, .val (.long (M * (1000000 : Int64))), .second, .val (.ref b167), .unset, .unset]) rfl kS) ?_
    show own_Comes p e below s _ _ _ (T183.setTop (mkF m 95 #[.val (.int p0), .val (.int p1), .val (.long q2), .second, .val (.long q3), .second, .val (.long q4), .second, .val (.int p5), .val (.long P), .second, .val (.long M), .second, .val (.int D), .val (.int (0 : Int32)), .val (.long LT), .second, .val (.long (P * (1000000 : Int64))), .second, .val (.long (M * (1000000 : Int64))), .second, .val (.ref b167), .unset, .unset] []))
    refine own_by (fun _ kS => XS.iload X183.here hx rfl (hb hby at_95) rfl kS) ?_
    show own_Comes p e below s _ _ _ (T183.setTop (mkF m 97 #[.val (.int p0), .val (.int p1), .val (.long q2), .second, .val (.long q3), .second, .val (.long q4), .second, .val (.int p5), .val (.long P), .second, .val (.long M), .second, .val (.int D), .val (.int (0 : Int32)), .val (.long LT), .second, .val (.long (P * (1000000 : Int64))), .second, .val (.long (M * (1000000 : Int64))), .second, .val (.ref b167), .unset, .unset] [(.int (0 : Int32))]))
    have hb184 : (0 : Int32) = (0 : Int32) := by decide
    refine own_by (fun _ kS => XS.ifYes X183.here hx rfl (pc0 := 97) (pc' := 111) rfl (hb hby at_97) rfl ((if0 _ _).trans (teq hb184).1) (by decide) (by decide) kS) ?_
    show own_Comes p e below s _ _ _ (T183.setTop (mkF m 111 #[.val (.int p0), .val (.int p1), .val (.long q2), .second, .val (.long q3), .second, .val (.long q4), .second, .val (.int p5), .val (.long P), .second, .val (.long M), .second, .val (.int D), .val (.int (0 : Int32)), .val (.long LT), .second, .val (.long (P * (1000000 : Int64))), .second, .val (.long (M * (1000000 : Int64))), .second, .val (.ref b167), .unset, .unset] []))
    refine own_by (fun _ kS => XS.aload X183.here hx rfl (hb hby at_111) rfl rfl kS) ?_
    show own_Comes p e below s _ _ _ (T183.setTop (mkF m 113 #[.val (.int p0), .val (.int p1), .val (.long q2), .second, .val (.long q3), .second, .val (.long q4), .second, .val (.int p5), .val (.long P), .second, .val (.long M), .second, .val (.int D), .val (.int (0 : Int32)), .val (.long LT), .second, .val (.long (P * (1000000 : Int64))), .second, .val (.long (M * (1000000 : Int64))), .second, .val (.ref b167), .unset, .unset] [(.ref b167)]))
    refine own_by (fun _ kS => XS.lloadN X183.here hx rfl (hb hby at_113) rfl kS) ?_
    show own_Comes p e below s _ _ _ (T183.setTop (mkF m 114 #[.val (.int p0), .val (.int p1), .val (.long q2), .second, .val (.long q3), .second, .val (.long q4), .second, .val (.int p5), .val (.long P), .second, .val (.long M), .second, .val (.int D), .val (.int (0 : Int32)), .val (.long LT), .second, .val (.long (P * (1000000 : Int64))), .second, .val (.long (M * (1000000 : Int64))), .second, .val (.ref b167), .unset, .unset] [(.long q2), (.ref b167)]))
    obtain ⟨cq185, kq185, q185a, q185b, q185c⟩ := isOf hZ rfl hA183.1
    obtain ⟨_, _, ⟨T185, L185, k185, n185⟩, -, X185, ⟨Lc185, hQ185, l185, y185, z185⟩, st185⟩ := X183.virtualBack hx (y := (⟨"com/example/hetman/hetman/peer/ArrivalEstimator", "restart", "(J)V"⟩ : MethodName)) (z := (⟨"com/example/hetman/hetman/peer/ArrivalEstimator", "restart", "(J)V"⟩ : MethodName)) hown (mvT hZ (hw _ (List.mem_of_getElem? (i := 60) rfl))) (mvT hZ (hw _ (List.mem_of_getElem? (i := 61) rfl))) (notFace_of_selects (args := #[]) (mvT hZ (hw _ (List.mem_of_getElem? (i := 63) rfl)))) (mvT hZ (hw _ (List.mem_of_getElem? (i := 63) rfl))) (mvT hZ (hw _ (List.mem_of_getElem? (i := 62) rfl))) (by decide) (backOf (W := 0) (rm8 l Z a0 hw [] b167 q2 (P * (1000000 : Int64)) (M * (1000000 : Int64)) o183 t183 ko183 kt183 D vt183 (0 : Int64) (0 : Int32) (0 : Int32) (0 : Int64) T183.heap n0 (Nat.le_trans (Nat.le_trans (Nat.le_trans (Nat.le_trans Z0 E167.1) E168.1) K170.1) K183.1) hA183 g_b167) hZ (hw _ (List.mem_of_getElem? (i := 64) rfl)) (hw _ (List.mem_of_getElem? (i := 6) rfl)) (by decide) (by decide)) q185a q185c (g := (mkF m 114 #[.val (.int p0), .val (.int p1), .val (.long q2), .second, .val (.long q3), .second, .val (.long q4), .second, .val (.int p5), .val (.long P), .second, .val (.long M), .second, .val (.int D), .val (.int (0 : Int32)), .val (.long LT), .second, .val (.long (P * (1000000 : Int64))), .second, .val (.long (M * (1000000 : Int64))), .second, .val (.ref b167), .unset, .unset] [(.long q2), (.ref b167)])) rfl (by rw [hml]; rfl) (Steps.refl _) (argsL := [(.long q2)]) (rest := []) (lenOf pd__J_V_241 rfl) rfl (by show 2 * 0 + _ ≤ _; exact Nat.le_of_eq rfl) (hb hby at_114) (fun _ _ => ⟨rfl, rfl, (by decide : 4 + 0 ≤ _), (by decide : 28 + 0 ≤ _)⟩)
    dsimp only [Pt.U, Pt.locs, Pt.cells, Pt.slots] at X185 l185 y185 z185 st185 hQ185
    subst l185 y185 z185
    obtain ⟨rfl, N185q, K185, hA185⟩ := hQ185
    have N185 := Fr.app N183 N185q
    refine own_tr st185 ?_
    show own_Comes p e below s _ _ _ (T185.setTop (mkF m 117 #[.val (.int p0), .val (.int p1), .val (.long q2), .second, .val (.long q3), .second, .val (.long q4), .second, .val (.int p5), .val (.long P), .second, .val (.long M), .second, .val (.int D), .val (.int (0 : Int32)), .val (.long LT), .second, .val (.long (P * (1000000 : Int64))), .second, .val (.long (M * (1000000 : Int64))), .second, .val (.ref b167), .unset, .unset] []))
    refine own_by (fun _ kS => XS.aload X185.here hx rfl (hb hby at_117) rfl rfl kS) ?_
    show own_Comes p e below s _ _ _ (T185.setTop (mkF m 119 #[.val (.int p0), .val (.int p1), .val (.long q2), .second, .val (.long q3), .second, .val (.long q4), .second, .val (.int p5), .val (.long P), .second, .val (.long M), .second, .val (.int D), .val (.int (0 : Int32)), .val (.long LT), .second, .val (.long (P * (1000000 : Int64))), .second, .val (.long (M * (1000000 : Int64))), .second, .val (.ref b167), .unset, .unset] [(.ref b167)]))
    obtain ⟨cq186, kq186, q186a, q186b, q186c⟩ := isOf hZ rfl hA185.1
    obtain ⟨_, _, ⟨T186, L186, k186, n186⟩, -, X186, ⟨Lc186, hQ186, l186, y186, z186⟩, st186⟩ := X185.virtualBack hx (y := (⟨"com/example/hetman/hetman/peer/ArrivalEstimator", "freshnessNanos", "()J"⟩ : MethodName)) (z := (⟨"com/example/hetman/hetman/peer/ArrivalEstimator", "freshnessNanos", "()J"⟩ : MethodName)) hown (mvT hZ (hw _ (List.mem_of_getElem? (i := 71) rfl))) (mvT hZ (hw _ (List.mem_of_getElem? (i := 72) rfl))) (notFace_of_selects (args := #[]) (mvT hZ (hw _ (List.mem_of_getElem? (i := 74) rfl)))) (mvT hZ (hw _ (List.mem_of_getElem? (i := 74) rfl))) (mvT hZ (hw _ (List.mem_of_getElem? (i := 73) rfl))) (by decide) (backOf (W := 0) (rm9 l Z a0 hw [] b167 ((q2 + (P * (1000000 : Int64))) + (M * (1000000 : Int64))) T185.heap n0 (Nat.le_trans (Nat.le_trans (Nat.le_trans (Nat.le_trans (Nat.le_trans Z0 E167.1) E168.1) K170.1) K183.1) K185.1) hA185.2.2.2.2.2.2.2.2.1) hZ (hw _ (List.mem_of_getElem? (i := 75) rfl)) (hw _ (List.mem_of_getElem? (i := 6) rfl)) (by decide) (by decide)) q186a q186c (g := (mkF m 119 #[.val (.int p0), .val (.int p1), .val (.long q2), .second, .val (.long q3), .second, .val (.long q4), .second, .val (.int p5), .val (.long P), .second, .val (.long M), .second, .val (.int D), .val (.int (0 : Int32)), .val (.long LT), .second, .val (.long (P * (1000000 : Int64))), .second, .val (.long (M * (1000000 : Int64))), .second, .val (.ref b167), .unset, .unset] [(.ref b167)])) rfl (by rw [hml]; rfl) (Steps.refl _) (argsL := []) (rest := []) (lenOf pd___J_155 rfl) rfl (by show 2 * 0 + _ ≤ _; exact Nat.le_of_eq rfl) (hb hby at_119) (fun _ _ => ⟨rfl, rfl, (by decide : 4 + 0 ≤ _), (by decide : 28 + 0 ≤ _)⟩)
    dsimp only [Pt.U, Pt.locs, Pt.cells, Pt.slots] at X186 l186 y186 z186 st186 hQ186
    subst l186 y186 z186
    obtain ⟨rfl, N186q, e186q⟩ := hQ186
    have N186 := Fr.app N185 N186q
    refine own_tr st186 ?_
    have e186 : T186.heap = T185.heap := e186q
    show own_Comes p e below s _ _ _ (T186.setTop (mkF m 122 #[.val (.int p0), .val (.int p1), .val (.long q2), .second, .val (.long q3), .second, .val (.long q4), .second, .val (.int p5), .val (.long P), .second, .val (.long M), .second, .val (.int D), .val (.int (0 : Int32)), .val (.long LT), .second, .val (.long (P * (1000000 : Int64))), .second, .val (.long (M * (1000000 : Int64))), .second, .val (.ref b167), .unset, .unset] [(.long ((q2 + (P * (1000000 : Int64))) + (M * (1000000 : Int64))))]))
    refine own_by (fun _ kS => XS.lloadN X186.here hx rfl (hb hby at_122) rfl kS) ?_
    show own_Comes p e below s _ _ _ (T186.setTop (mkF m 123 #[.val (.int p0), .val (.int p1), .val (.long q2), .second, .val (.long q3), .second, .val (.long q4), .second, .val (.int p5), .val (.long P), .second, .val (.long M), .second, .val (.int D), .val (.int (0 : Int32)), .val (.long LT), .second, .val (.long (P * (1000000 : Int64))), .second, .val (.long (M * (1000000 : Int64))), .second, .val (.ref b167), .unset, .unset] [(.long q2), (.long ((q2 + (P * (1000000 : Int64))) + (M * (1000000 : Int64))))]))
    refine own_by (fun _ kS => XS.lload X186.here hx rfl (hb hby at_123) rfl kS) ?_
    show own_Comes p e below s _ _ _ (T186.setTop (mkF m 125 #[.val (.int p0), .val (.int p1), .val (.long q2), .second, .val (.long q3), .second, .val (.long q4), .second, .val (.int p5), .val (.long P), .second, .val (.long M), .second, .val (.int D), .val (.int (0 : Int32)), .val (.long LT), .second, .val (.long (P * (1000000 : Int64))), .second, .val (.long (M * (1000000 : Int64))), .second, .val (.ref b167), .unset, .unset] [(.long (P * (1000000 : Int64))), (.long q2), (.long ((q2 + (P * (1000000 : Int64))) + (M * (1000000 : Int64))))]))
    refine own_by (fun _ kS => XS.ladd X186.here hx rfl (hb hby at_125) rfl kS) ?_
    show own_Comes p e below s _ _ _ (T186.setTop (mkF m 126 #[.val (.int p0), .val (.int p1), .val (.long q2), .second, .val (.long q3), .second, .val (.long q4), .second, .val (.int p5), .val (.long P), .second, .val (.long M), .second, .val (.int D), .val (.int (0 : Int32)), .val (.long LT), .second, .val (.long (P * (1000000 : Int64))), .second, .val (.long (M * (1000000 : Int64))), .second, .val (.ref b167), .unset, .unset] [(.long (q2 + (P * (1000000 : Int64)))), (.long ((q2 + (P * (1000000 : Int64))) + (M * (1000000 : Int64))))]))
    refine own_by (fun _ kS => XS.lload X186.here hx rfl (hb hby at_126) rfl kS) ?_
    show own_Comes p e below s _ _ _ (T186.setTop (mkF m 128 #[.val (.int p0), .val (.int p1), .val (.long q2), .second, .val (.long q3), .second, .val (.long q4), .second, .val (.int p5), .val (.long P), .second, .val (.long M), .second, .val (.int D), .val (.int (0 : Int32)), .val (.long LT), .second, .val (.long (P * (1000000 : Int64))), .second, .val (.long (M * (1000000 : Int64))), .second, .val (.ref b167), .unset, .unset] [(.long (M * (1000000 : Int64))), (.long (q2 + (P * (1000000 : Int64)))), (.long ((q2 + (P * (1000000 : Int64))) + (M * (1000000 : Int64))))]))
    refine own_by (fun _ kS => XS.ladd X186.here hx rfl (hb hby at_128) rfl kS) ?_
    show own_Comes p e below s _ _ _ (T186.setTop (mkF m 129 #[.val (.int p0), .val (.int p1), .val (.long q2), .second, .val (.long q3), .second, .val (.long q4), .second, .val (.int p5), .val (.long P), .second, .val (.long M), .second, .val (.int D), .val (.int (0 : Int32)), .val (.long LT), .second, .val (.long (P * (1000000 : Int64))), .second, .val (.long (M * (1000000 : Int64))), .second, .val (.ref b167), .unset, .unset] [(.long ((q2 + (P * (1000000 : Int64))) + (M * (1000000 : Int64)))), (.long ((q2 + (P * (1000000 : Int64))) + (M * (1000000 : Int64))))]))
    refine own_by (fun _ kS => XS.lcmp X186.here hx rfl (hb hby at_129) rfl kS) ?_
    show own_Comes p e below s _ _ _ (T186.setTop (mkF m 130 #[.val (.int p0), .val (.int p1), .val (.long q2), .second, .val (.long q3), .second, .val (.long q4), .second, .val (.int p5), .val (.long P), .second, .val (.long M), .second, .val (.int D), .val (.int (0 : Int32)), .val (.long LT), .second, .val (.long (P * (1000000 : Int64))), .second, .val (.long (M * (1000000 : Int64))), .second, .val (.ref b167), .unset, .unset] [(.int (lcmpW ((q2 + (P * (1000000 : Int64))) + (M * (1000000 : Int64))) ((q2 + (P * (1000000 : Int64))) + (M * (1000000 : Int64)))))]))
    have hb187 : (lcmpW ((q2 + (P * (1000000 : Int64))) + (M * (1000000 : Int64))) ((q2 + (P * (1000000 : Int64))) + (M * (1000000 : Int64)))) = (0 : Int32) := (lw_eq _ _).mpr rfl
    refine own_by (fun _ kS => XS.ifNo X186.here hx rfl (hb hby at_130) rfl ((if0 _ _).trans (teq hb187).2) kS) ?_
    show own_Comes p e below s _ _ _ (T186.setTop (mkF m 133 #[.val (.int p0), .val (.int p1), .val (.long q2), .second, .val (.long q3), .second, .val (.long q4), .second, .val (.int p5), .val (.long P), .second, .val (.long M), .second, .val (.int D), .val (.int (0 : Int32)), .val (.long LT), .second, .val (.long (P * (1000000 : Int64))), .second, .val (.long (M * (1000000 : Int64))), .second, .val (.ref b167), .unset, .unset] []))
    refine own_by (fun _ kS => XS.iconst X186.here hx rfl (hb hby at_133) kS) ?_
    show own_Comes p e below s _ _ _ (T186.setTop (mkF m 134 #[.val (.int p0), .val (.int p1), .val (.long q2), .second, .val (.long q3), .second, .val (.long q4), .second, .val (.int p5), .val (.long P), .second, .val (.long M), .second, .val (.int D), .val (.int (0 : Int32)), .val (.long LT), .second, .val (.long (P * (1000000 : Int64))), .second, .val (.long (M * (1000000 : Int64))), .second, .val (.ref b167), .unset, .unset] [(.int (1 : Int32))]))
    refine own_by (fun _ kS => XS.goto X186.here hx rfl (pc0 := 134) (pc' := 138) rfl (hb hby at_134) (by decide) (by decide) kS) ?_
    show own_Comes p e below s _ _ _ (T186.setTop (mkF m 138 #[.val (.int p0), .val (.int p1), .val (.long q2), .second, .val (.long q3), .second, .val (.long q4), .second, .val (.int p5), .val (.long P), .second, .val (.long M), .second, .val (.int D), .val (.int (0 : Int32)), .val (.long LT), .second, .val (.long (P * (1000000 : Int64))), .second, .val (.long (M * (1000000 : Int64))), .second, .val (.ref b167), .unset, .unset] [(.int (1 : Int32))]))
    refine own_by (fun _ kS => XS.istore X186.here hx rfl (hb hby at_138) rfl (l' := #[.val (.int p0), .val (.int p1), .val (.long q2), .second, .val (.long q3), .second, .val (.long q4), .second, .val (.int p5), .val (.long P), .second, .val (.long M), .second, .val (.int D), .val (.int (0 : Int32)), .val (.long LT), .second, .val (.long (P * (1000000 : Int64))), .second, .val (.long (M * (1000000 : Int64))), .second, .val (.ref b167), .val (.int (1 : Int32)), .unset]) rfl kS) ?_
    show own_Comes p e below s _ _ _ (T186.setTop (mkF m 140 #[.val (.int p0), .val (.int p1), .val (.long q2), .second, .val (.long q3), .second, .val (.long q4), .second, .val (.int p5), .val (.long P), .second, .val (.long M), .second, .val (.int D), .val (.int (0 : Int32)), .val (.long LT), .second, .val (.long (P * (1000000 : Int64))), .second, .val (.long (M * (1000000 : Int64))), .second, .val (.ref b167), .val (.int (1 : Int32)), .unset] []))
    refine own_by (fun _ kS => XS.aload X186.here hx rfl (hb hby at_140) rfl rfl kS) ?_
    show own_Comes p e below s _ _ _ (T186.setTop (mkF m 142 #[.val (.int p0), .val (.int p1), .val (.long q2), .second, .val (.long q3), .second, .val (.long q4), .second, .val (.int p5), .val (.long P), .second, .val (.long M), .second, .val (.int D), .val (.int (0 : Int32)), .val (.long LT), .second, .val (.long (P * (1000000 : Int64))), .second, .val (.long (M * (1000000 : Int64))), .second, .val (.ref b167), .val (.int (1 : Int32)), .unset] [(.ref b167)]))
    refine own_by (fun _ kS => XS.lload X186.here hx rfl (hb hby at_142) rfl kS) ?_
    show own_Comes p e below s _ _ _ (T186.setTop (mkF m 144 #[.val (.int p0), .val (.int p1), .val (.long q2), .second, .val (.long q3), .second, .val (.long q4), .second, .val (.int p5), .val (.long P), .second, .val (.long M), .second, .val (.int D), .val (.int (0 : Int32)), .val (.long LT), .second, .val (.long (P * (1000000 : Int64))), .second, .val (.long (M * (1000000 : Int64))), .second, .val (.ref b167), .val (.int (1 : Int32)), .unset] [(.long q3), (.ref b167)]))
    refine own_by (fun _ kS => XS.lload X186.here hx rfl (hb hby at_144) rfl kS) ?_
    show own_Comes p e below s _ _ _ (T186.setTop (mkF m 146 #[.val (.int p0), .val (.int p1), .val (.long q2), .second, .val (.long q3), .second, .val (.long q4), .second, .val (.int p5), .val (.long P), .second, .val (.long M), .second, .val (.int D), .val (.int (0 : Int32)), .val (.long LT), .second, .val (.long (P * (1000000 : Int64))), .second, .val (.long (M * (1000000 : Int64))), .second, .val (.ref b167), .val (.int (1 : Int32)), .unset] [(.long q4), (.long q3), (.ref b167)]))
    refine own_by (fun _ kS => XS.lload X186.here hx rfl (hb hby at_146) rfl kS) ?_
    show own_Comes p e below s _ _ _ (T186.setTop (mkF m 148 #[.val (.int p0), .val (.int p1), .val (.long q2), .second, .val (.long q3), .second, .val (.long q4), .second, .val (.int p5), .val (.long P), .second, .val (.long M), .second, .val (.int D), .val (.int (0 : Int32)), .val (.long LT), .second, .val (.long (P * (1000000 : Int64))), .second, .val (.long (M * (1000000 : Int64))), .second, .val (.ref b167), .val (.int (1 : Int32)), .unset] [(.long LT), (.long q4), (.long q3), (.ref b167)]))
    obtain ⟨cq188, kq188, q188a, q188b, q188c⟩ := isOf hZ e186 hA185.1
    obtain ⟨_, _, ⟨T188, L188, k188, n188⟩, -, X188, ⟨Lc188, hQ188, l188, y188, z188⟩, st188⟩ := X186.virtualBack hx (y := (⟨"com/example/hetman/hetman/peer/ArrivalEstimator", "heard", "(JJJ)V"⟩ : MethodName)) (z := (⟨"com/example/hetman/hetman/peer/ArrivalEstimator", "heard", "(JJJ)V"⟩ : MethodName)) hown (mvT hZ (hw _ (List.mem_of_getElem? (i := 76) rfl))) (mvT hZ (hw _ (List.mem_of_getElem? (i := 77) rfl))) (notFace_of_selects (args := #[]) (mvT hZ (hw _ (List.mem_of_getElem? (i := 79) rfl)))) (mvT hZ (hw _ (List.mem_of_getElem? (i := 79) rfl))) (mvT hZ (hw _ (List.mem_of_getElem? (i := 78) rfl))) (by decide) (backOf (W := 0) (rm10 l Z a0 hw [] b167 q3 q4 LT (P * (1000000 : Int64)) (M * (1000000 : Int64)) o183 t183 ko183 kt183 D vt183 (0 : Int64) ((q2 + (P * (1000000 : Int64))) + (M * (1000000 : Int64))) T185.heap n0 (Nat.le_trans (Nat.le_trans (Nat.le_trans (Nat.le_trans (Nat.le_trans Z0 E167.1) E168.1) K170.1) K183.1) K185.1) hA185 g_b167 go183 gt183 kD) hZ (hw _ (List.mem_of_getElem? (i := 80) rfl)) (hw _ (List.mem_of_getElem? (i := 6) rfl)) (by decide) (by decide)) q188a q188c (g := (mkF m 148 #[.val (.int p0), .val (.int p1), .val (.long q2), .second, .val (.long q3), .second, .val (.long q4), .second, .val (.int p5), .val (.long P), .second, .val (.long M), .second, .val (.int D), .val (.int (0 : Int32)), .val (.long LT), .second, .val (.long (P * (1000000 : Int64))), .second, .val (.long (M * (1000000 : Int64))), .second, .val (.ref b167), .val (.int (1 : Int32)), .unset] [(.long LT), (.long q4), (.long q3), (.ref b167)])) rfl (by rw [hml]; rfl) (Steps.refl _) (argsL := [(.long q3), (.long q4), (.long LT)]) (rest := []) (lenOf pd__JJJ_V_389 rfl) rfl (by show 2 * 0 + _ ≤ _; exact Nat.le_of_eq rfl) (hb hby at_148) (fun _ _ => ⟨rfl, e186, (by decide : 4 + 0 ≤ _), (by decide : 28 + 0 ≤ _)⟩)
    dsimp only [Pt.U, Pt.locs, Pt.cells, Pt.slots] at X188 l188 y188 z188 st188 hQ188
    subst l188 y188 z188
    obtain ⟨rfl, N188q, K188, vt188, ba188, cn188, nx188, hA188⟩ := hQ188
    have N188 := Fr.app N186 N188q
    refine own_tr st188 ?_
    show own_Comes p e below s _ _ _ (T188.setTop (mkF m 151 #[.val (.int p0), .val (.int p1), .val (.long q2), .second, .val (.long q3), .second, .val (.long q4), .second, .val (.int p5), .val (.long P), .second, .val (.long M), .second, .val (.int D), .val (.int (0 : Int32)), .val (.long LT), .second, .val (.long (P * (1000000 : Int64))), .second, .val (.long (M * (1000000 : Int64))), .second, .val (.ref b167), .val (.int (1 : Int32)), .unset] []))
    refine own_by (fun _ kS => XS.aload X188.here hx rfl (hb hby at_151) rfl rfl kS) ?_
    show own_Comes p e below s _ _ _ (T188.setTop (mkF m 153 #[.val (.int p0), .val (.int p1), .val (.long q2), .second, .val (.long q3), .second, .val (.long q4), .second, .val (.int p5), .val (.long P), .second, .val (.long M), .second, .val (.int D), .val (.int (0 : Int32)), .val (.long LT), .second, .val (.long (P * (1000000 : Int64))), .second, .val (.long (M * (1000000 : Int64))), .second, .val (.ref b167), .val (.int (1 : Int32)), .unset] [(.ref b167)]))
    obtain ⟨cq189, kq189, q189a, q189b, q189c⟩ := isOf hZ rfl hA188.1
    obtain ⟨_, _, ⟨T189, L189, k189, n189⟩, -, X189, ⟨Lc189, hQ189, l189, y189, z189⟩, st189⟩ := X188.virtualBack hx (y := (⟨"com/example/hetman/hetman/peer/ArrivalEstimator", "freshnessNanos", "()J"⟩ : MethodName)) (z := (⟨"com/example/hetman/hetman/peer/ArrivalEstimator", "freshnessNanos", "()J"⟩ : MethodName)) hown (mvT hZ (hw _ (List.mem_of_getElem? (i := 71) rfl))) (mvT hZ (hw _ (List.mem_of_getElem? (i := 72) rfl))) (notFace_of_selects (args := #[]) (mvT hZ (hw _ (List.mem_of_getElem? (i := 74) rfl)))) (mvT hZ (hw _ (List.mem_of_getElem? (i := 74) rfl))) (mvT hZ (hw _ (List.mem_of_getElem? (i := 73) rfl))) (by decide) (backOf (W := 0) (rm9 l Z a0 hw [] b167 (((q4 - LT) + (P * (1000000 : Int64))) + (M * (1000000 : Int64))) T188.heap n0 (Nat.le_trans (Nat.le_trans (Nat.le_trans (Nat.le_trans (Nat.le_trans (Nat.le_trans Z0 E167.1) E168.1) K170.1) K183.1) K185.1) K188.1) hA188.2.2.2.2.2.2.2.2.1) hZ (hw _ (List.mem_of_getElem? (i := 75) rfl)) (hw _ (List.mem_of_getElem? (i := 6) rfl)) (by decide) (by decide)) q189a q189c (g := (mkF m 153 #[.val (.int p0), .val (.int p1), .val (.long q2), .second, .val (.long q3), .second, .val (.long q4), .second, .val (.int p5), .val (.long P), .second, .val (.long M), .second, .val (.int D), .val (.int (0 : Int32)), .val (.long LT), .second, .val (.long (P * (1000000 : Int64))), .second, .val (.long (M * (1000000 : Int64))), .second, .val (.ref b167), .val (.int (1 : Int32)), .unset] [(.ref b167)])) rfl (by rw [hml]; rfl) (Steps.refl _) (argsL := []) (rest := []) (lenOf pd___J_155 rfl) rfl (by show 2 * 0 + _ ≤ _; exact Nat.le_of_eq rfl) (hb hby at_153) (fun _ _ => ⟨rfl, rfl, (by decide : 4 + 0 ≤ _), (by decide : 28 + 0 ≤ _)⟩)
    dsimp only [Pt.U, Pt.locs, Pt.cells, Pt.slots] at X189 l189 y189 z189 st189 hQ189
    subst l189 y189 z189
    obtain ⟨rfl, N189q, e189q⟩ := hQ189
    have N189 := Fr.app N188 N189q
    refine own_tr st189 ?_
    have e189 : T189.heap = T188.heap := e189q
    show own_Comes p e below s _ _ _ (T189.setTop (mkF m 156 #[.val (.int p0), .val (.int p1), .val (.long q2), .second, .val (.long q3), .second, .val (.long q4), .second, .val (.int p5), .val (.long P), .second, .val (.long M), .second, .val (.int D), .val (.int (0 : Int32)), .val (.long LT), .second, .val (.long (P * (1000000 : Int64))), .second, .val (.long (M * (1000000 : Int64))), .second, .val (.ref b167), .val (.int (1 : Int32)), .unset] [(.long (((q4 - LT) + (P * (1000000 : Int64))) + (M * (1000000 : Int64))))]))
    refine own_by (fun _ kS => XS.lload X189.here hx rfl (hb hby at_156) rfl kS) ?_
    show own_Comes p e below s _ _ _ (T189.setTop (mkF m 158 #[.val (.int p0), .val (.int p1), .val (.long q2), .second, .val (.long q3), .second, .val (.long q4), .second, .val (.int p5), .val (.long P), .second, .val (.long M), .second, .val (.int D), .val (.int (0 : Int32)), .val (.long LT), .second, .val (.long (P * (1000000 : Int64))), .second, .val (.long (M * (1000000 : Int64))), .second, .val (.ref b167), .val (.int (1 : Int32)), .unset] [(.long q4), (.long (((q4 - LT) + (P * (1000000 : Int64))) + (M * (1000000 : Int64))))]))
    refine own_by (fun _ kS => XS.lload X189.here hx rfl (hb hby at_158) rfl kS) ?_
    show own_Comes p e below s _ _ _ (T189.setTop (mkF m 160 #[.val (.int p0), .val (.int p1), .val (.long q2), .second, .val (.long q3), .second, .val (.long q4), .second, .val (.int p5), .val (.long P), .second, .val (.long M), .second, .val (.int D), .val (.int (0 : Int32)), .val (.long LT), .second, .val (.long (P * (1000000 : Int64))), .second, .val (.long (M * (1000000 : Int64))), .second, .val (.ref b167), .val (.int (1 : Int32)), .unset] [(.long LT), (.long q4), (.long (((q4 - LT) + (P * (1000000 : Int64))) + (M * (1000000 : Int64))))]))
    refine own_by (fun _ kS => XS.lsub X189.here hx rfl (hb hby at_160) rfl kS) ?_
    show own_Comes p e below s _ _ _ (T189.setTop (mkF m 161 #[.val (.int p0), .val (.int p1), .val (.long q2), .second, .val (.long q3), .second, .val (.long q4), .second, .val (.int p5), .val (.long P), .second, .val (.long M), .second, .val (.int D), .val (.int (0 : Int32)), .val (.long LT), .second, .val (.long (P * (1000000 : Int64))), .second, .val (.long (M * (1000000 : Int64))), .second, .val (.ref b167), .val (.int (1 : Int32)), .unset] [(.long (q4 - LT)), (.long (((q4 - LT) + (P * (1000000 : Int64))) + (M * (1000000 : Int64))))]))
    refine own_by (fun _ kS => XS.lload X189.here hx rfl (hb hby at_161) rfl kS) ?_
    show own_Comes p e below s _ _ _ (T189.setTop (mkF m 163 #[.val (.int p0), .val (.int p1), .val (.long q2), .second, .val (.long q3), .second, .val (.long q4), .second, .val (.int p5), .val (.long P), .second, .val (.long M), .second, .val (.int D), .val (.int (0 : Int32)), .val (.long LT), .second, .val (.long (P * (1000000 : Int64))), .second, .val (.long (M * (1000000 : Int64))), .second, .val (.ref b167), .val (.int (1 : Int32)), .unset] [(.long (P * (1000000 : Int64))), (.long (q4 - LT)), (.long (((q4 - LT) + (P * (1000000 : Int64))) + (M * (1000000 : Int64))))]))
    refine own_by (fun _ kS => XS.ladd X189.here hx rfl (hb hby at_163) rfl kS) ?_
    show own_Comes p e below s _ _ _ (T189.setTop (mkF m 164 #[.val (.int p0), .val (.int p1), .val (.long q2), .second, .val (.long q3), .second, .val (.long q4), .second, .val (.int p5), .val (.long P), .second, .val (.long M), .second, .val (.int D), .val (.int (0 : Int32)), .val (.long LT), .second, .val (.long (P * (1000000 : Int64))), .second, .val (.long (M * (1000000 : Int64))), .second, .val (.ref b167), .val (.int (1 : Int32)), .unset] [(.long ((q4 - LT) + (P * (1000000 : Int64)))), (.long (((q4 - LT) + (P * (1000000 : Int64))) + (M * (1000000 : Int64))))]))
    refine own_by (fun _ kS => XS.lload X189.here hx rfl (hb hby at_164) rfl kS) ?_
    show own_Comes p e below s _ _ _ (T189.setTop (mkF m 166 #[.val (.int p0), .val (.int p1), .val (.long q2), .second, .val (.long q3), .second, .val (.long q4), .second, .val (.int p5), .val (.long P), .second, .val (.long M), .second, .val (.int D), .val (.int (0 : Int32)), .val (.long LT), .second, .val (.long (P * (1000000 : Int64))), .second, .val (.long (M * (1000000 : Int64))), .second, .val (.ref b167), .val (.int (1 : Int32)), .unset] [(.long (M * (1000000 : Int64))), (.long ((q4 - LT) + (P * (1000000 : Int64)))), (.long (((q4 - LT) + (P * (1000000 : Int64))) + (M * (1000000 : Int64))))]))
    refine own_by (fun _ kS => XS.ladd X189.here hx rfl (hb hby at_166) rfl kS) ?_
    show own_Comes p e below s _ _ _ (T189.setTop (mkF m 167 #[.val (.int p0), .val (.int p1), .val (.long q2), .second, .val (.long q3), .second, .val (.long q4), .second, .val (.int p5), .val (.long P), .second, .val (.long M), .second, .val (.int D), .val (.int (0 : Int32)), .val (.long LT), .second, .val (.long (P * (1000000 : Int64))), .second, .val (.long (M * (1000000 : Int64))), .second, .val (.ref b167), .val (.int (1 : Int32)), .unset] [(.long (((q4 - LT) + (P * (1000000 : Int64))) + (M * (1000000 : Int64)))), (.long (((q4 - LT) + (P * (1000000 : Int64))) + (M * (1000000 : Int64))))]))
    refine own_by (fun _ kS => XS.lcmp X189.here hx rfl (hb hby at_167) rfl kS) ?_
    show own_Comes p e below s _ _ _ (T189.setTop (mkF m 168 #[.val (.int p0), .val (.int p1), .val (.long q2), .second, .val (.long q3), .second, .val (.long q4), .second, .val (.int p5), .val (.long P), .second, .val (.long M), .second, .val (.int D), .val (.int (0 : Int32)), .val (.long LT), .second, .val (.long (P * (1000000 : Int64))), .second, .val (.long (M * (1000000 : Int64))), .second, .val (.ref b167), .val (.int (1 : Int32)), .unset] [(.int (lcmpW (((q4 - LT) + (P * (1000000 : Int64))) + (M * (1000000 : Int64))) (((q4 - LT) + (P * (1000000 : Int64))) + (M * (1000000 : Int64)))))]))
    have hb190 : (lcmpW (((q4 - LT) + (P * (1000000 : Int64))) + (M * (1000000 : Int64))) (((q4 - LT) + (P * (1000000 : Int64))) + (M * (1000000 : Int64)))) = (0 : Int32) := (lw_eq _ _).mpr rfl
    refine own_by (fun _ kS => XS.ifNo X189.here hx rfl (hb hby at_168) rfl ((if0 _ _).trans (teq hb190).2) kS) ?_
    show own_Comes p e below s _ _ _ (T189.setTop (mkF m 171 #[.val (.int p0), .val (.int p1), .val (.long q2), .second, .val (.long q3), .second, .val (.long q4), .second, .val (.int p5), .val (.long P), .second, .val (.long M), .second, .val (.int D), .val (.int (0 : Int32)), .val (.long LT), .second, .val (.long (P * (1000000 : Int64))), .second, .val (.long (M * (1000000 : Int64))), .second, .val (.ref b167), .val (.int (1 : Int32)), .unset] []))
    refine own_by (fun _ kS => XS.iconst X189.here hx rfl (hb hby at_171) kS) ?_
    show own_Comes p e below s _ _ _ (T189.setTop (mkF m 172 #[.val (.int p0), .val (.int p1), .val (.long q2), .second, .val (.long q3), .second, .val (.long q4), .second, .val (.int p5), .val (.long P), .second, .val (.long M), .second, .val (.int D), .val (.int (0 : Int32)), .val (.long LT), .second, .val (.long (P * (1000000 : Int64))), .second, .val (.long (M * (1000000 : Int64))), .second, .val (.ref b167), .val (.int (1 : Int32)), .unset] [(.int (1 : Int32))]))
    refine own_by (fun _ kS => XS.goto X189.here hx rfl (pc0 := 172) (pc' := 176) rfl (hb hby at_172) (by decide) (by decide) kS) ?_
    show own_Comes p e below s _ _ _ (T189.setTop (mkF m 176 #[.val (.int p0), .val (.int p1), .val (.long q2), .second, .val (.long q3), .second, .val (.long q4), .second, .val (.int p5), .val (.long P), .second, .val (.long M), .second, .val (.int D), .val (.int (0 : Int32)), .val (.long LT), .second, .val (.long (P * (1000000 : Int64))), .second, .val (.long (M * (1000000 : Int64))), .second, .val (.ref b167), .val (.int (1 : Int32)), .unset] [(.int (1 : Int32))]))
    refine own_by (fun _ kS => XS.istore X189.here hx rfl (hb hby at_176) rfl (l' := #[.val (.int p0), .val (.int p1), .val (.long q2), .second, .val (.long q3), .second, .val (.long q4), .second, .val (.int p5), .val (.long P), .second, .val (.long M), .second, .val (.int D), .val (.int (0 : Int32)), .val (.long LT), .second, .val (.long (P * (1000000 : Int64))), .second, .val (.long (M * (1000000 : Int64))), .second, .val (.ref b167), .val (.int (1 : Int32)), .val (.int (1 : Int32))]) rfl kS) ?_
    show own_Comes p e below s _ _ _ (T189.setTop (mkF m 178 #[.val (.int p0), .val (.int p1), .val (.long q2), .second, .val (.long q3), .second, .val (.long q4), .second, .val (.int p5), .val (.long P), .second, .val (.long M), .second, .val (.int D), .val (.int (0 : Int32)), .val (.long LT), .second, .val (.long (P * (1000000 : Int64))), .second, .val (.long (M * (1000000 : Int64))), .second, .val (.ref b167), .val (.int (1 : Int32)), .val (.int (1 : Int32))] []))
    refine own_by (fun _ kS => XS.iload X189.here hx rfl (hb hby at_178) rfl kS) ?_
    show own_Comes p e below s _ _ _ (T189.setTop (mkF m 180 #[.val (.int p0), .val (.int p1), .val (.long q2), .second, .val (.long q3), .second, .val (.long q4), .second, .val (.int p5), .val (.long P), .second, .val (.long M), .second, .val (.int D), .val (.int (0 : Int32)), .val (.long LT), .second, .val (.long (P * (1000000 : Int64))), .second, .val (.long (M * (1000000 : Int64))), .second, .val (.ref b167), .val (.int (1 : Int32)), .val (.int (1 : Int32))] [(.int (1 : Int32))]))
    have hb191 : ¬ ((1 : Int32) = (0 : Int32)) := by decide
    refine own_by (fun _ kS => XS.ifNo X189.here hx rfl (hb hby at_180) rfl ((if0 _ _).trans (feq hb191).1) kS) ?_
    show own_Comes p e below s _ _ _ (T189.setTop (mkF m 183 #[.val (.int p0), .val (.int p1), .val (.long q2), .second, .val (.long q3), .second, .val (.long q4), .second, .val (.int p5), .val (.long P), .second, .val (.long M), .second, .val (.int D), .val (.int (0 : Int32)), .val (.long LT), .second, .val (.long (P * (1000000 : Int64))), .second, .val (.long (M * (1000000 : Int64))), .second, .val (.ref b167), .val (.int (1 : Int32)), .val (.int (1 : Int32))] []))
    refine own_by (fun _ kS => XS.iload X189.here hx rfl (hb hby at_183) rfl kS) ?_
    show own_Comes p e below s _ _ _ (T189.setTop (mkF m 185 #[.val (.int p0), .val (.int p1), .val (.long q2), .second, .val (.long q3), .second, .val (.long q4), .second, .val (.int p5), .val (.long P), .second, .val (.long M), .second, .val (.int D), .val (.int (0 : Int32)), .val (.long LT), .second, .val (.long (P * (1000000 : Int64))), .second, .val (.long (M * (1000000 : Int64))), .second, .val (.ref b167), .val (.int (1 : Int32)), .val (.int (1 : Int32))] [(.int (1 : Int32))]))
    have hb192 : ¬ ((1 : Int32) = (0 : Int32)) := by decide
    refine own_by (fun _ kS => XS.ifNo X189.here hx rfl (hb hby at_185) rfl ((if0 _ _).trans (feq hb192).1) kS) ?_
    show own_Comes p e below s _ _ _ (T189.setTop (mkF m 188 #[.val (.int p0), .val (.int p1), .val (.long q2), .second, .val (.long q3), .second, .val (.long q4), .second, .val (.int p5), .val (.long P), .second, .val (.long M), .second, .val (.int D), .val (.int (0 : Int32)), .val (.long LT), .second, .val (.long (P * (1000000 : Int64))), .second, .val (.long (M * (1000000 : Int64))), .second, .val (.ref b167), .val (.int (1 : Int32)), .val (.int (1 : Int32))] []))
    refine own_by (fun _ kS => XS.iconst X189.here hx rfl (hb hby at_188) kS) ?_
    show own_Comes p e below s _ _ _ (T189.setTop (mkF m 189 #[.val (.int p0), .val (.int p1), .val (.long q2), .second, .val (.long q3), .second, .val (.long q4), .second, .val (.int p5), .val (.long P), .second, .val (.long M), .second, .val (.int D), .val (.int (0 : Int32)), .val (.long LT), .second, .val (.long (P * (1000000 : Int64))), .second, .val (.long (M * (1000000 : Int64))), .second, .val (.ref b167), .val (.int (1 : Int32)), .val (.int (1 : Int32))] [(.int (1 : Int32))]))
    refine own_by (fun _ kS => XS.goto X189.here hx rfl (pc0 := 189) (pc' := 193) rfl (hb hby at_189) (by decide) (by decide) kS) ?_
    show own_Comes p e below s _ _ _ (T189.setTop (mkF m 193 #[.val (.int p0), .val (.int p1), .val (.long q2), .second, .val (.long q3), .second, .val (.long q4), .second, .val (.int p5), .val (.long P), .second, .val (.long M), .second, .val (.int D), .val (.int (0 : Int32)), .val (.long LT), .second, .val (.long (P * (1000000 : Int64))), .second, .val (.long (M * (1000000 : Int64))), .second, .val (.ref b167), .val (.int (1 : Int32)), .val (.int (1 : Int32))] [(.int (1 : Int32))]))
    refine own_ret X189 (v := some (.int (1 : Int32))) (fun h => by rw [Bd.returns] at h; cases h) Bd.notSynchronized (by decide) (by decide) ?_ (fun fs hr => retN X189 hx (t := .boolean) Bd.returns (by simp) (hb hby at_193) hr)
    rw [e189]; exact ⟨rfl, N189⟩
  · refine own_by (fun _ kS => XS.ifNo X0.here hx rfl (hb hby at_40) rfl ((if0 _ _).trans (feq hc40_166).1) kS) ?_
    show own_Comes p e below s _ _ _ (s₁.setTop (mkF m 43 #[.val (.int p0), .val (.int p1), .val (.long q2), .second, .val (.long q3), .second, .val (.long q4), .second, .val (.int p5), .val (.long P), .second, .val (.long M), .second, .val (.int D), .unset, .unset, .unset, .unset, .unset, .unset, .unset, .unset, .unset, .unset] []))
    refine own_by (fun _ kS => XS.iconst X0.here hx rfl (hb hby at_43) kS) ?_
    show own_Comes p e below s _ _ _ (s₁.setTop (mkF m 44 #[.val (.int p0), .val (.int p1), .val (.long q2), .second, .val (.long q3), .second, .val (.long q4), .second, .val (.int p5), .val (.long P), .second, .val (.long M), .second, .val (.int D), .unset, .unset, .unset, .unset, .unset, .unset, .unset, .unset, .unset, .unset] [(.int (1 : Int32))]))
    refine own_by (fun _ kS => XS.goto X0.here hx rfl (pc0 := 44) (pc' := 48) rfl (hb hby at_44) (by decide) (by decide) kS) ?_
    show own_Comes p e below s _ _ _ (s₁.setTop (mkF m 48 #[.val (.int p0), .val (.int p1), .val (.long q2), .second, .val (.long q3), .second, .val (.long q4), .second, .val (.int p5), .val (.long P), .second, .val (.long M), .second, .val (.int D), .unset, .unset, .unset, .unset, .unset, .unset, .unset, .unset, .unset, .unset] [(.int (1 : Int32))]))
    refine own_by (fun _ kS => XS.istore X0.here hx rfl (hb hby at_48) rfl (l' := #[.val (.int p0), .val (.int p1), .val (.long q2), .second, .val (.long q3), .second, .val (.long q4), .second, .val (.int p5), .val (.long P), .second, .val (.long M), .second, .val (.int D), .val (.int (1 : Int32)), .unset, .unset, .unset, .unset, .unset, .unset, .unset, .unset, .unset]) rfl kS) ?_
    show own_Comes p e below s _ _ _ (s₁.setTop (mkF m 50 #[.val (.int p0), .val (.int p1), .val (.long q2), .second, .val (.long q3), .second, .val (.long q4), .second, .val (.int p5), .val (.long P), .second, .val (.long M), .second, .val (.int D), .val (.int (1 : Int32)), .unset, .unset, .unset, .unset, .unset, .unset, .unset, .unset, .unset] []))
    refine own_by (fun _ kS => XS.iload X0.here hx rfl (hb hby at_50) rfl kS) ?_
    show own_Comes p e below s _ _ _ (s₁.setTop (mkF m 52 #[.val (.int p0), .val (.int p1), .val (.long q2), .second, .val (.long q3), .second, .val (.long q4), .second, .val (.int p5), .val (.long P), .second, .val (.long M), .second, .val (.int D), .val (.int (1 : Int32)), .unset, .unset, .unset, .unset, .unset, .unset, .unset, .unset, .unset] [(.int p5)]))
    refine own_by (fun _ kS => XS.iconst X0.here hx rfl (hb hby at_52) kS) ?_
    show own_Comes p e below s _ _ _ (s₁.setTop (mkF m 53 #[.val (.int p0), .val (.int p1), .val (.long q2), .second, .val (.long q3), .second, .val (.long q4), .second, .val (.int p5), .val (.long P), .second, .val (.long M), .second, .val (.int D), .val (.int (1 : Int32)), .unset, .unset, .unset, .unset, .unset, .unset, .unset, .unset, .unset] [(.int (4 : Int32)), (.int p5)]))
    refine own_by (fun _ kS => XS.ishr X0.here hx rfl (hb hby at_53) rfl kS) ?_
    show own_Comes p e below s _ _ _ (s₁.setTop (mkF m 54 #[.val (.int p0), .val (.int p1), .val (.long q2), .second, .val (.long q3), .second, .val (.long q4), .second, .val (.int p5), .val (.long P), .second, .val (.long M), .second, .val (.int D), .val (.int (1 : Int32)), .unset, .unset, .unset, .unset, .unset, .unset, .unset, .unset, .unset] [(.int (p5 >>> ((4 : Int32) &&& 31)))]))
    refine own_by (fun _ kS => XS.i2l X0.here hx rfl (hb hby at_54) rfl kS) ?_
    show own_Comes p e below s _ _ _ (s₁.setTop (mkF m 55 #[.val (.int p0), .val (.int p1), .val (.long q2), .second, .val (.long q3), .second, .val (.long q4), .second, .val (.int p5), .val (.long P), .second, .val (.long M), .second, .val (.int D), .val (.int (1 : Int32)), .unset, .unset, .unset, .unset, .unset, .unset, .unset, .unset, .unset] [(.long ((p5 >>> ((4 : Int32) &&& 31)).toInt64))]))
    obtain ⟨LT, hLT⟩ : ∃ z, z = ((p5 >>> ((4 : Int32) &&& 31)).toInt64) := ⟨_, rfl⟩
    rw [show ((p5 >>> ((4 : Int32) &&& 31)).toInt64) = LT from hLT.symm]
    show own_Comes p e below s _ _ _ (s₁.setTop (mkF m 55 #[.val (.int p0), .val (.int p1), .val (.long q2), .second, .val (.long q3), .second, .val (.long q4), .second, .val (.int p5), .val (.long P), .second, .val (.long M), .second, .val (.int D), .val (.int (1 : Int32)), .unset, .unset, .unset, .unset, .unset, .unset, .unset, .unset, .unset] [(.long LT)]))
    refine own_by (fun _ kS => XS.lstore X0.here hx rfl (hb hby at_55) rfl (l' := #[.val (.int p0), .val (.int p1), .val (.long q2), .second, .val (.long q3), .second, .val (.long q4), .second, .val (.int p5), .val (.long P), .second, .val (.long M), .second, .val (.int D), .val (.int (1 : Int32)), .val (.long LT), .second, .unset, .unset, .unset, .unset, .unset, .unset, .unset]) rfl kS) ?_
    show own_Comes p e below s _ _ _ (s₁.setTop (mkF m 57 #[.val (.int p0), .val (.int p1), .val (.long q2), .second, .val (.long q3), .second, .val (.long q4), .second, .val (.int p5), .val (.long P), .second, .val (.long M), .second, .val (.int D), .val (.int (1 : Int32)), .val (.long LT), .second, .unset, .unset, .unset, .unset, .unset, .unset, .unset] []))
    refine own_by (fun _ kS => XS.lload X0.here hx rfl (hb hby at_57) rfl kS) ?_
    show own_Comes p e below s _ _ _ (s₁.setTop (mkF m 59 #[.val (.int p0), .val (.int p1), .val (.long q2), .second, .val (.long q3), .second, .val (.long q4), .second, .val (.int p5), .val (.long P), .second, .val (.long M), .second, .val (.int D), .val (.int (1 : Int32)), .val (.long LT), .second, .unset, .unset, .unset, .unset, .unset, .unset, .unset] [(.long P)]))
    refine own_by (fun _ kS => X0.ldc2Long hx hown (mvT hZ (hw _ (List.mem_of_getElem? (i := 3) rfl))) (g := (mkF m 59 #[.val (.int p0), .val (.int p1), .val (.long q2), .second, .val (.long q3), .second, .val (.long q4), .second, .val (.int p5), .val (.long P), .second, .val (.long M), .second, .val (.int D), .val (.int (1 : Int32)), .val (.long LT), .second, .unset, .unset, .unset, .unset, .unset, .unset, .unset] [(.long P)])) rfl (hb hby at_59) _ kS) ?_
    show own_Comes p e below s _ _ _ (s₁.setTop (mkF m 62 #[.val (.int p0), .val (.int p1), .val (.long q2), .second, .val (.long q3), .second, .val (.long q4), .second, .val (.int p5), .val (.long P), .second, .val (.long M), .second, .val (.int D), .val (.int (1 : Int32)), .val (.long LT), .second, .unset, .unset, .unset, .unset, .unset, .unset, .unset] [(.long (1000000 : Int64)), (.long P)]))
    refine own_by (fun _ kS => XS.lmul X0.here hx rfl (hb hby at_62) rfl kS) ?_
    show own_Comes p e below s _ _ _ (s₁.setTop (mkF m 63 #[.val (.int p0), .val (.int p1), .val (.long q2), .second, .val (.long q3), .second, .val (.long q4), .second, .val (.int p5), .val (.long P), .second, .val (.long M), .second, .val (.int D), .val (.int (1 : Int32)), .val (.long LT), .second, .unset, .unset, .unset, .unset, .unset, .unset, .unset] [(.long (P * (1000000 : Int64)))]))
    refine own_by (fun _ kS => XS.lstore X0.here hx rfl (hb hby at_63) rfl (l' := #[.val (.int p0), .val (.int p1), .val (.long q2), .second, .val (.long q3), .second, .val (.long q4), .second, .val (.int p5), .val (.long P), .second, .val (.long M), .second, .val (.int D), .val (.int (1 : Int32)), .val (.long LT), .second, .val (.long (P * (1000000 : Int64))), .second, .unset, .unset, .unset, .unset, .unset]) rfl kS) ?_
    show own_Comes p e below s _ _ _ (s₁.setTop (mkF m 65 #[.val (.int p0), .val (.int p1), .val (.long q2), .second, .val (.long q3), .second, .val (.long q4), .second, .val (.int p5), .val (.long P), .second, .val (.long M), .second, .val (.int D), .val (.int (1 : Int32)), .val (.long LT), .second, .val (.long (P * (1000000 : Int64))), .second, .unset, .unset, .unset, .unset, .unset] []))
    refine own_by (fun _ kS => XS.lload X0.here hx rfl (hb hby at_65) rfl kS) ?_
    show own_Comes p e below s _ _ _ (s₁.setTop (mkF m 67 #[.val (.int p0), .val (.int p1), .val (.long q2), .second, .val (.long q3), .second, .val (.long q4), .second, .val (.int p5), .val (.long P), .second, .val (.long M), .second, .val (.int D), .val (.int (1 : Int32)), .val (.long LT), .second, .val (.long (P * (1000000 : Int64))), .second, .unset, .unset, .unset, .unset, .unset] [(.long M)]))
    refine own_by (fun _ kS => X0.ldc2Long hx hown (mvT hZ (hw _ (List.mem_of_getElem? (i := 3) rfl))) (g := (mkF m 67 #[.val (.int p0), .val (.int p1), .val (.long q2), .second, .val (.long q3), .second, .val (.long q4), .second, .val (.int p5), .val (.long P), .second, .val (.long M), .second, .val (.int D), .val (.int (1 : Int32)), .val (.long LT), .second, .val (.long (P * (1000000 : Int64))), .second, .unset, .unset, .unset, .unset, .unset] [(.long M)])) rfl (hb hby at_67) _ kS) ?_
    show own_Comes p e below s _ _ _ (s₁.setTop (mkF m 70 #[.val (.int p0), .val (.int p1), .val (.long q2), .second, .val (.long q3), .second, .val (.long q4), .second, .val (.int p5), .val (.long P), .second, .val (.long M), .second, .val (.int D), .val (.int (1 : Int32)), .val (.long LT), .second, .val (.long (P * (1000000 : Int64))), .second, .unset, .unset, .unset, .unset, .unset] [(.long (1000000 : Int64)), (.long M)]))
    refine own_by (fun _ kS => XS.lmul X0.here hx rfl (hb hby at_70) rfl kS) ?_
    show own_Comes p e below s _ _ _ (s₁.setTop (mkF m 71 #[.val (.int p0), .val (.int p1), .val (.long q2), .second, .val (.long q3), .second, .val (.long q4), .second, .val (.int p5), .val (.long P), .second, .val (.long M), .second, .val (.int D), .val (.int (1 : Int32)), .val (.long LT), .second, .val (.long (P * (1000000 : Int64))), .second, .unset, .unset, .unset, .unset, .unset] [(.long (M * (1000000 : Int64)))]))
    refine own_by (fun _ kS => XS.lstore X0.here hx rfl (hb hby at_71) rfl (l' := #[.val (.int p0), .val (.int p1), .val (.long q2), .second, .val (.long q3), .second, .val (.long q4), .second, .val (.int p5), .val (.long P), .second, .val (.long M), .second, .val (.int D), .val (.int (1 : Int32)), .val (.long LT), .second, .val (.long (P * (1000000 : Int64))), .second, .val (.long (M * (1000000 : Int64))), .second, .unset, .unset, .unset]) rfl kS) ?_
    show own_Comes p e below s _ _ _ (s₁.setTop (mkF m 73 #[.val (.int p0), .val (.int p1), .val (.long q2), .second, .val (.long q3), .second, .val (.long q4), .second, .val (.int p5), .val (.long P), .second, .val (.long M), .second, .val (.int D), .val (.int (1 : Int32)), .val (.long LT), .second, .val (.long (P * (1000000 : Int64))), .second, .val (.long (M * (1000000 : Int64))), .second, .unset, .unset, .unset] []))
    obtain ⟨T193, h193, X193, e193, E193, A193, D193, -, st193⟩ := newO X0 hx hZ hown (hw _ (List.mem_of_getElem? (i := 4) rfl)) (hw _ (List.mem_of_getElem? (i := 5) rfl)) (hw _ (List.mem_of_getElem? (i := 6) rfl)) e0 (g := (mkF m 73 #[.val (.int p0), .val (.int p1), .val (.long q2), .second, .val (.long q3), .second, .val (.long q4), .second, .val (.int p5), .val (.long P), .second, .val (.long M), .second, .val (.int D), .val (.int (1 : Int32)), .val (.long LT), .second, .val (.long (P * (1000000 : Int64))), .second, .val (.long (M * (1000000 : Int64))), .second, .unset, .unset, .unset] [])) rfl (hb hby at_73) (by decide) (by decide)
    obtain ⟨b193, g193⟩ : ∃ z, z = h0.size := ⟨_, rfl⟩
    rw [← g193] at A193 D193 st193
    have g_b193 : n0 ≤ b193 := Nat.le_trans Z0 (Nat.le_of_eq g193.symm)
    refine own_by st193 ?_
    show own_Comes p e below s _ _ _ (T193.setTop (mkF m 76 #[.val (.int p0), .val (.int p1), .val (.long q2), .second, .val (.long q3), .second, .val (.long q4), .second, .val (.int p5), .val (.long P), .second, .val (.long M), .second, .val (.int D), .val (.int (1 : Int32)), .val (.long LT), .second, .val (.long (P * (1000000 : Int64))), .second, .val (.long (M * (1000000 : Int64))), .second, .unset, .unset, .unset] [(.ref b193)]))
    refine own_by (fun _ kS => XS.dup X193.here hx rfl (hb hby at_76) rfl rfl kS) ?_
    show own_Comes p e below s _ _ _ (T193.setTop (mkF m 77 #[.val (.int p0), .val (.int p1), .val (.long q2), .second, .val (.long q3), .second, .val (.long q4), .second, .val (.int p5), .val (.long P), .second, .val (.long M), .second, .val (.int D), .val (.int (1 : Int32)), .val (.long LT), .second, .val (.long (P * (1000000 : Int64))), .second, .val (.long (M * (1000000 : Int64))), .second, .unset, .unset, .unset] [(.ref b193), (.ref b193)]))
    obtain ⟨T194, h194, X194, e194, E194, A194, D194, -, st194⟩ := newO X193 hx hZ hown (hw _ (List.mem_of_getElem? (i := 7) rfl)) (hw _ (List.mem_of_getElem? (i := 8) rfl)) (hw _ (List.mem_of_getElem? (i := 9) rfl)) e193 (g := (mkF m 77 #[.val (.int p0), .val (.int p1), .val (.long q2), .second, .val (.long q3), .second, .val (.long q4), .second, .val (.int p5), .val (.long P), .second, .val (.long M), .second, .val (.int D), .val (.int (1 : Int32)), .val (.long LT), .second, .val (.long (P * (1000000 : Int64))), .second, .val (.long (M * (1000000 : Int64))), .second, .unset, .unset, .unset] [(.ref b193), (.ref b193)])) rfl (hb hby at_77) (by decide) (by decide)
    obtain ⟨b194, g194⟩ : ∃ z, z = h193.size := ⟨_, rfl⟩
    rw [← g194] at A194 D194 st194
    have g_b194 : n0 ≤ b194 := Nat.le_trans (Nat.le_trans Z0 E193.1) (Nat.le_of_eq g194.symm)
    refine own_by st194 ?_
    show own_Comes p e below s _ _ _ (T194.setTop (mkF m 80 #[.val (.int p0), .val (.int p1), .val (.long q2), .second, .val (.long q3), .second, .val (.long q4), .second, .val (.int p5), .val (.long P), .second, .val (.long M), .second, .val (.int D), .val (.int (1 : Int32)), .val (.long LT), .second, .val (.long (P * (1000000 : Int64))), .second, .val (.long (M * (1000000 : Int64))), .second, .unset, .unset, .unset] [(.ref b194), (.ref b193), (.ref b193)]))
    refine own_by (fun _ kS => XS.dup X194.here hx rfl (hb hby at_80) rfl rfl kS) ?_
    show own_Comes p e below s _ _ _ (T194.setTop (mkF m 81 #[.val (.int p0), .val (.int p1), .val (.long q2), .second, .val (.long q3), .second, .val (.long q4), .second, .val (.int p5), .val (.long P), .second, .val (.long M), .second, .val (.int D), .val (.int (1 : Int32)), .val (.long LT), .second, .val (.long (P * (1000000 : Int64))), .second, .val (.long (M * (1000000 : Int64))), .second, .unset, .unset, .unset] [(.ref b194), (.ref b194), (.ref b193), (.ref b193)]))
    refine own_by (fun _ kS => XS.lload X194.here hx rfl (hb hby at_81) rfl kS) ?_
    show own_Comes p e below s _ _ _ (T194.setTop (mkF m 83 #[.val (.int p0), .val (.int p1), .val (.long q2), .second, .val (.long q3), .second, .val (.long q4), .second, .val (.int p5), .val (.long P), .second, .val (.long M), .second, .val (.int D), .val (.int (1 : Int32)), .val (.long LT), .second, .val (.long (P * (1000000 : Int64))), .second, .val (.long (M * (1000000 : Int64))), .second, .unset, .unset, .unset] [(.long P), (.ref b194), (.ref b194), (.ref b193), (.ref b193)]))
    refine own_by (fun _ kS => XS.lload X194.here hx rfl (hb hby at_83) rfl kS) ?_
    show own_Comes p e below s _ _ _ (T194.setTop (mkF m 85 #[.val (.int p0), .val (.int p1), .val (.long q2), .second, .val (.long q3), .second, .val (.long q4), .second, .val (.int p5), .val (.long P), .second, .val (.long M), .second, .val (.int D), .val (.int (1 : Int32)), .val (.long LT), .second, .val (.long (P * (1000000 : Int64))), .second, .val (.long (M * (1000000 : Int64))), .second, .unset, .unset, .unset] [(.long M), (.long P), (.ref b194), (.ref b194), (.ref b193), (.ref b193)]))
    have f1 : (1 : Int64).toInt = 1 := by decide
    have f0 : (0 : Int64).toInt = 0 := by decide
    have f3 : (3600000 : Int64).toInt = 3600000 := by decide
    have f4 := own_f4 P kP
    have ne195 : b193 ≠ b194 := Nat.ne_of_lt (Nat.lt_of_lt_of_le (A193.lt) (Nat.le_of_eq g194.symm))
    have ne195m : ms ≠ b194 := ne_exa ((Em.ext E193).ext E194) A194 (by decide)
    have ne195n : ms ≠ b193 := ne_exa ((Em.ext E193).ext E194) (A193.ext E194) (by decide)
    have u1 : ¬ P < (1 : Int64) := own_lt64 (by rw [f1]; exact kP.1)
    have u2 : ¬ M < (0 : Int64) := own_lt64 (by rw [f0]; exact kM.1)
    have u3 : ¬ (3600000 : Int64) < P := own_lt64 (by rw [f3]; exact kP.2)
    have u4 : ¬ ((3600000 : Int64) - P) < M := own_lt64 (by rw [f4]; exact kM.2)
    have u5 : 0 ≤ P.toInt ∧ P.toInt ≤ 3600000 := ⟨Int.le_trans (by decide) kP.1, kP.2⟩
    have u6 : 0 ≤ M.toInt ∧ M.toInt ≤ 3600000 := ⟨kM.1, Int.le_trans kM.2 (Int.sub_le_self _ u5.1)⟩
    obtain ⟨_, _, ⟨T196, L196, k196, n196⟩, -, X196, ⟨Lc196, hQ196, l196, y196, z196⟩, st196⟩ := X194.specialBack hx (y := (⟨"com/example/hetman/hetman/HeartbeatTiming", "<init>", "(JJ)V"⟩ : MethodName)) rfl hown (mvT hZ (hw _ (List.mem_of_getElem? (i := 10) rfl))) (mvT hZ (hw _ (List.mem_of_getElem? (i := 11) rfl))) (mvT hZ (hw _ (List.mem_of_getElem? (i := 12) rfl))) (by decide) (backOf (W := 3) (rm1 l Z a0 hw [] b194 P M (.long 0) (.long 0) h194 n0 (Nat.le_trans (Nat.le_trans Z0 E193.1) E194.1) A194 (D194 (Or.inr (hw _ (List.mem_of_getElem? (i := 23) rfl))) (ty := .long) (by decide)) (D194 (Or.inr (hw _ (List.mem_of_getElem? (i := 25) rfl))) (ty := .long) (by decide)) g_b194 u1 u2 u3 u4) hZ (hw _ (List.mem_of_getElem? (i := 12) rfl)) (hw _ (List.mem_of_getElem? (i := 9) rfl)) (by decide) (by decide)) (g := (mkF m 85 #[.val (.int p0), .val (.int p1), .val (.long q2), .second, .val (.long q3), .second, .val (.long q4), .second, .val (.int p5), .val (.long P), .second, .val (.long M), .second, .val (.int D), .val (.int (1 : Int32)), .val (.long LT), .second, .val (.long (P * (1000000 : Int64))), .second, .val (.long (M * (1000000 : Int64))), .second, .unset, .unset, .unset] [(.long M), (.long P), (.ref b194), (.ref b194), (.ref b193), (.ref b193)])) rfl (by rw [hml]; rfl) (Steps.refl _) (a := b194) (argsL := [(.long P), (.long M)]) (rest := [(.ref b194), (.ref b193), (.ref b193)]) (lenOf pd__JJ_V_315 rfl) rfl (by show 2 * 0 + _ ≤ _; exact Nat.le_of_eq rfl) (hb hby at_85) (fun _ _ => ⟨rfl, e194, (by decide : 2 + 0 ≤ _), (by decide : 12 + 0 ≤ _)⟩)
    dsimp only [Pt.U, Pt.locs, Pt.cells, Pt.slots] at X196 l196 y196 z196 st196 hQ196
    subst l196 y196 z196
    obtain ⟨rfl, N196q, K196, Fp196, Fm196⟩ := hQ196
    have N196 := Fr.app N0 N196q
    refine own_tr st196 ?_
    show own_Comes p e below s _ _ _ (T196.setTop (mkF m 88 #[.val (.int p0), .val (.int p1), .val (.long q2), .second, .val (.long q3), .second, .val (.long q4), .second, .val (.int p5), .val (.long P), .second, .val (.long M), .second, .val (.int D), .val (.int (1 : Int32)), .val (.long LT), .second, .val (.long (P * (1000000 : Int64))), .second, .val (.long (M * (1000000 : Int64))), .second, .unset, .unset, .unset] [(.ref b194), (.ref b193), (.ref b193)]))
    have sz_b194 : h0.size ≤ b194 := Nat.le_trans (Nat.le_trans (Nat.le_refl _) E193.1) (Nat.le_of_eq g194.symm)
    have EE195 : Ext h0 T196.heap := own_ext ((((Keep.refl h0 []).ext E193).ext E194).trans K196 (allS (Or.inr sz_b194) all0))
    refine own_by (fun _ kS => XS.iload X196.here hx rfl (hb hby at_88) rfl kS) ?_
    show own_Comes p e below s _ _ _ (T196.setTop (mkF m 90 #[.val (.int p0), .val (.int p1), .val (.long q2), .second, .val (.long q3), .second, .val (.long q4), .second, .val (.int p5), .val (.long P), .second, .val (.long M), .second, .val (.int D), .val (.int (1 : Int32)), .val (.long LT), .second, .val (.long (P * (1000000 : Int64))), .second, .val (.long (M * (1000000 : Int64))), .second, .unset, .unset, .unset] [(.int D), (.ref b194), (.ref b193), (.ref b193)]))
    have c197 := (((D193 (Or.inr (hw _ (List.mem_of_getElem? (i := 47) rfl))) (ty := .long) (by decide)).ext E194).keep K196 (ninS ne195 nin0))
    have c198 := (((D193 (Or.inr (hw _ (List.mem_of_getElem? (i := 54) rfl))) (ty := .long) (by decide)).ext E194).keep K196 (ninS ne195 nin0))
    have c199 := (((D193 (Or.inr (hw _ (List.mem_of_getElem? (i := 57) rfl))) (ty := (.array .long)) (by decide)).ext E194).keep K196 (ninS ne195 nin0))
    have c200 := (((D193 (Or.inr (hw _ (List.mem_of_getElem? (i := 59) rfl))) (ty := (.array .long)) (by decide)).ext E194).keep K196 (ninS ne195 nin0))
    have c201 := (((D193 (Or.inl (hw _ (List.mem_of_getElem? (i := 82) rfl))) (ty := .long) (by decide)).ext E194).keep K196 (ninS ne195 nin0))
    have c202 := (((D193 (Or.inl (hw _ (List.mem_of_getElem? (i := 66) rfl))) (ty := .int) (by decide)).ext E194).keep K196 (ninS ne195 nin0))
    have c203 := (((D193 (Or.inl (hw _ (List.mem_of_getElem? (i := 68) rfl))) (ty := .int) (by decide)).ext E194).keep K196 (ninS ne195 nin0))
    have c204 := (((D193 (Or.inl (hw _ (List.mem_of_getElem? (i := 70) rfl))) (ty := .long) (by decide)).ext E194).keep K196 (ninS ne195 nin0))
    have c205 := (((D193 (Or.inl (hw _ (List.mem_of_getElem? (i := 102) rfl))) (ty := .long) (by decide)).ext E194).keep K196 (ninS ne195 nin0))
    have c206 := (((D193 (Or.inl (hw _ (List.mem_of_getElem? (i := 104) rfl))) (ty := .long) (by decide)).ext E194).keep K196 (ninS ne195 nin0))
    have c207 := (((Fs.ext E193).ext E194).keep K196 (ninS ne195m nin0))
    have c208 := (((Fx.ext E193).ext E194).keep K196 (ninS ne195m nin0))
    obtain ⟨_, _, ⟨T209, L209, k209, n209⟩, -, X209, ⟨Lc209, hQ209, l209, y209, z209⟩, st209⟩ := X196.specialBack hx (y := (⟨"com/example/hetman/hetman/peer/ArrivalEstimator", "<init>", "(Lcom/example/hetman/hetman/HeartbeatTiming;I)V"⟩ : MethodName)) rfl hown (mvT hZ (hw _ (List.mem_of_getElem? (i := 26) rfl))) (mvT hZ (hw _ (List.mem_of_getElem? (i := 27) rfl))) (mvT hZ (hw _ (List.mem_of_getElem? (i := 28) rfl))) (by decide) (backOf (W := 1) (rm4 l Z a0 hw [] b193 b194 D P M ms T196.heap n0 (Nat.le_trans (Nat.le_trans (Nat.le_trans Z0 E193.1) E194.1) K196.1) ((A193.ext E194).keep K196) c197 c198 c199 c200 c201 c202 c203 c204 c205 c206 (A194.keep K196) Fp196 Fm196 (Sm.ext EE195) (((Em.ext E193).ext E194).keep K196) c207 c208 g_b193 kD u5 u6) hZ (hw _ (List.mem_of_getElem? (i := 28) rfl)) (hw _ (List.mem_of_getElem? (i := 6) rfl)) (by decide) (by decide)) (g := (mkF m 90 #[.val (.int p0), .val (.int p1), .val (.long q2), .second, .val (.long q3), .second, .val (.long q4), .second, .val (.int p5), .val (.long P), .second, .val (.long M), .second, .val (.int D), .val (.int (1 : Int32)), .val (.long LT), .second, .val (.long (P * (1000000 : Int64))), .second, .val (.long (M * (1000000 : Int64))), .second, .unset, .unset, .unset] [(.int D), (.ref b194), (.ref b193), (.ref b193)])) rfl (by rw [hml]; rfl) (Steps.refl _) (a := b193) (argsL := [(.ref b194), (.int D)]) (rest := [(.ref b193)]) (lenOf pd__Lcom_example_hetman_hetman_HeartbeatTiming_I_V_444 rfl) rfl (by show 2 * 0 + _ ≤ _; exact Nat.le_of_eq rfl) (hb hby at_90) (fun _ _ => ⟨rfl, rfl, (by decide : 2 + 2 ≤ _), (by decide : 12 + 16 ≤ _)⟩)
    dsimp only [Pt.U, Pt.locs, Pt.cells, Pt.slots] at X209 l209 y209 z209 st209 hQ209
    subst l209 y209 z209
    obtain ⟨rfl, N209q, K209, o209, t209, ko209, kt209, vt209, go209, gt209, hA209⟩ := hQ209
    have N209 := Fr.app N196 N209q
    refine own_tr st209 ?_
    show own_Comes p e below s _ _ _ (T209.setTop (mkF m 93 #[.val (.int p0), .val (.int p1), .val (.long q2), .second, .val (.long q3), .second, .val (.long q4), .second, .val (.int p5), .val (.long P), .second, .val (.long M), .second, .val (.int D), .val (.int (1 : Int32)), .val (.long LT), .second, .val (.long (P * (1000000 : Int64))), .second, .val (.long (M * (1000000 : Int64))), .second, .unset, .unset, .unset] [(.ref b193)]))
    refine own_by (fun _ kS => XS.astore X209.here hx rfl (hb hby at_93) rfl rfl (l' := #[.val (.int p0), .val (.int p1), .val (.long q2), .second, .val (.long q3), .second, .val (.long q4), .second, .val (.int p5), .val (.long P), .second, .val (.long M), .second, .val (.int D), .val (.int (1 : Int32)), .val (.long LT), .second, .val (.long (P * (1000000 : Int64))), .second, .val (.long (M * (1000000 : Int64))), .second, .val (.ref b193), .unset, .unset]) rfl kS) ?_
    show own_Comes p e below s _ _ _ (T209.setTop (mkF m 95 #[.val (.int p0), .val (.int p1), .val (.long q2), .second, .val (.long q3), .second, .val (.long q4), .second, .val (.int p5), .val (.long P), .second, .val (.long M), .second, .val (.int D), .val (.int (1 : Int32)), .val (.long LT), .second, .val (.long (P * (1000000 : Int64))), .second, .val (.long (M * (1000000 : Int64))), .second, .val (.ref b193), .unset, .unset] []))
    refine own_by (fun _ kS => XS.iload X209.here hx rfl (hb hby at_95) rfl kS) ?_
    show own_Comes p e below s _ _ _ (T209.setTop (mkF m 97 #[.val (.int p0), .val (.int p1), .val (.long q2), .second, .val (.long q3), .second, .val (.long q4), .second, .val (.int p5), .val (.long P), .second, .val (.long M), .second, .val (.int D), .val (.int (1 : Int32)), .val (.long LT), .second, .val (.long (P * (1000000 : Int64))), .second, .val (.long (M * (1000000 : Int64))), .second, .val (.ref b193), .unset, .unset] [(.int (1 : Int32))]))
    have hb210 : ¬ ((1 : Int32) = (0 : Int32)) := by decide
    refine own_by (fun _ kS => XS.ifNo X209.here hx rfl (hb hby at_97) rfl ((if0 _ _).trans (feq hb210).1) kS) ?_
    show own_Comes p e below s _ _ _ (T209.setTop (mkF m 100 #[.val (.int p0), .val (.int p1), .val (.long q2), .second, .val (.long q3), .second, .val (.long q4), .second, .val (.int p5), .val (.long P), .second, .val (.long M), .second, .val (.int D), .val (.int (1 : Int32)), .val (.long LT), .second, .val (.long (P * (1000000 : Int64))), .second, .val (.long (M * (1000000 : Int64))), .second, .val (.ref b193), .unset, .unset] []))
    refine own_by (fun _ kS => XS.aload X209.here hx rfl (hb hby at_100) rfl rfl kS) ?_
    show own_Comes p e below s _ _ _ (T209.setTop (mkF m 102 #[.val (.int p0), .val (.int p1), .val (.long q2), .second, .val (.long q3), .second, .val (.long q4), .second, .val (.int p5), .val (.long P), .second, .val (.long M), .second, .val (.int D), .val (.int (1 : Int32)), .val (.long LT), .second, .val (.long (P * (1000000 : Int64))), .second, .val (.long (M * (1000000 : Int64))), .second, .val (.ref b193), .unset, .unset] [(.ref b193)]))
    refine own_by (fun _ kS => XS.lload X209.here hx rfl (hb hby at_102) rfl kS) ?_
    show own_Comes p e below s _ _ _ (T209.setTop (mkF m 104 #[.val (.int p0), .val (.int p1), .val (.long q2), .second, .val (.long q3), .second, .val (.long q4), .second, .val (.int p5), .val (.long P), .second, .val (.long M), .second, .val (.int D), .val (.int (1 : Int32)), .val (.long LT), .second, .val (.long (P * (1000000 : Int64))), .second, .val (.long (M * (1000000 : Int64))), .second, .val (.ref b193), .unset, .unset] [(.long q3), (.ref b193)]))
    refine own_by (fun _ kS => XS.lload X209.here hx rfl (hb hby at_104) rfl kS) ?_
    show own_Comes p e below s _ _ _ (T209.setTop (mkF m 106 #[.val (.int p0), .val (.int p1), .val (.long q2), .second, .val (.long q3), .second, .val (.long q4), .second, .val (.int p5), .val (.long P), .second, .val (.long M), .second, .val (.int D), .val (.int (1 : Int32)), .val (.long LT), .second, .val (.long (P * (1000000 : Int64))), .second, .val (.long (M * (1000000 : Int64))), .second, .val (.ref b193), .unset, .unset] [(.long q4), (.long q3), (.ref b193)]))
    refine own_by (fun _ kS => XS.lload X209.here hx rfl (hb hby at_106) rfl kS) ?_
    show own_Comes p e below s _ _ _ (T209.setTop (mkF m 108 #[.val (.int p0), .val (.int p1), .val (.long q2), .second, .val (.long q3), .second, .val (.long q4), .second, .val (.int p5), .val (.long P), .second, .val (.long M), .second, .val (.int D), .val (.int (1 : Int32)), .val (.long LT), .second, .val (.long (P * (1000000 : Int64))), .second, .val (.long (M * (1000000 : Int64))), .second, .val (.ref b193), .unset, .unset] [(.long LT), (.long q4), (.long q3), (.ref b193)]))
    obtain ⟨cq211, kq211, q211a, q211b, q211c⟩ := isOf hZ rfl hA209.1
    obtain ⟨_, _, ⟨T211, L211, k211, n211⟩, -, X211, ⟨Lc211, hQ211, l211, y211, z211⟩, st211⟩ := X209.virtualBack hx (y := (⟨"com/example/hetman/hetman/peer/ArrivalEstimator", "heard", "(JJJ)V"⟩ : MethodName)) (z := (⟨"com/example/hetman/hetman/peer/ArrivalEstimator", "heard", "(JJJ)V"⟩ : MethodName)) hown (mvT hZ (hw _ (List.mem_of_getElem? (i := 76) rfl))) (mvT hZ (hw _ (List.mem_of_getElem? (i := 77) rfl))) (notFace_of_selects (args := #[]) (mvT hZ (hw _ (List.mem_of_getElem? (i := 79) rfl)))) (mvT hZ (hw _ (List.mem_of_getElem? (i := 79) rfl))) (mvT hZ (hw _ (List.mem_of_getElem? (i := 78) rfl))) (by decide) (backOf (W := 0) (rm10 l Z a0 hw [] b193 q3 q4 LT (P * (1000000 : Int64)) (M * (1000000 : Int64)) o209 t209 ko209 kt209 D vt209 (0 : Int64) (0 : Int64) T209.heap n0 (Nat.le_trans (Nat.le_trans (Nat.le_trans (Nat.le_trans Z0 E193.1) E194.1) K196.1) K209.1) hA209 g_b193 go209 gt209 kD) hZ (hw _ (List.mem_of_getElem? (i := 80) rfl)) (hw _ (List.mem_of_getElem? (i := 6) rfl)) (by decide) (by decide)) q211a q211c (g := (mkF m 108 #[.val (.int p0), .val (.int p1), .val (.long q2), .second, .val (.long q3), .second, .val (.long q4), .second, .val (.int p5), .val (.long P), .second, .val (.long M), .second, .val (.int D), .val (.int (1 : Int32)), .val (.long LT), .second, .val (.long (P * (1000000 : Int64))), .second, .val (.long (M * (1000000 : Int64))), .second, .val (.ref b193), .unset, .unset] [(.long LT), (.long q4), (.long q3), (.ref b193)])) rfl (by rw [hml]; rfl) (Steps.refl _) (argsL := [(.long q3), (.long q4), (.long LT)]) (rest := []) (lenOf pd__JJJ_V_389 rfl) rfl (by show 2 * 0 + _ ≤ _; exact Nat.le_of_eq rfl) (hb hby at_108) (fun _ _ => ⟨rfl, rfl, (by decide : 4 + 0 ≤ _), (by decide : 28 + 0 ≤ _)⟩)
    dsimp only [Pt.U, Pt.locs, Pt.cells, Pt.slots] at X211 l211 y211 z211 st211 hQ211
    subst l211 y211 z211
    obtain ⟨rfl, N211q, K211, vt211, ba211, cn211, nx211, hA211⟩ := hQ211
    have N211 := Fr.app N209 N211q
    refine own_tr st211 ?_
    show own_Comes p e below s _ _ _ (T211.setTop (mkF m 111 #[.val (.int p0), .val (.int p1), .val (.long q2), .second, .val (.long q3), .second, .val (.long q4), .second, .val (.int p5), .val (.long P), .second, .val (.long M), .second, .val (.int D), .val (.int (1 : Int32)), .val (.long LT), .second, .val (.long (P * (1000000 : Int64))), .second, .val (.long (M * (1000000 : Int64))), .second, .val (.ref b193), .unset, .unset] []))
    refine own_by (fun _ kS => XS.aload X211.here hx rfl (hb hby at_111) rfl rfl kS) ?_
    show own_Comes p e below s _ _ _ (T211.setTop (mkF m 113 #[.val (.int p0), .val (.int p1), .val (.long q2), .second, .val (.long q3), .second, .val (.long q4), .second, .val (.int p5), .val (.long P), .second, .val (.long M), .second, .val (.int D), .val (.int (1 : Int32)), .val (.long LT), .second, .val (.long (P * (1000000 : Int64))), .second, .val (.long (M * (1000000 : Int64))), .second, .val (.ref b193), .unset, .unset] [(.ref b193)]))
    refine own_by (fun _ kS => XS.lloadN X211.here hx rfl (hb hby at_113) rfl kS) ?_
    show own_Comes p e below s _ _ _ (T211.setTop (mkF m 114 #[.val (.int p0), .val (.int p1), .val (.long q2), .second, .val (.long q3), .second, .val (.long q4), .second, .val (.int p5), .val (.long P), .second, .val (.long M), .second, .val (.int D), .val (.int (1 : Int32)), .val (.long LT), .second, .val (.long (P * (1000000 : Int64))), .second, .val (.long (M * (1000000 : Int64))), .second, .val (.ref b193), .unset, .unset] [(.long q2), (.ref b193)]))
    obtain ⟨cq212, kq212, q212a, q212b, q212c⟩ := isOf hZ rfl hA211.1
    obtain ⟨_, _, ⟨T212, L212, k212, n212⟩, -, X212, ⟨Lc212, hQ212, l212, y212, z212⟩, st212⟩ := X211.virtualBack hx (y := (⟨"com/example/hetman/hetman/peer/ArrivalEstimator", "restart", "(J)V"⟩ : MethodName)) (z := (⟨"com/example/hetman/hetman/peer/ArrivalEstimator", "restart", "(J)V"⟩ : MethodName)) hown (mvT hZ (hw _ (List.mem_of_getElem? (i := 60) rfl))) (mvT hZ (hw _ (List.mem_of_getElem? (i := 61) rfl))) (notFace_of_selects (args := #[]) (mvT hZ (hw _ (List.mem_of_getElem? (i := 63) rfl)))) (mvT hZ (hw _ (List.mem_of_getElem? (i := 63) rfl))) (mvT hZ (hw _ (List.mem_of_getElem? (i := 62) rfl))) (by decide) (backOf (W := 0) (rm8 l Z a0 hw [] b193 q2 (P * (1000000 : Int64)) (M * (1000000 : Int64)) o209 t209 ko209 kt209 D vt211 ba211 cn211 nx211 (((q4 - LT) + (P * (1000000 : Int64))) + (M * (1000000 : Int64))) T211.heap n0 (Nat.le_trans (Nat.le_trans (Nat.le_trans (Nat.le_trans (Nat.le_trans Z0 E193.1) E194.1) K196.1) K209.1) K211.1) hA211 g_b193) hZ (hw _ (List.mem_of_getElem? (i := 64) rfl)) (hw _ (List.mem_of_getElem? (i := 6) rfl)) (by decide) (by decide)) q212a q212c (g := (mkF m 114 #[.val (.int p0), .val (.int p1), .val (.long q2), .second, .val (.long q3), .second, .val (.long q4), .second, .val (.int p5), .val (.long P), .second, .val (.long M), .second, .val (.int D), .val (.int (1 : Int32)), .val (.long LT), .second, .val (.long (P * (1000000 : Int64))), .second, .val (.long (M * (1000000 : Int64))), .second, .val (.ref b193), .unset, .unset] [(.long q2), (.ref b193)])) rfl (by rw [hml]; rfl) (Steps.refl _) (argsL := [(.long q2)]) (rest := []) (lenOf pd__J_V_241 rfl) rfl (by show 2 * 0 + _ ≤ _; exact Nat.le_of_eq rfl) (hb hby at_114) (fun _ _ => ⟨rfl, rfl, (by decide : 4 + 0 ≤ _), (by decide : 28 + 0 ≤ _)⟩)
    dsimp only [Pt.U, Pt.locs, Pt.cells, Pt.slots] at X212 l212 y212 z212 st212 hQ212
    subst l212 y212 z212
    obtain ⟨rfl, N212q, K212, hA212⟩ := hQ212
    have N212 := Fr.app N211 N212q
    refine own_tr st212 ?_
    show own_Comes p e below s _ _ _ (T212.setTop (mkF m 117 #[.val (.int p0), .val (.int p1), .val (.long q2), .second, .val (.long q3), .second, .val (.long q4), .second, .val (.int p5), .val (.long P), .second, .val (.long M), .second, .val (.int D), .val (.int (1 : Int32)), .val (.long LT), .second, .val (.long (P * (1000000 : Int64))), .second, .val (.long (M * (1000000 : Int64))), .second, .val (.ref b193), .unset, .unset] []))
    refine own_by (fun _ kS => XS.aload X212.here hx rfl (hb hby at_117) rfl rfl kS) ?_
    show own_Comes p e below s _ _ _ (T212.setTop (mkF m 119 #[.val (.int p0), .val (.int p1), .val (.long q2), .second, .val (.long q3), .second, .val (.long q4), .second, .val (.int p5), .val (.long P), .second, .val (.long M), .second, .val (.int D), .val (.int (1 : Int32)), .val (.long LT), .second, .val (.long (P * (1000000 : Int64))), .second, .val (.long (M * (1000000 : Int64))), .second, .val (.ref b193), .unset, .unset] [(.ref b193)]))
    obtain ⟨cq213, kq213, q213a, q213b, q213c⟩ := isOf hZ rfl hA212.1
    obtain ⟨_, _, ⟨T213, L213, k213, n213⟩, -, X213, ⟨Lc213, hQ213, l213, y213, z213⟩, st213⟩ := X212.virtualBack hx (y := (⟨"com/example/hetman/hetman/peer/ArrivalEstimator", "freshnessNanos", "()J"⟩ : MethodName)) (z := (⟨"com/example/hetman/hetman/peer/ArrivalEstimator", "freshnessNanos", "()J"⟩ : MethodName)) hown (mvT hZ (hw _ (List.mem_of_getElem? (i := 71) rfl))) (mvT hZ (hw _ (List.mem_of_getElem? (i := 72) rfl))) (notFace_of_selects (args := #[]) (mvT hZ (hw _ (List.mem_of_getElem? (i := 74) rfl)))) (mvT hZ (hw _ (List.mem_of_getElem? (i := 74) rfl))) (mvT hZ (hw _ (List.mem_of_getElem? (i := 73) rfl))) (by decide) (backOf (W := 0) (rm9 l Z a0 hw [] b193 ((q2 + (P * (1000000 : Int64))) + (M * (1000000 : Int64))) T212.heap n0 (Nat.le_trans (Nat.le_trans (Nat.le_trans (Nat.le_trans (Nat.le_trans (Nat.le_trans Z0 E193.1) E194.1) K196.1) K209.1) K211.1) K212.1) hA212.2.2.2.2.2.2.2.2.1) hZ (hw _ (List.mem_of_getElem? (i := 75) rfl)) (hw _ (List.mem_of_getElem? (i := 6) rfl)) (by decide) (by decide)) q213a q213c (g := (mkF m 119 #[.val (.int p0), .val (.int p1), .val (.long q2), .second, .val (.long q3), .second, .val (.long q4), .second, .val (.int p5), .val (.long P), .second, .val (.long M), .second, .val (.int D), .val (.int (1 : Int32)), .val (.long LT), .second, .val (.long (P * (1000000 : Int64))), .second, .val (.long (M * (1000000 : Int64))), .second, .val (.ref b193), .unset, .unset] [(.ref b193)])) rfl (by rw [hml]; rfl) (Steps.refl _) (argsL := []) (rest := []) (lenOf pd___J_155 rfl) rfl (by show 2 * 0 + _ ≤ _; exact Nat.le_of_eq rfl) (hb hby at_119) (fun _ _ => ⟨rfl, rfl, (by decide : 4 + 0 ≤ _), (by decide : 28 + 0 ≤ _)⟩)
    dsimp only [Pt.U, Pt.locs, Pt.cells, Pt.slots] at X213 l213 y213 z213 st213 hQ213
    subst l213 y213 z213
    obtain ⟨rfl, N213q, e213q⟩ := hQ213
    have N213 := Fr.app N212 N213q
    refine own_tr st213 ?_
    have e213 : T213.heap = T212.heap := e213q
    show own_Comes p e below s _ _ _ (T213.setTop (mkF m 122 #[.val (.int p0), .val (.int p1), .val (.long q2), .second, .val (.long q3), .second, .val (.long q4), .second, .val (.int p5), .val (.long P), .second, .val (.long M), .second, .val (.int D), .val (.int (1 : Int32)), .val (.long LT), .second, .val (.long (P * (1000000 : Int64))), .second, .val (.long (M * (1000000 : Int64))), .second, .val (.ref b193), .unset, .unset] [(.long ((q2 + (P * (1000000 : Int64))) + (M * (1000000 : Int64))))]))
    refine own_by (fun _ kS => XS.lloadN X213.here hx rfl (hb hby at_122) rfl kS) ?_
    show own_Comes p e below s _ _ _ (T213.setTop (mkF m 123 #[.val (.int p0), .val (.int p1), .val (.long q2), .second, .val (.long q3), .second, .val (.long q4), .second, .val (.int p5), .val (.long P), .second, .val (.long M), .second, .val (.int D), .val (.int (1 : Int32)), .val (.long LT), .second, .val (.long (P * (1000000 : Int64))), .second, .val (.long (M * (1000000 : Int64))), .second, .val (.ref b193), .unset, .unset] [(.long q2), (.long ((q2 + (P * (1000000 : Int64))) + (M * (1000000 : Int64))))]))
    refine own_by (fun _ kS => XS.lload X213.here hx rfl (hb hby at_123) rfl kS) ?_
    show own_Comes p e below s _ _ _ (T213.setTop (mkF m 125 #[.val (.int p0), .val (.int p1), .val (.long q2), .second, .val (.long q3), .second, .val (.long q4), .second, .val (.int p5), .val (.long P), .second, .val (.long M), .second, .val (.int D), .val (.int (1 : Int32)), .val (.long LT), .second, .val (.long (P * (1000000 : Int64))), .second, .val (.long (M * (1000000 : Int64))), .second, .val (.ref b193), .unset, .unset] [(.long (P * (1000000 : Int64))), (.long q2), (.long ((q2 + (P * (1000000 : Int64))) + (M * (1000000 : Int64))))]))
    refine own_by (fun _ kS => XS.ladd X213.here hx rfl (hb hby at_125) rfl kS) ?_
    show own_Comes p e below s _ _ _ (T213.setTop (mkF m 126 #[.val (.int p0), .val (.int p1), .val (.long q2), .second, .val (.long q3), .second, .val (.long q4), .second, .val (.int p5), .val (.long P), .second, .val (.long M), .second, .val (.int D), .val (.int (1 : Int32)), .val (.long LT), .second, .val (.long (P * (1000000 : Int64))), .second, .val (.long (M * (1000000 : Int64))), .second, .val (.ref b193), .unset, .unset] [(.long (q2 + (P * (1000000 : Int64)))), (.long ((q2 + (P * (1000000 : Int64))) + (M * (1000000 : Int64))))]))
    refine own_by (fun _ kS => XS.lload X213.here hx rfl (hb hby at_126) rfl kS) ?_
    show own_Comes p e below s _ _ _ (T213.setTop (mkF m 128 #[.val (.int p0), .val (.int p1), .val (.long q2), .second, .val (.long q3), .second, .val (.long q4), .second, .val (.int p5), .val (.long P), .second, .val (.long M), .second, .val (.int D), .val (.int (1 : Int32)), .val (.long LT), .second, .val (.long (P * (1000000 : Int64))), .second, .val (.long (M * (1000000 : Int64))), .second, .val (.ref b193), .unset, .unset] [(.long (M * (1000000 : Int64))), (.long (q2 + (P * (1000000 : Int64)))), (.long ((q2 + (P * (1000000 : Int64))) + (M * (1000000 : Int64))))]))
    refine own_by (fun _ kS => XS.ladd X213.here hx rfl (hb hby at_128) rfl kS) ?_
    show own_Comes p e below s _ _ _ (T213.setTop (mkF m 129 #[.val (.int p0), .val (.int p1), .val (.long q2), .second, .val (.long q3), .second, .val (.long q4), .second, .val (.int p5), .val (.long P), .second, .val (.long M), .second, .val (.int D), .val (.int (1 : Int32)), .val (.long LT), .second, .val (.long (P * (1000000 : Int64))), .second, .val (.long (M * (1000000 : Int64))), .second, .val (.ref b193), .unset, .unset] [(.long ((q2 + (P * (1000000 : Int64))) + (M * (1000000 : Int64)))), (.long ((q2 + (P * (1000000 : Int64))) + (M * (1000000 : Int64))))]))
    refine own_by (fun _ kS => XS.lcmp X213.here hx rfl (hb hby at_129) rfl kS) ?_
    show own_Comes p e below s _ _ _ (T213.setTop (mkF m 130 #[.val (.int p0), .val (.int p1), .val (.long q2), .second, .val (.long q3), .second, .val (.long q4), .second, .val (.int p5), .val (.long P), .second, .val (.long M), .second, .val (.int D), .val (.int (1 : Int32)), .val (.long LT), .second, .val (.long (P * (1000000 : Int64))), .second, .val (.long (M * (1000000 : Int64))), .second, .val (.ref b193), .unset, .unset] [(.int (lcmpW ((q2 + (P * (1000000 : Int64))) + (M * (1000000 : Int64))) ((q2 + (P * (1000000 : Int64))) + (M * (1000000 : Int64)))))]))
    have hb214 : (lcmpW ((q2 + (P * (1000000 : Int64))) + (M * (1000000 : Int64))) ((q2 + (P * (1000000 : Int64))) + (M * (1000000 : Int64)))) = (0 : Int32) := (lw_eq _ _).mpr rfl
    refine own_by (fun _ kS => XS.ifNo X213.here hx rfl (hb hby at_130) rfl ((if0 _ _).trans (teq hb214).2) kS) ?_
    show own_Comes p e below s _ _ _ (T213.setTop (mkF m 133 #[.val (.int p0), .val (.int p1), .val (.long q2), .second, .val (.long q3), .second, .val (.long q4), .second, .val (.int p5), .val (.long P), .second, .val (.long M), .second, .val (.int D), .val (.int (1 : Int32)), .val (.long LT), .second, .val (.long (P * (1000000 : Int64))), .second, .val (.long (M * (1000000 : Int64))), .second, .val (.ref b193), .unset, .unset] []))
    refine own_by (fun _ kS => XS.iconst X213.here hx rfl (hb hby at_133) kS) ?_
    show own_Comes p e below s _ _ _ (T213.setTop (mkF m 134 #[.val (.int p0), .val (.int p1), .val (.long q2), .second, .val (.long q3), .second, .val (.long q4), .second, .val (.int p5), .val (.long P), .second, .val (.long M), .second, .val (.int D), .val (.int (1 : Int32)), .val (.long LT), .second, .val (.long (P * (1000000 : Int64))), .second, .val (.long (M * (1000000 : Int64))), .second, .val (.ref b193), .unset, .unset] [(.int (1 : Int32))]))
    refine own_by (fun _ kS => XS.goto X213.here hx rfl (pc0 := 134) (pc' := 138) rfl (hb hby at_134) (by decide) (by decide) kS) ?_
    show own_Comes p e below s _ _ _ (T213.setTop (mkF m 138 #[.val (.int p0), .val (.int p1), .val (.long q2), .second, .val (.long q3), .second, .val (.long q4), .second, .val (.int p5), .val (.long P), .second, .val (.long M), .second, .val (.int D), .val (.int (1 : Int32)), .val (.long LT), .second, .val (.long (P * (1000000 : Int64))), .second, .val (.long (M * (1000000 : Int64))), .second, .val (.ref b193), .unset, .unset] [(.int (1 : Int32))]))
    refine own_by (fun _ kS => XS.istore X213.here hx rfl (hb hby at_138) rfl (l' := #[.val (.int p0), .val (.int p1), .val (.long q2), .second, .val (.long q3), .second, .val (.long q4), .second, .val (.int p5), .val (.long P), .second, .val (.long M), .second, .val (.int D), .val (.int (1 : Int32)), .val (.long LT), .second, .val (.long (P * (1000000 : Int64))), .second, .val (.long (M * (1000000 : Int64))), .second, .val (.ref b193), .val (.int (1 : Int32)), .unset]) rfl kS) ?_
    show own_Comes p e below s _ _ _ (T213.setTop (mkF m 140 #[.val (.int p0), .val (.int p1), .val (.long q2), .second, .val (.long q3), .second, .val (.long q4), .second, .val (.int p5), .val (.long P), .second, .val (.long M), .second, .val (.int D), .val (.int (1 : Int32)), .val (.long LT), .second, .val (.long (P * (1000000 : Int64))), .second, .val (.long (M * (1000000 : Int64))), .second, .val (.ref b193), .val (.int (1 : Int32)), .unset] []))
    refine own_by (fun _ kS => XS.aload X213.here hx rfl (hb hby at_140) rfl rfl kS) ?_
    show own_Comes p e below s _ _ _ (T213.setTop (mkF m 142 #[.val (.int p0), .val (.int p1), .val (.long q2), .second, .val (.long q3), .second, .val (.long q4), .second, .val (.int p5), .val (.long P), .second, .val (.long M), .second, .val (.int D), .val (.int (1 : Int32)), .val (.long LT), .second, .val (.long (P * (1000000 : Int64))), .second, .val (.long (M * (1000000 : Int64))), .second, .val (.ref b193), .val (.int (1 : Int32)), .unset] [(.ref b193)]))
    refine own_by (fun _ kS => XS.lload X213.here hx rfl (hb hby at_142) rfl kS) ?_
    show own_Comes p e below s _ _ _ (T213.setTop (mkF m 144 #[.val (.int p0), .val (.int p1), .val (.long q2), .second, .val (.long q3), .second, .val (.long q4), .second, .val (.int p5), .val (.long P), .second, .val (.long M), .second, .val (.int D), .val (.int (1 : Int32)), .val (.long LT), .second, .val (.long (P * (1000000 : Int64))), .second, .val (.long (M * (1000000 : Int64))), .second, .val (.ref b193), .val (.int (1 : Int32)), .unset] [(.long q3), (.ref b193)]))
    refine own_by (fun _ kS => XS.lload X213.here hx rfl (hb hby at_144) rfl kS) ?_
    show own_Comes p e below s _ _ _ (T213.setTop (mkF m 146 #[.val (.int p0), .val (.int p1), .val (.long q2), .second, .val (.long q3), .second, .val (.long q4), .second, .val (.int p5), .val (.long P), .second, .val (.long M), .second, .val (.int D), .val (.int (1 : Int32)), .val (.long LT), .second, .val (.long (P * (1000000 : Int64))), .second, .val (.long (M * (1000000 : Int64))), .second, .val (.ref b193), .val (.int (1 : Int32)), .unset] [(.long q4), (.long q3), (.ref b193)]))
    refine own_by (fun _ kS => XS.lload X213.here hx rfl (hb hby at_146) rfl kS) ?_
    show own_Comes p e below s _ _ _ (T213.setTop (mkF m 148 #[.val (.int p0), .val (.int p1), .val (.long q2), .second, .val (.long q3), .second, .val (.long q4), .second, .val (.int p5), .val (.long P), .second, .val (.long M), .second, .val (.int D), .val (.int (1 : Int32)), .val (.long LT), .second, .val (.long (P * (1000000 : Int64))), .second, .val (.long (M * (1000000 : Int64))), .second, .val (.ref b193), .val (.int (1 : Int32)), .unset] [(.long LT), (.long q4), (.long q3), (.ref b193)]))
    obtain ⟨cq215, kq215, q215a, q215b, q215c⟩ := isOf hZ e213 hA212.1
    obtain ⟨_, _, ⟨T215, L215, k215, n215⟩, -, X215, ⟨Lc215, hQ215, l215, y215, z215⟩, st215⟩ := X213.virtualBack hx (y := (⟨"com/example/hetman/hetman/peer/ArrivalEstimator", "heard", "(JJJ)V"⟩ : MethodName)) (z := (⟨"com/example/hetman/hetman/peer/ArrivalEstimator", "heard", "(JJJ)V"⟩ : MethodName)) hown (mvT hZ (hw _ (List.mem_of_getElem? (i := 76) rfl))) (mvT hZ (hw _ (List.mem_of_getElem? (i := 77) rfl))) (notFace_of_selects (args := #[]) (mvT hZ (hw _ (List.mem_of_getElem? (i := 79) rfl)))) (mvT hZ (hw _ (List.mem_of_getElem? (i := 79) rfl))) (mvT hZ (hw _ (List.mem_of_getElem? (i := 78) rfl))) (by decide) (backOf (W := 0) (rm10 l Z a0 hw [] b193 q3 q4 LT (P * (1000000 : Int64)) (M * (1000000 : Int64)) o209 t209 ko209 kt209 D vt211 ba211 ((q2 + (P * (1000000 : Int64))) + (M * (1000000 : Int64))) T212.heap n0 (Nat.le_trans (Nat.le_trans (Nat.le_trans (Nat.le_trans (Nat.le_trans (Nat.le_trans Z0 E193.1) E194.1) K196.1) K209.1) K211.1) K212.1) hA212 g_b193 go209 gt209 kD) hZ (hw _ (List.mem_of_getElem? (i := 80) rfl)) (hw _ (List.mem_of_getElem? (i := 6) rfl)) (by decide) (by decide)) q215a q215c (g := (mkF m 148 #[.val (.int p0), .val (.int p1), .val (.long q2), .second, .val (.long q3), .second, .val (.long q4), .second, .val (.int p5), .val (.long P), .second, .val (.long M), .second, .val (.int D), .val (.int (1 : Int32)), .val (.long LT), .second, .val (.long (P * (1000000 : Int64))), .second, .val (.long (M * (1000000 : Int64))), .second, .val (.ref b193), .val (.int (1 : Int32)), .unset] [(.long LT), (.long q4), (.long q3), (.ref b193)])) rfl (by rw [hml]; rfl) (Steps.refl _) (argsL := [(.long q3), (.long q4), (.long LT)]) (rest := []) (lenOf pd__JJJ_V_389 rfl) rfl (by show 2 * 0 + _ ≤ _; exact Nat.le_of_eq rfl) (hb hby at_148) (fun _ _ => ⟨rfl, e213, (by decide : 4 + 0 ≤ _), (by decide : 28 + 0 ≤ _)⟩)
    dsimp only [Pt.U, Pt.locs, Pt.cells, Pt.slots] at X215 l215 y215 z215 st215 hQ215
    subst l215 y215 z215
    obtain ⟨rfl, N215q, K215, vt215, ba215, cn215, nx215, hA215⟩ := hQ215
    have N215 := Fr.app N213 N215q
    refine own_tr st215 ?_
    show own_Comes p e below s _ _ _ (T215.setTop (mkF m 151 #[.val (.int p0), .val (.int p1), .val (.long q2), .second, .val (.long q3), .second, .val (.long q4), .second, .val (.int p5), .val (.long P), .second, .val (.long M), .second, .val (.int D), .val (.int (1 : Int32)), .val (.long LT), .second, .val (.long (P * (1000000 : Int64))), .second, .val (.long (M * (1000000 : Int64))), .second, .val (.ref b193), .val (.int (1 : Int32)), .unset] []))
    refine own_by (fun _ kS => XS.aload X215.here hx rfl (hb hby at_151) rfl rfl kS) ?_
    show own_Comes p e below s _ _ _ (T215.setTop (mkF m 153 #[.val (.int p0), .val (.int p1), .val (.long q2), .second, .val (.long q3), .second, .val (.long q4), .second, .val (.int p5), .val (.long P), .second, .val (.long M), .second, .val (.int D), .val (.int (1 : Int32)), .val (.long LT), .second, .val (.long (P * (1000000 : Int64))), .second, .val (.long (M * (1000000 : Int64))), .second, .val (.ref b193), .val (.int (1 : Int32)), .unset] [(.ref b193)]))
    obtain ⟨cq216, kq216, q216a, q216b, q216c⟩ := isOf hZ rfl hA215.1
    obtain ⟨_, _, ⟨T216, L216, k216, n216⟩, -, X216, ⟨Lc216, hQ216, l216, y216, z216⟩, st216⟩ := X215.virtualBack hx (y := (⟨"com/example/hetman/hetman/peer/ArrivalEstimator", "freshnessNanos", "()J"⟩ : MethodName)) (z := (⟨"com/example/hetman/hetman/peer/ArrivalEstimator", "freshnessNanos", "()J"⟩ : MethodName)) hown (mvT hZ (hw _ (List.mem_of_getElem? (i := 71) rfl))) (mvT hZ (hw _ (List.mem_of_getElem? (i := 72) rfl))) (notFace_of_selects (args := #[]) (mvT hZ (hw _ (List.mem_of_getElem? (i := 74) rfl)))) (mvT hZ (hw _ (List.mem_of_getElem? (i := 74) rfl))) (mvT hZ (hw _ (List.mem_of_getElem? (i := 73) rfl))) (by decide) (backOf (W := 0) (rm9 l Z a0 hw [] b193 (((q4 - LT) + (P * (1000000 : Int64))) + (M * (1000000 : Int64))) T215.heap n0 (Nat.le_trans (Nat.le_trans (Nat.le_trans (Nat.le_trans (Nat.le_trans (Nat.le_trans (Nat.le_trans Z0 E193.1) E194.1) K196.1) K209.1) K211.1) K212.1) K215.1) hA215.2.2.2.2.2.2.2.2.1) hZ (hw _ (List.mem_of_getElem? (i := 75) rfl)) (hw _ (List.mem_of_getElem? (i := 6) rfl)) (by decide) (by decide)) q216a q216c (g := (mkF m 153 #[.val (.int p0), .val (.int p1), .val (.long q2), .second, .val (.long q3), .second, .val (.long q4), .second, .val (.int p5), .val (.long P), .second, .val (.long M), .second, .val (.int D), .val (.int (1 : Int32)), .val (.long LT), .second, .val (.long (P * (1000000 : Int64))), .second, .val (.long (M * (1000000 : Int64))), .second, .val (.ref b193), .val (.int (1 : Int32)), .unset] [(.ref b193)])) rfl (by rw [hml]; rfl) (Steps.refl _) (argsL := []) (rest := []) (lenOf pd___J_155 rfl) rfl (by show 2 * 0 + _ ≤ _; exact Nat.le_of_eq rfl) (hb hby at_153) (fun _ _ => ⟨rfl, rfl, (by decide : 4 + 0 ≤ _), (by decide : 28 + 0 ≤ _)⟩)
    dsimp only [Pt.U, Pt.locs, Pt.cells, Pt.slots] at X216 l216 y216 z216 st216 hQ216
    subst l216 y216 z216
    obtain ⟨rfl, N216q, e216q⟩ := hQ216
    have N216 := Fr.app N215 N216q
    refine own_tr st216 ?_
    have e216 : T216.heap = T215.heap := e216q
    show own_Comes p e below s _ _ _ (T216.setTop (mkF m 156 #[.val (.int p0), .val (.int p1), .val (.long q2), .second, .val (.long q3), .second, .val (.long q4), .second, .val (.int p5), .val (.long P), .second, .val (.long M), .second, .val (.int D), .val (.int (1 : Int32)), .val (.long LT), .second, .val (.long (P * (1000000 : Int64))), .second, .val (.long (M * (1000000 : Int64))), .second, .val (.ref b193), .val (.int (1 : Int32)), .unset] [(.long (((q4 - LT) + (P * (1000000 : Int64))) + (M * (1000000 : Int64))))]))
    refine own_by (fun _ kS => XS.lload X216.here hx rfl (hb hby at_156) rfl kS) ?_
    show own_Comes p e below s _ _ _ (T216.setTop (mkF m 158 #[.val (.int p0), .val (.int p1), .val (.long q2), .second, .val (.long q3), .second, .val (.long q4), .second, .val (.int p5), .val (.long P), .second, .val (.long M), .second, .val (.int D), .val (.int (1 : Int32)), .val (.long LT), .second, .val (.long (P * (1000000 : Int64))), .second, .val (.long (M * (1000000 : Int64))), .second, .val (.ref b193), .val (.int (1 : Int32)), .unset] [(.long q4), (.long (((q4 - LT) + (P * (1000000 : Int64))) + (M * (1000000 : Int64))))]))
    refine own_by (fun _ kS => XS.lload X216.here hx rfl (hb hby at_158) rfl kS) ?_
    show own_Comes p e below s _ _ _ (T216.setTop (mkF m 160 #[.val (.int p0), .val (.int p1), .val (.long q2), .second, .val (.long q3), .second, .val (.long q4), .second, .val (.int p5), .val (.long P), .second, .val (.long M), .second, .val (.int D), .val (.int (1 : Int32)), .val (.long LT), .second, .val (.long (P * (1000000 : Int64))), .second, .val (.long (M * (1000000 : Int64))), .second, .val (.ref b193), .val (.int (1 : Int32)), .unset] [(.long LT), (.long q4), (.long (((q4 - LT) + (P * (1000000 : Int64))) + (M * (1000000 : Int64))))]))
    refine own_by (fun _ kS => XS.lsub X216.here hx rfl (hb hby at_160) rfl kS) ?_
    show own_Comes p e below s _ _ _ (T216.setTop (mkF m 161 #[.val (.int p0), .val (.int p1), .val (.long q2), .second, .val (.long q3), .second, .val (.long q4), .second, .val (.int p5), .val (.long P), .second, .val (.long M), .second, .val (.int D), .val (.int (1 : Int32)), .val (.long LT), .second, .val (.long (P * (1000000 : Int64))), .second, .val (.long (M * (1000000 : Int64))), .second, .val (.ref b193), .val (.int (1 : Int32)), .unset] [(.long (q4 - LT)), (.long (((q4 - LT) + (P * (1000000 : Int64))) + (M * (1000000 : Int64))))]))
    refine own_by (fun _ kS => XS.lload X216.here hx rfl (hb hby at_161) rfl kS) ?_
    show own_Comes p e below s _ _ _ (T216.setTop (mkF m 163 #[.val (.int p0), .val (.int p1), .val (.long q2), .second, .val (.long q3), .second, .val (.long q4), .second, .val (.int p5), .val (.long P), .second, .val (.long M), .second, .val (.int D), .val (.int (1 : Int32)), .val (.long LT), .second, .val (.long (P * (1000000 : Int64))), .second, .val (.long (M * (1000000 : Int64))), .second, .val (.ref b193), .val (.int (1 : Int32)), .unset] [(.long (P * (1000000 : Int64))), (.long (q4 - LT)), (.long (((q4 - LT) + (P * (1000000 : Int64))) + (M * (1000000 : Int64))))]))
    refine own_by (fun _ kS => XS.ladd X216.here hx rfl (hb hby at_163) rfl kS) ?_
    show own_Comes p e below s _ _ _ (T216.setTop (mkF m 164 #[.val (.int p0), .val (.int p1), .val (.long q2), .second, .val (.long q3), .second, .val (.long q4), .second, .val (.int p5), .val (.long P), .second, .val (.long M), .second, .val (.int D), .val (.int (1 : Int32)), .val (.long LT), .second, .val (.long (P * (1000000 : Int64))), .second, .val (.long (M * (1000000 : Int64))), .second, .val (.ref b193), .val (.int (1 : Int32)), .unset] [(.long ((q4 - LT) + (P * (1000000 : Int64)))), (.long (((q4 - LT) + (P * (1000000 : Int64))) + (M * (1000000 : Int64))))]))
    refine own_by (fun _ kS => XS.lload X216.here hx rfl (hb hby at_164) rfl kS) ?_
    show own_Comes p e below s _ _ _ (T216.setTop (mkF m 166 #[.val (.int p0), .val (.int p1), .val (.long q2), .second, .val (.long q3), .second, .val (.long q4), .second, .val (.int p5), .val (.long P), .second, .val (.long M), .second, .val (.int D), .val (.int (1 : Int32)), .val (.long LT), .second, .val (.long (P * (1000000 : Int64))), .second, .val (.long (M * (1000000 : Int64))), .second, .val (.ref b193), .val (.int (1 : Int32)), .unset] [(.long (M * (1000000 : Int64))), (.long ((q4 - LT) + (P * (1000000 : Int64)))), (.long (((q4 - LT) + (P * (1000000 : Int64))) + (M * (1000000 : Int64))))]))
    refine own_by (fun _ kS => XS.ladd X216.here hx rfl (hb hby at_166) rfl kS) ?_
    show own_Comes p e below s _ _ _ (T216.setTop (mkF m 167 #[.val (.int p0), .val (.int p1), .val (.long q2), .second, .val (.long q3), .second, .val (.long q4), .second, .val (.int p5), .val (.long P), .second, .val (.long M), .second, .val (.int D), .val (.int (1 : Int32)), .val (.long LT), .second, .val (.long (P * (1000000 : Int64))), .second, .val (.long (M * (1000000 : Int64))), .second, .val (.ref b193), .val (.int (1 : Int32)), .unset] [(.long (((q4 - LT) + (P * (1000000 : Int64))) + (M * (1000000 : Int64)))), (.long (((q4 - LT) + (P * (1000000 : Int64))) + (M * (1000000 : Int64))))]))
    refine own_by (fun _ kS => XS.lcmp X216.here hx rfl (hb hby at_167) rfl kS) ?_
    show own_Comes p e below s _ _ _ (T216.setTop (mkF m 168 #[.val (.int p0), .val (.int p1), .val (.long q2), .second, .val (.long q3), .second, .val (.long q4), .second, .val (.int p5), .val (.long P), .second, .val (.long M), .second, .val (.int D), .val (.int (1 : Int32)), .val (.long LT), .second, .val (.long (P * (1000000 : Int64))), .second, .val (.long (M * (1000000 : Int64))), .second, .val (.ref b193), .val (.int (1 : Int32)), .unset] [(.int (lcmpW (((q4 - LT) + (P * (1000000 : Int64))) + (M * (1000000 : Int64))) (((q4 - LT) + (P * (1000000 : Int64))) + (M * (1000000 : Int64)))))]))
    have hb217 : (lcmpW (((q4 - LT) + (P * (1000000 : Int64))) + (M * (1000000 : Int64))) (((q4 - LT) + (P * (1000000 : Int64))) + (M * (1000000 : Int64)))) = (0 : Int32) := (lw_eq _ _).mpr rfl
    refine own_by (fun _ kS => XS.ifNo X216.here hx rfl (hb hby at_168) rfl ((if0 _ _).trans (teq hb217).2) kS) ?_
    show own_Comes p e below s _ _ _ (T216.setTop (mkF m 171 #[.val (.int p0), .val (.int p1), .val (.long q2), .second, .val (.long q3), .second, .val (.long q4), .second, .val (.int p5), .val (.long P), .second, .val (.long M), .second, .val (.int D), .val (.int (1 : Int32)), .val (.long LT), .second, .val (.long (P * (1000000 : Int64))), .second, .val (.long (M * (1000000 : Int64))), .second, .val (.ref b193), .val (.int (1 : Int32)), .unset] []))
    refine own_by (fun _ kS => XS.iconst X216.here hx rfl (hb hby at_171) kS) ?_
    show own_Comes p e below s _ _ _ (T216.setTop (mkF m 172 #[.val (.int p0), .val (.int p1), .val (.long q2), .second, .val (.long q3), .second, .val (.long q4), .second, .val (.int p5), .val (.long P), .second, .val (.long M), .second, .val (.int D), .val (.int (1 : Int32)), .val (.long LT), .second, .val (.long (P * (1000000 : Int64))), .second, .val (.long (M * (1000000 : Int64))), .second, .val (.ref b193), .val (.int (1 : Int32)), .unset] [(.int (1 : Int32))]))
    refine own_by (fun _ kS => XS.goto X216.here hx rfl (pc0 := 172) (pc' := 176) rfl (hb hby at_172) (by decide) (by decide) kS) ?_
    show own_Comes p e below s _ _ _ (T216.setTop (mkF m 176 #[.val (.int p0), .val (.int p1), .val (.long q2), .second, .val (.long q3), .second, .val (.long q4), .second, .val (.int p5), .val (.long P), .second, .val (.long M), .second, .val (.int D), .val (.int (1 : Int32)), .val (.long LT), .second, .val (.long (P * (1000000 : Int64))), .second, .val (.long (M * (1000000 : Int64))), .second, .val (.ref b193), .val (.int (1 : Int32)), .unset] [(.int (1 : Int32))]))
    refine own_by (fun _ kS => XS.istore X216.here hx rfl (hb hby at_176) rfl (l' := #[.val (.int p0), .val (.int p1), .val (.long q2), .second, .val (.long q3), .second, .val (.long q4), .second, .val (.int p5), .val (.long P), .second, .val (.long M), .second, .val (.int D), .val (.int (1 : Int32)), .val (.long LT), .second, .val (.long (P * (1000000 : Int64))), .second, .val (.long (M * (1000000 : Int64))), .second, .val (.ref b193), .val (.int (1 : Int32)), .val (.int (1 : Int32))]) rfl kS) ?_
    show own_Comes p e below s _ _ _ (T216.setTop (mkF m 178 #[.val (.int p0), .val (.int p1), .val (.long q2), .second, .val (.long q3), .second, .val (.long q4), .second, .val (.int p5), .val (.long P), .second, .val (.long M), .second, .val (.int D), .val (.int (1 : Int32)), .val (.long LT), .second, .val (.long (P * (1000000 : Int64))), .second, .val (.long (M * (1000000 : Int64))), .second, .val (.ref b193), .val (.int (1 : Int32)), .val (.int (1 : Int32))] []))
    refine own_by (fun _ kS => XS.iload X216.here hx rfl (hb hby at_178) rfl kS) ?_
    show own_Comes p e below s _ _ _ (T216.setTop (mkF m 180 #[.val (.int p0), .val (.int p1), .val (.long q2), .second, .val (.long q3), .second, .val (.long q4), .second, .val (.int p5), .val (.long P), .second, .val (.long M), .second, .val (.int D), .val (.int (1 : Int32)), .val (.long LT), .second, .val (.long (P * (1000000 : Int64))), .second, .val (.long (M * (1000000 : Int64))), .second, .val (.ref b193), .val (.int (1 : Int32)), .val (.int (1 : Int32))] [(.int (1 : Int32))]))
    have hb218 : ¬ ((1 : Int32) = (0 : Int32)) := by decide
    refine own_by (fun _ kS => XS.ifNo X216.here hx rfl (hb hby at_180) rfl ((if0 _ _).trans (feq hb218).1) kS) ?_
    show own_Comes p e below s _ _ _ (T216.setTop (mkF m 183 #[.val (.int p0), .val (.int p1), .val (.long q2), .second, .val (.long q3), .second, .val (.long q4), .second, .val (.int p5), .val (.long P), .second, .val (.long M), .second, .val (.int D), .val (.int (1 : Int32)), .val (.long LT), .second, .val (.long (P * (1000000 : Int64))), .second, .val (.long (M * (1000000 : Int64))), .second, .val (.ref b193), .val (.int (1 : Int32)), .val (.int (1 : Int32))] []))
    refine own_by (fun _ kS => XS.iload X216.here hx rfl (hb hby at_183) rfl kS) ?_
    show own_Comes p e below s _ _ _ (T216.setTop (mkF m 185 #[.val (.int p0), .val (.int p1), .val (.long q2), .second, .val (.long q3), .second, .val (.long q4), .second, .val (.int p5), .val (.long P), .second, .val (.long M), .second, .val (.int D), .val (.int (1 : Int32)), .val (.long LT), .second, .val (.long (P * (1000000 : Int64))), .second, .val (.long (M * (1000000 : Int64))), .second, .val (.ref b193), .val (.int (1 : Int32)), .val (.int (1 : Int32))] [(.int (1 : Int32))]))
    have hb219 : ¬ ((1 : Int32) = (0 : Int32)) := by decide
    refine own_by (fun _ kS => XS.ifNo X216.here hx rfl (hb hby at_185) rfl ((if0 _ _).trans (feq hb219).1) kS) ?_
    show own_Comes p e below s _ _ _ (T216.setTop (mkF m 188 #[.val (.int p0), .val (.int p1), .val (.long q2), .second, .val (.long q3), .second, .val (.long q4), .second, .val (.int p5), .val (.long P), .second, .val (.long M), .second, .val (.int D), .val (.int (1 : Int32)), .val (.long LT), .second, .val (.long (P * (1000000 : Int64))), .second, .val (.long (M * (1000000 : Int64))), .second, .val (.ref b193), .val (.int (1 : Int32)), .val (.int (1 : Int32))] []))
    refine own_by (fun _ kS => XS.iconst X216.here hx rfl (hb hby at_188) kS) ?_
    show own_Comes p e below s _ _ _ (T216.setTop (mkF m 189 #[.val (.int p0), .val (.int p1), .val (.long q2), .second, .val (.long q3), .second, .val (.long q4), .second, .val (.int p5), .val (.long P), .second, .val (.long M), .second, .val (.int D), .val (.int (1 : Int32)), .val (.long LT), .second, .val (.long (P * (1000000 : Int64))), .second, .val (.long (M * (1000000 : Int64))), .second, .val (.ref b193), .val (.int (1 : Int32)), .val (.int (1 : Int32))] [(.int (1 : Int32))]))
    refine own_by (fun _ kS => XS.goto X216.here hx rfl (pc0 := 189) (pc' := 193) rfl (hb hby at_189) (by decide) (by decide) kS) ?_
    show own_Comes p e below s _ _ _ (T216.setTop (mkF m 193 #[.val (.int p0), .val (.int p1), .val (.long q2), .second, .val (.long q3), .second, .val (.long q4), .second, .val (.int p5), .val (.long P), .second, .val (.long M), .second, .val (.int D), .val (.int (1 : Int32)), .val (.long LT), .second, .val (.long (P * (1000000 : Int64))), .second, .val (.long (M * (1000000 : Int64))), .second, .val (.ref b193), .val (.int (1 : Int32)), .val (.int (1 : Int32))] [(.int (1 : Int32))]))
    refine own_ret X216 (v := some (.int (1 : Int32))) (fun h => by rw [Bd.returns] at h; cases h) Bd.notSynchronized (by decide) (by decide) ?_ (fun fs hr => retN X216 hx (t := .boolean) Bd.returns (by simp) (hb hby at_193) hr)
    rw [e216]; exact ⟨rfl, N216⟩
set_option maxRecDepth 65536 in
set_option maxHeartbeats 40000000 in
theorem comes_1 {Post : Tables → Env → Array Value → State → Outcome → State → Prop} (hpost : ∀ tb e args s v u, (limb_1_1.after args s (.returned v) u = true ∧ limb_1_2.after args s (.returned v) u = true ∧ True) → FrameEnd s (.returned v) u (Jvm.fieldLocs frame_1_writes args s ++ Jvm.arrayLocs frame_1_arrays args s ++ Jvm.staticLocs frame_1_statics s) 16 128 → Post tb e args s (.returned v) u) :
    ArmFor flags0 classFile x code maxLocals ret World_1 tables_1 room_1 Calls_1 rest_1 Pre_1 Post := by
  intro l hfl _ _ p e ha hc hk s m args below hf hA hF happ hP
  obtain ⟨hcalls, hrest, hpre⟩ := hP
  obtain ⟨-, -, -, hnamed, -, -, -, hat⟩ := (Spec.applies_iff hf).mp happ
  obtain ⟨hg, hn⟩ := and_e (Cond.before_iff.mp (show (Jvm.Cond.and given_1 narrow_1).before args s = true from hpre))
  obtain ⟨hcount, hk0⟩ := and_e hg
  obtain ⟨ha0, hk1⟩ := and_e hk0
  obtain ⟨ha1, hk2⟩ := and_e hk1
  obtain ⟨ha2, hk3⟩ := and_e hk2
  obtain ⟨ha3, hk4⟩ := and_e hk3
  obtain ⟨ha4, hk5⟩ := and_e hk4
  have ha5 := hk5
  obtain ⟨w0, w1, w2, w3, w4, w5, rfl⟩ : ∃ w0 w1 w2 w3 w4 w5 : Value, args = #[w0, w1, w2, w3, w4, w5] := by
    have hs : args.size = 6 := by simpa [Cond.value, given_1] using hcount
    obtain ⟨L⟩ := args
    match L, hs with
    | [w0, w1, w2, w3, w4, w5], _ => exact ⟨w0, w1, w2, w3, w4, w5, rfl⟩
  have hw := fun d (hd : d ∈ tables_1) => atoms_spec (ws := Jvm.Cond.code x code maxLocals ret :: tables_1) hat d (List.mem_cons_of_mem _ hd)
  have hfit : Fit s := fun {y c} hc i hi => by
    obtain ⟨ha, rfl⟩ := Array.getElem?_eq_some_iff.mp hc
    have q := List.all_eq_true.mp ((Array.all_eq_true_iff_forall_mem.mp hF) _ (Array.getElem_mem ha)) i (List.mem_range.mpr hi)
    simpa [Array.getElem?_eq_getElem hi] using q
  obtain ⟨hsets, hown0⟩ := atoms_of _ (rest_1_c_eq ▸ (show rest_1_c.before _ s = true from hrest))
  obtain ⟨i0, ei0⟩ := is_v ha0
  obtain rfl : w0 = (.int i0) := Option.some.inj ei0
  obtain ⟨i1, ei1⟩ := is_v ha1
  obtain rfl : w1 = (.int i1) := Option.some.inj ei1
  obtain ⟨i2, ei2⟩ := isL_v ha2
  obtain rfl : w2 = (.long i2) := Option.some.inj ei2
  obtain ⟨i3, ei3⟩ := isL_v ha3
  obtain rfl : w3 = (.long i3) := Option.some.inj ei3
  obtain ⟨i4, ei4⟩ := isL_v ha4
  obtain rfl : w4 = (.long i4) := Option.some.inj ei4
  obtain ⟨i5, ei5⟩ := is_v ha5
  obtain rfl : w5 = (.int i5) := Option.some.inj ei5
  obtain ⟨ms, hms⟩ := exa_v (Cond.before_iff.mp (hsets _ (List.mem_of_getElem? (i := 2) rfl)))
  have Sm := Sta.start hms (Or.inl (hsets _ (List.mem_of_getElem? (i := 1) rfl)))
  have Em := Exa.start hms (Cond.before_iff.mp (hsets _ (List.mem_of_getElem? (i := 2) rfl)))
  have Fs : Fld s s.heap ms "java/util/concurrent/TimeUnit" "scale" "J" (.long (1000000 : Int64)) := own_fld (Cond.before_iff.mp (hsets _ (List.mem_of_getElem? (i := 5) rfl))) hms
  have Fx : Fld s s.heap ms "java/util/concurrent/TimeUnit" "maxNanos" "J" (.long (9223372036854 : Int64)) := own_fld (Cond.before_iff.mp (hsets _ (List.mem_of_getElem? (i := 6) rfl))) hms
  obtain ⟨n, o, h1, h2, h3, _, L, rfl, ⟨rfl, N⟩, hq⟩ := rm0 l s _ hw tables_1 i0 i1 i2 i3 i4 i5 ms s.heap s.heap.size (Nat.le_refl _) Sm Em Fs Fx p e ha hc hk s m _ below hf ((Spec.applies_iff_loose hf).mp happ).1 ⟨rfl, State.Warmed39.refl s, rfl⟩ trivial
  refine ⟨n, _, h1, h2, h3, hpost _ _ _ _ _ _ ⟨Cond.after_iff.mpr rfl, Cond.after_iff.mpr (eq_i res_at (Term.int_eval (1)) rfl), trivial⟩ ⟨hq.1, hq.2.1, (hq.2.2.sift fun y hy => Or.inr (N y hy)).mono (by decide) (by decide)⟩⟩
theorem main_1_1 : Claimed_1_1 := comes_1 fun _ _ _ _ _ _ h hF => ⟨h.1, hF⟩
theorem main_1_2 : Claimed_1_2 := comes_1 fun _ _ _ _ _ _ h hF => ⟨h.2.1, hF⟩
end Jvm.Pilot.@@N@@
namespace Jvm.Pilot.@@N@@
open Jvm Jvm.ClassFile Sem Op Lib Jvm.Free Jvm.Stand Jvm.Pilot.@@N@@.Jvm.D
/-! MADE BY PROGRAM (witnessworld.py) out of the Statement's table words and the real class files: 23 classes; the members and pool entries that the words name. The judged class is class 1, her method 1. -/
namespace start1
open Jvm.ClassFile
def u (s : String) : CpInfo := .utf8 (stringToUtf16 s)
/-- a pool by its gaps: so many unusable entries, then the entry; so many at the end -/
def gap : Nat → List CpInfo → List CpInfo
  | 0, r => r
  | n + 1, r => .unusable :: gap n r
def poolList (es : List (Nat × CpInfo)) (last : Nat) : List CpInfo := es.foldr (fun e r => gap e.1 (e.2 :: r)) (gap last [])
def pool (es : List (Nat × CpInfo)) (last : Nat) : Array CpInfo := ⟨poolList es last⟩
def fileOf (pool : Array CpInfo) (this : Nat) (attrs : Array Attribute := #[]) (ms : Array MethodInfo := #[]) (fl : Nat := 33) (sup : Nat := 0) (ifs : Array Nat := #[]) (fds : Array FieldInfo := #[]) : ClassFile where
  minorVersion := 0
  majorVersion := 65
  constantPool := pool
  accessFlags := fl
  thisClass := this
  superClass := sup
  interfaces := ifs
  fields := fds
  methods := ms
  attributes := attrs
def plain (name : String) (sup : Option ClassId) : Class where
  name := name
  kind := .ordinary
  loader := none
  accessFlags := 33
  super := sup
  interfaces := #[]
  cf := none
  fields := #[]
  methods := #[]
  instanceTypes := #[]
  staticTypes := #[]
  resolved := #[]
  callSites := []
  init := .initialized
  statics := none
  mirror := none

def pool0 : Array CpInfo := pool [(5, u "<init>"), (0, u "()V"), (1, .class_ 10), (1, u "java/lang/Object")] 113

def k0c0 : Code := { maxStack := 0, maxLocals := 1, code := object_method_1_code, exceptionTable := #[], attributes := #[] }
def k0m0 : Method := { name := "<init>", desc := "()V", sig := { parameters := [], returnType := none }, accessFlags := 1, code := some k0c0 }
/-- java/lang/Object -/
def k0 : Class := { plain "java/lang/Object" none with
  accessFlags := 33
  interfaces := #[]
  cf := some (fileOf pool0 8 #[] #[{ accessFlags := 1, nameIndex := 5, descriptorIndex := 6, attributes := #[] }] 33 0 #[] #[])
  fields := #[]
  methods := #[k0m0]
  instanceTypes := #[]
  staticTypes := #[]
  resolved := Array.replicate 124 none
  statics := none }

def pool1 : Array CpInfo := pool [(2, .class_ 4), (1, u "java/lang/Object"), (0, u "<init>"), (0, u "()V"), (0, .integer 2147483647), (0, .integer 3600000), (0, .long 3600001), (1, .long 1000000), (1, .class_ 14), (0, u "com/example/hetman/hetman/peer/ArrivalEstimator"), (0, .class_ 16), (0, u "com/example/hetman/hetman/HeartbeatTiming"), (0, .methodref 15 18), (0, .nameAndType 5 19), (0, u "(JJ)V"), (0, .methodref 13 21), (0, .nameAndType 5 22), (0, u "(Lcom/example/hetman/hetman/HeartbeatTiming;I)V"), (0, .methodref 13 24), (0, .nameAndType 25 26), (0, u "heard"), (0, u "(JJJ)V"), (0, .methodref 13 28), (0, .nameAndType 29 30), (0, u "restart"), (0, u "(J)V"), (0, .methodref 13 32), (0, .nameAndType 33 34), (0, u "freshnessNanos"), (0, u "()J"), (0, .class_ 36), (0, u "com/example/hetman/hetman/peer/ArrivalEstimatorRestartPinLaw"), (2, u "law"), (0, u "(IIJJJI)Z")] 3

def k1m0 : Method := { name := "<init>", desc := "()V", sig := { parameters := [], returnType := none }, accessFlags := 1, code := none }
def k1c1 : Code := { maxStack := 8, maxLocals := 24, code := code, exceptionTable := #[], attributes := #[] }
def k1m1 : Method := { name := "law", desc := "(IIJJJI)Z", sig := { parameters := [.int, .int, .long, .long, .long, .int], returnType := some .boolean }, accessFlags := 9, code := some k1c1 }
/-- com/example/hetman/hetman/peer/ArrivalEstimatorRestartPinLaw -/
def k1 : Class := { plain "com/example/hetman/hetman/peer/ArrivalEstimatorRestartPinLaw" (some 0) with
  accessFlags := 49
  interfaces := #[]
  cf := some (fileOf pool1 35 #[] #[{ accessFlags := 1, nameIndex := 5, descriptorIndex := 6, attributes := #[] }, { accessFlags := 9, nameIndex := 39, descriptorIndex := 40, attributes := #[] }] 49 2 #[] #[])
  fields := #[]
  methods := #[k1m0, k1m1]
  instanceTypes := #[]
  staticTypes := #[]
  resolved := Array.replicate 44 none
  statics := none }

def pool2 : Array CpInfo := pool [(1, .methodref 2 3), (0, .class_ 4), (0, .nameAndType 5 6), (0, u "java/lang/Object"), (0, u "<init>"), (0, u "()V"), (0, .fieldref 8 9), (0, .class_ 10), (0, .nameAndType 11 12), (0, u "java/util/concurrent/TimeUnit"), (0, u "MILLISECONDS"), (0, u "Ljava/util/concurrent/TimeUnit;"), (0, .methodref 14 15), (0, .class_ 16), (0, .nameAndType 17 18), (0, u "com/example/hetman/hetman/HeartbeatTiming"), (0, u "periodMs"), (0, u "()J"), (0, .methodref 8 20), (0, .nameAndType 21 22), (0, u "toNanos"), (0, u "(J)J"), (0, .fieldref 24 25), (0, .class_ 26), (0, .nameAndType 27 28), (0, u "com/example/hetman/hetman/peer/ArrivalEstimator"), (0, u "periodNanos"), (0, u "J"), (0, .methodref 14 30), (0, .nameAndType 31 18), (0, u "marginMs"), (0, .fieldref 24 33), (0, .nameAndType 34 28), (0, u "marginNanos"), (0, .fieldref 24 36), (0, .nameAndType 37 38), (0, u "offsets"), (0, u "[J"), (0, .fieldref 24 40), (0, .nameAndType 41 38), (0, u "sorted"), (0, .fieldref 24 43), (0, .nameAndType 44 45), (0, u "count"), (0, u "I"), (0, .fieldref 24 47), (0, .nameAndType 48 45), (0, u "next"), (0, .fieldref 24 50), (0, .nameAndType 51 28), (0, u "freshnessNanos"), (0, .fieldref 24 53), (0, .nameAndType 54 28), (0, u "largestLabel"), (4, .fieldref 24 60), (0, .nameAndType 61 28), (0, u "base"), (3, u "(J)V"), (0, .methodref 24 67), (0, .nameAndType 68 65), (0, u "insert"), (0, .fieldref 24 70), (0, .nameAndType 71 28), (0, u "lastOnTimeNanos"), (0, .methodref 24 73), (0, .nameAndType 74 18), (0, u "medianFromBase"), (6, .methodref 82 83), (0, .class_ 84), (0, .nameAndType 85 86), (0, u "java/util/Arrays"), (0, u "binarySearch"), (0, u "([JIIJ)I"), (0, .methodref 88 89), (0, .class_ 90), (0, .nameAndType 91 92), (0, u "java/lang/System"), (0, u "arraycopy"), (0, u "(Ljava/lang/Object;ILjava/lang/Object;II)V"), (0, .methodref 94 95), (0, .class_ 96), (0, .nameAndType 97 98), (0, u "java/lang/Math"), (0, u "floorDiv"), (0, u "(JI)J"), (0, u "(Lcom/example/hetman/hetman/HeartbeatTiming;I)V"), (2, u "restart"), (0, u "heard"), (0, u "(JJJ)V")] 3

def k2c0 : Code := { maxStack := 4, maxLocals := 3, code := prog_32_method_1_code, exceptionTable := #[], attributes := #[] }
def k2m0 : Method := { name := "<init>", desc := "(Lcom/example/hetman/hetman/HeartbeatTiming;I)V", sig := { parameters := [(.object "com/example/hetman/hetman/HeartbeatTiming"), .int], returnType := none }, accessFlags := 0, code := some k2c0 }
def k2c1 : Code := { maxStack := 5, maxLocals := 3, code := prog_32_method_2_code, exceptionTable := #[], attributes := #[] }
def k2m1 : Method := { name := "restart", desc := "(J)V", sig := { parameters := [.long], returnType := none }, accessFlags := 0, code := some k2c1 }
def k2c2 : Code := { maxStack := 2, maxLocals := 1, code := prog_32_method_3_code, exceptionTable := #[], attributes := #[] }
def k2m2 : Method := { name := "freshnessNanos", desc := "()J", sig := { parameters := [], returnType := some .long }, accessFlags := 0, code := some k2c2 }
def k2c3 : Code := { maxStack := 9, maxLocals := 11, code := prog_32_method_4_code, exceptionTable := #[], attributes := #[] }
def k2m3 : Method := { name := "heard", desc := "(JJJ)V", sig := { parameters := [.long, .long, .long], returnType := none }, accessFlags := 0, code := some k2c3 }
def k2c4 : Code := { maxStack := 6, maxLocals := 5, code := prog_32_method_6_code, exceptionTable := #[], attributes := #[] }
def k2m4 : Method := { name := "insert", desc := "(J)V", sig := { parameters := [.long], returnType := none }, accessFlags := 2, code := some k2c4 }
def k2c5 : Code := { maxStack := 6, maxLocals := 5, code := prog_32_method_8_code, exceptionTable := #[], attributes := #[] }
def k2m5 : Method := { name := "medianFromBase", desc := "()J", sig := { parameters := [], returnType := some .long }, accessFlags := 2, code := some k2c5 }
/-- com/example/hetman/hetman/peer/ArrivalEstimator -/
def k2 : Class := { plain "com/example/hetman/hetman/peer/ArrivalEstimator" (some 0) with
  accessFlags := 32
  interfaces := #[]
  cf := some (fileOf pool2 24 #[] #[{ accessFlags := 0, nameIndex := 5, descriptorIndex := 99, attributes := #[] }, { accessFlags := 0, nameIndex := 102, descriptorIndex := 65, attributes := #[] }, { accessFlags := 0, nameIndex := 51, descriptorIndex := 18, attributes := #[] }, { accessFlags := 0, nameIndex := 103, descriptorIndex := 104, attributes := #[] }, { accessFlags := 2, nameIndex := 68, descriptorIndex := 65, attributes := #[] }, { accessFlags := 2, nameIndex := 74, descriptorIndex := 18, attributes := #[] }] 32 2 #[] #[{ accessFlags := 18, nameIndex := 27, descriptorIndex := 28, attributes := #[] }, { accessFlags := 18, nameIndex := 34, descriptorIndex := 28, attributes := #[] }, { accessFlags := 18, nameIndex := 37, descriptorIndex := 38, attributes := #[] }, { accessFlags := 18, nameIndex := 41, descriptorIndex := 38, attributes := #[] }, { accessFlags := 2, nameIndex := 61, descriptorIndex := 28, attributes := #[] }, { accessFlags := 2, nameIndex := 44, descriptorIndex := 45, attributes := #[] }, { accessFlags := 2, nameIndex := 48, descriptorIndex := 45, attributes := #[] }, { accessFlags := 2, nameIndex := 54, descriptorIndex := 28, attributes := #[] }, { accessFlags := 2, nameIndex := 71, descriptorIndex := 28, attributes := #[] }, { accessFlags := 2, nameIndex := 51, descriptorIndex := 28, attributes := #[] }])
  fields := #[{ name := "periodNanos", type := .long, accessFlags := 18, slot := 0, constantValue := 0 }, { name := "marginNanos", type := .long, accessFlags := 18, slot := 1, constantValue := 0 }, { name := "offsets", type := (.array .long), accessFlags := 18, slot := 2, constantValue := 0 }, { name := "sorted", type := (.array .long), accessFlags := 18, slot := 3, constantValue := 0 }, { name := "base", type := .long, accessFlags := 2, slot := 4, constantValue := 0 }, { name := "count", type := .int, accessFlags := 2, slot := 5, constantValue := 0 }, { name := "next", type := .int, accessFlags := 2, slot := 6, constantValue := 0 }, { name := "largestLabel", type := .long, accessFlags := 2, slot := 7, constantValue := 0 }, { name := "lastOnTimeNanos", type := .long, accessFlags := 2, slot := 8, constantValue := 0 }, { name := "freshnessNanos", type := .long, accessFlags := 2, slot := 9, constantValue := 0 }]
  methods := #[k2m0, k2m1, k2m2, k2m3, k2m4, k2m5]
  instanceTypes := #[.long, .long, (.array .long), (.array .long), .long, .int, .int, .long, .long, .long]
  staticTypes := #[]
  resolved := Array.replicate 108 none
  statics := none }

def pool3 : Array CpInfo := pool [(1, .methodref 2 3), (0, .class_ 4), (0, .nameAndType 5 6), (0, u "java/lang/Object"), (0, u "<init>"), (0, u "()V"), (0, .class_ 8), (0, u "java/lang/Record")] 13

def k3c0 : Code := { maxStack := 1, maxLocals := 1, code := jdk_30_method_1_code, exceptionTable := #[], attributes := #[] }
def k3m0 : Method := { name := "<init>", desc := "()V", sig := { parameters := [], returnType := none }, accessFlags := 4, code := some k3c0 }
/-- java/lang/Record -/
def k3 : Class := { plain "java/lang/Record" (some 0) with
  accessFlags := 1057
  interfaces := #[]
  cf := some (fileOf pool3 7 #[] #[{ accessFlags := 4, nameIndex := 5, descriptorIndex := 6, attributes := #[] }] 1057 2 #[] #[])
  fields := #[]
  methods := #[k3m0]
  instanceTypes := #[]
  staticTypes := #[]
  resolved := Array.replicate 22 none
  statics := none }

def pool4 : Array CpInfo := pool [(1, .methodref 2 3), (0, .class_ 4), (0, .nameAndType 5 6), (0, u "java/lang/Record"), (0, u "<init>"), (0, u "()V"), (10, .class_ 18), (0, u "com/example/hetman/hetman/HeartbeatTiming"), (0, .long 3600000), (4, .fieldref 17 25), (0, .nameAndType 26 27), (0, u "periodMs"), (0, u "J"), (0, .fieldref 17 29), (0, .nameAndType 30 27), (0, u "marginMs"), (18, u "(JJ)V"), (2, u "DEFAULTS"), (0, u "Lcom/example/hetman/hetman/HeartbeatTiming;"), (0, u "MAX_DETECTION_MS"), (6, u "()J")] 37

def k4c0 : Code := { maxStack := 6, maxLocals := 5, code := prog_4_method_1_code, exceptionTable := #[], attributes := #[] }
def k4m0 : Method := { name := "<init>", desc := "(JJ)V", sig := { parameters := [.long, .long], returnType := none }, accessFlags := 1, code := some k4c0 }
def k4c1 : Code := { maxStack := 2, maxLocals := 1, code := prog_4_method_6_code, exceptionTable := #[], attributes := #[] }
def k4m1 : Method := { name := "periodMs", desc := "()J", sig := { parameters := [], returnType := some .long }, accessFlags := 1, code := some k4c1 }
def k4c2 : Code := { maxStack := 2, maxLocals := 1, code := prog_4_method_7_code, exceptionTable := #[], attributes := #[] }
def k4m2 : Method := { name := "marginMs", desc := "()J", sig := { parameters := [], returnType := some .long }, accessFlags := 1, code := some k4c2 }
/-- com/example/hetman/hetman/HeartbeatTiming -/
def k4 : Class := { plain "com/example/hetman/hetman/HeartbeatTiming" (some 3) with
  accessFlags := 49
  interfaces := #[]
  cf := some (fileOf pool4 17 #[] #[{ accessFlags := 1, nameIndex := 5, descriptorIndex := 49, attributes := #[] }, { accessFlags := 1, nameIndex := 26, descriptorIndex := 61, attributes := #[] }, { accessFlags := 1, nameIndex := 30, descriptorIndex := 61, attributes := #[] }] 49 2 #[] #[{ accessFlags := 18, nameIndex := 26, descriptorIndex := 27, attributes := #[] }, { accessFlags := 18, nameIndex := 30, descriptorIndex := 27, attributes := #[] }, { accessFlags := 25, nameIndex := 54, descriptorIndex := 27, attributes := #[] }, { accessFlags := 25, nameIndex := 52, descriptorIndex := 53, attributes := #[] }])
  fields := #[{ name := "periodMs", type := .long, accessFlags := 18, slot := 0, constantValue := 0 }, { name := "marginMs", type := .long, accessFlags := 18, slot := 1, constantValue := 0 }, { name := "MAX_DETECTION_MS", type := .long, accessFlags := 25, slot := 0, constantValue := 0 }, { name := "DEFAULTS", type := (.object "com/example/hetman/hetman/HeartbeatTiming"), accessFlags := 25, slot := 1, constantValue := 0 }]
  methods := #[k4m0, k4m1, k4m2]
  instanceTypes := #[.long, .long]
  staticTypes := #[.long, (.object "com/example/hetman/hetman/HeartbeatTiming")]
  resolved := Array.replicate 99 none
  statics := none }

def pool5 : Array CpInfo := pool [(1, .class_ 2), (0, u "java/lang/constant/Constable"), (0, .class_ 4), (0, u "java/lang/Object")] 6

/-- java/lang/constant/Constable -/
def k5 : Class := { plain "java/lang/constant/Constable" (some 0) with
  accessFlags := 1537
  interfaces := #[]
  cf := some (fileOf pool5 1 #[] #[] 1537 3 #[] #[])
  fields := #[]
  methods := #[]
  instanceTypes := #[]
  staticTypes := #[]
  resolved := Array.replicate 11 none
  statics := none }

def pool6 : Array CpInfo := pool [(1, .class_ 2), (0, u "java/lang/Comparable"), (0, .class_ 4), (0, u "java/lang/Object")] 7

/-- java/lang/Comparable -/
def k6 : Class := { plain "java/lang/Comparable" (some 0) with
  accessFlags := 1537
  interfaces := #[]
  cf := some (fileOf pool6 1 #[] #[] 1537 3 #[] #[])
  fields := #[]
  methods := #[]
  instanceTypes := #[]
  staticTypes := #[]
  resolved := Array.replicate 12 none
  statics := none }

def pool7 : Array CpInfo := pool [(1, .class_ 2), (0, u "java/io/Serializable"), (0, .class_ 4), (0, u "java/lang/Object")] 2

/-- java/io/Serializable -/
def k7 : Class := { plain "java/io/Serializable" (some 0) with
  accessFlags := 1537
  interfaces := #[]
  cf := some (fileOf pool7 1 #[] #[] 1537 3 #[] #[])
  fields := #[]
  methods := #[]
  instanceTypes := #[]
  staticTypes := #[]
  resolved := Array.replicate 7 none
  statics := none }

def pool8 : Array CpInfo := pool [(2, .class_ 4), (1, u "java/lang/Enum"), (0, u "name"), (0, u "Ljava/lang/String;"), (2, u "ordinal"), (0, u "I"), (1, .class_ 14), (1, u "java/lang/Object"), (4, u "hash"), (86, .class_ 108), (1, u "java/lang/Enum$EnumDesc"), (2, .class_ 112), (0, u "java/lang/constant/Constable"), (0, .class_ 114), (0, u "java/lang/Comparable"), (0, .class_ 116), (0, u "java/io/Serializable")] 87

/-- java/lang/Enum -/
def k8 : Class := { plain "java/lang/Enum" (some 0) with
  accessFlags := 1057
  interfaces := #[5, 6, 7]
  cf := some (fileOf pool8 2 #[.nestMembers #[106]] #[] 1057 12 #[111, 113, 115] #[{ accessFlags := 18, nameIndex := 5, descriptorIndex := 6, attributes := #[] }, { accessFlags := 18, nameIndex := 9, descriptorIndex := 10, attributes := #[] }, { accessFlags := 2, nameIndex := 19, descriptorIndex := 10, attributes := #[] }])
  fields := #[{ name := "name", type := (.object "java/lang/String"), accessFlags := 18, slot := 0, constantValue := 0 }, { name := "ordinal", type := .int, accessFlags := 18, slot := 1, constantValue := 0 }, { name := "hash", type := .int, accessFlags := 2, slot := 2, constantValue := 0 }]
  methods := #[]
  instanceTypes := #[(.object "java/lang/String"), .int, .int]
  staticTypes := #[]
  resolved := Array.replicate 204 none
  statics := none }

def pool9 : Array CpInfo := pool [(1, .class_ 2), (0, u "java/util/concurrent/TimeUnit"), (2, u "NANOSECONDS"), (0, u "Ljava/util/concurrent/TimeUnit;"), (2, u "MICROSECONDS"), (2, u "MILLISECONDS"), (2, u "SECONDS"), (2, u "MINUTES"), (2, u "HOURS"), (2, u "DAYS"), (2, u "$VALUES"), (0, u "[Ljava/util/concurrent/TimeUnit;"), (6, .class_ 37), (1, u "java/lang/Enum"), (6, .fieldref 1 45), (0, .nameAndType 46 47), (0, u "scale"), (0, u "J"), (4, .fieldref 1 53), (0, .nameAndType 54 47), (0, u "maxNanos"), (4, u "microRatio"), (2, u "maxMicros"), (4, u "milliRatio"), (0, u "I"), (2, u "maxMillis"), (4, u "secRatio"), (2, u "maxSecs"), (8, u "toNanos"), (0, u "(J)J"), (73, .class_ 165), (1, u "java/util/concurrent/TimeUnit$1"), (46, u "NANO_SCALE"), (3, u "MICRO_SCALE"), (0, u "MILLI_SCALE"), (0, u "SECOND_SCALE"), (0, u "MINUTE_SCALE"), (0, u "HOUR_SCALE"), (0, u "DAY_SCALE")] 61

def k9c0 : Code := { maxStack := 6, maxLocals := 7, code := jdk_2799_method_7_code, exceptionTable := #[], attributes := #[] }
def k9m0 : Method := { name := "toNanos", desc := "(J)J", sig := { parameters := [.long], returnType := some .long }, accessFlags := 1, code := some k9c0 }
/-- java/util/concurrent/TimeUnit -/
def k9 : Class := { plain "java/util/concurrent/TimeUnit" (some 8) with
  accessFlags := 16433
  interfaces := #[]
  cf := some (fileOf pool9 1 #[.nestMembers #[163]] #[{ accessFlags := 1, nameIndex := 88, descriptorIndex := 89, attributes := #[] }] 16433 35 #[] #[{ accessFlags := 16409, nameIndex := 5, descriptorIndex := 6, attributes := #[] }, { accessFlags := 16409, nameIndex := 9, descriptorIndex := 6, attributes := #[] }, { accessFlags := 16409, nameIndex := 12, descriptorIndex := 6, attributes := #[] }, { accessFlags := 16409, nameIndex := 15, descriptorIndex := 6, attributes := #[] }, { accessFlags := 16409, nameIndex := 18, descriptorIndex := 6, attributes := #[] }, { accessFlags := 16409, nameIndex := 21, descriptorIndex := 6, attributes := #[] }, { accessFlags := 16409, nameIndex := 24, descriptorIndex := 6, attributes := #[] }, { accessFlags := 26, nameIndex := 212, descriptorIndex := 47, attributes := #[] }, { accessFlags := 26, nameIndex := 216, descriptorIndex := 47, attributes := #[] }, { accessFlags := 26, nameIndex := 217, descriptorIndex := 47, attributes := #[] }, { accessFlags := 26, nameIndex := 218, descriptorIndex := 47, attributes := #[] }, { accessFlags := 26, nameIndex := 219, descriptorIndex := 47, attributes := #[] }, { accessFlags := 26, nameIndex := 220, descriptorIndex := 47, attributes := #[] }, { accessFlags := 26, nameIndex := 221, descriptorIndex := 47, attributes := #[] }, { accessFlags := 18, nameIndex := 46, descriptorIndex := 47, attributes := #[] }, { accessFlags := 18, nameIndex := 54, descriptorIndex := 47, attributes := #[] }, { accessFlags := 18, nameIndex := 62, descriptorIndex := 47, attributes := #[] }, { accessFlags := 18, nameIndex := 71, descriptorIndex := 47, attributes := #[] }, { accessFlags := 18, nameIndex := 79, descriptorIndex := 47, attributes := #[] }, { accessFlags := 18, nameIndex := 59, descriptorIndex := 47, attributes := #[] }, { accessFlags := 18, nameIndex := 67, descriptorIndex := 68, attributes := #[] }, { accessFlags := 18, nameIndex := 76, descriptorIndex := 68, attributes := #[] }, { accessFlags := 4122, nameIndex := 27, descriptorIndex := 28, attributes := #[] }])
  fields := #[{ name := "NANOSECONDS", type := (.object "java/util/concurrent/TimeUnit"), accessFlags := 16409, slot := 0, constantValue := 0 }, { name := "MICROSECONDS", type := (.object "java/util/concurrent/TimeUnit"), accessFlags := 16409, slot := 1, constantValue := 0 }, { name := "MILLISECONDS", type := (.object "java/util/concurrent/TimeUnit"), accessFlags := 16409, slot := 2, constantValue := 0 }, { name := "SECONDS", type := (.object "java/util/concurrent/TimeUnit"), accessFlags := 16409, slot := 3, constantValue := 0 }, { name := "MINUTES", type := (.object "java/util/concurrent/TimeUnit"), accessFlags := 16409, slot := 4, constantValue := 0 }, { name := "HOURS", type := (.object "java/util/concurrent/TimeUnit"), accessFlags := 16409, slot := 5, constantValue := 0 }, { name := "DAYS", type := (.object "java/util/concurrent/TimeUnit"), accessFlags := 16409, slot := 6, constantValue := 0 }, { name := "NANO_SCALE", type := .long, accessFlags := 26, slot := 7, constantValue := 0 }, { name := "MICRO_SCALE", type := .long, accessFlags := 26, slot := 8, constantValue := 0 }, { name := "MILLI_SCALE", type := .long, accessFlags := 26, slot := 9, constantValue := 0 }, { name := "SECOND_SCALE", type := .long, accessFlags := 26, slot := 10, constantValue := 0 }, { name := "MINUTE_SCALE", type := .long, accessFlags := 26, slot := 11, constantValue := 0 }, { name := "HOUR_SCALE", type := .long, accessFlags := 26, slot := 12, constantValue := 0 }, { name := "DAY_SCALE", type := .long, accessFlags := 26, slot := 13, constantValue := 0 }, { name := "scale", type := .long, accessFlags := 18, slot := 3, constantValue := 0 }, { name := "maxNanos", type := .long, accessFlags := 18, slot := 4, constantValue := 0 }, { name := "maxMicros", type := .long, accessFlags := 18, slot := 5, constantValue := 0 }, { name := "maxMillis", type := .long, accessFlags := 18, slot := 6, constantValue := 0 }, { name := "maxSecs", type := .long, accessFlags := 18, slot := 7, constantValue := 0 }, { name := "microRatio", type := .long, accessFlags := 18, slot := 8, constantValue := 0 }, { name := "milliRatio", type := .int, accessFlags := 18, slot := 9, constantValue := 0 }, { name := "secRatio", type := .int, accessFlags := 18, slot := 10, constantValue := 0 }, { name := "$VALUES", type := (.array (.object "java/util/concurrent/TimeUnit")), accessFlags := 4122, slot := 14, constantValue := 0 }]
  methods := #[k9m0]
  instanceTypes := #[(.object "java/lang/String"), .int, .int, .long, .long, .long, .long, .long, .long, .int, .int]
  staticTypes := #[(.object "java/util/concurrent/TimeUnit"), (.object "java/util/concurrent/TimeUnit"), (.object "java/util/concurrent/TimeUnit"), (.object "java/util/concurrent/TimeUnit"), (.object "java/util/concurrent/TimeUnit"), (.object "java/util/concurrent/TimeUnit"), (.object "java/util/concurrent/TimeUnit"), .long, .long, .long, .long, .long, .long, .long, (.array (.object "java/util/concurrent/TimeUnit"))]
  resolved := Array.replicate 283 none
  statics := some 0 }

def pool10 : Array CpInfo := pool [(2, .class_ 4), (1, u "java/lang/Object"), (0, u "<init>"), (0, u "()V"), (6, .methodref 14 15), (0, .class_ 16), (0, .nameAndType 17 18), (0, u "java/util/Arrays"), (0, u "rangeCheck"), (0, u "(III)V"), (55, .class_ 76), (1, u "java/util/Arrays$NaturalOrder"), (36, .class_ 115), (1, u "java/util/Arrays$LegacyMergeSort"), (1, u "Z"), (87, .methodref 14 206), (0, .nameAndType 207 208), (0, u "binarySearch0"), (0, u "([JIIJ)I"), (166, .class_ 376), (0, u "java/util/Arrays$ArrayList"), (68, u "$assertionsDisabled"), (269, u "MIN_ARRAY_SORT_GRAN"), (0, u "I"), (2, u "INSERTIONSORT_THRESHOLD"), (74, u "binarySearch"), (180, .class_ 976), (0, u "java/util/Arrays$ArrayItr")] 52

def k10m0 : Method := { name := "<init>", desc := "()V", sig := { parameters := [], returnType := none }, accessFlags := 2, code := none }
def k10c1 : Code := { maxStack := 4, maxLocals := 3, code := jdk_65_method_30_code, exceptionTable := #[], attributes := #[] }
def k10m1 : Method := { name := "rangeCheck", desc := "(III)V", sig := { parameters := [.int, .int, .int], returnType := none }, accessFlags := 8, code := some k10c1 }
def k10c2 : Code := { maxStack := 5, maxLocals := 5, code := jdk_65_method_55_code, exceptionTable := #[], attributes := #[] }
def k10m2 : Method := { name := "binarySearch", desc := "([JIIJ)I", sig := { parameters := [(.array .long), .int, .int, .long], returnType := some .int }, accessFlags := 9, code := some k10c2 }
def k10c3 : Code := { maxStack := 4, maxLocals := 10, code := jdk_65_method_56_code, exceptionTable := #[], attributes := #[] }
def k10m3 : Method := { name := "binarySearch0", desc := "([JIIJ)I", sig := { parameters := [(.array .long), .int, .int, .long], returnType := some .int }, accessFlags := 10, code := some k10c3 }
/-- java/util/Arrays -/
def k10 : Class := { plain "java/util/Arrays" (some 0) with
  accessFlags := 49
  interfaces := #[]
  cf := some (fileOf pool10 14 #[.nestMembers #[975, 375, 113, 74]] #[{ accessFlags := 2, nameIndex := 5, descriptorIndex := 6, attributes := #[] }, { accessFlags := 8, nameIndex := 17, descriptorIndex := 18, attributes := #[] }, { accessFlags := 9, nameIndex := 794, descriptorIndex := 208, attributes := #[] }, { accessFlags := 10, nameIndex := 207, descriptorIndex := 208, attributes := #[] }] 49 2 #[] #[{ accessFlags := 26, nameIndex := 715, descriptorIndex := 716, attributes := #[] }, { accessFlags := 26, nameIndex := 719, descriptorIndex := 716, attributes := #[] }, { accessFlags := 4120, nameIndex := 445, descriptorIndex := 117, attributes := #[] }])
  fields := #[{ name := "MIN_ARRAY_SORT_GRAN", type := .int, accessFlags := 26, slot := 0, constantValue := 0 }, { name := "INSERTIONSORT_THRESHOLD", type := .int, accessFlags := 26, slot := 1, constantValue := 0 }, { name := "$assertionsDisabled", type := .boolean, accessFlags := 4120, slot := 2, constantValue := 0 }]
  methods := #[k10m0, k10m1, k10m2, k10m3]
  instanceTypes := #[]
  staticTypes := #[.int, .int, .boolean]
  resolved := Array.replicate 1029 none
  statics := none }

def pool11 : Array CpInfo := pool [(2, .class_ 4), (1, u "java/lang/Object"), (0, u "<init>"), (0, u "()V"), (1, .class_ 10), (1, u "java/lang/System"), (0, u "allowSecurityManager"), (0, u "I"), (16, u "cons"), (0, u "Ljava/io/Console;"), (77, .class_ 110), (1, u "java/lang/System$CallersHolder"), (43, u "initialErrStream"), (0, u "Ljava/io/PrintStream;"), (19, u "security"), (0, u "Ljava/lang/SecurityManager;"), (31, .class_ 209), (0, u "java/lang/System$1"), (7, u "props"), (0, u "Ljava/util/Properties;"), (2, u "lineSeparator"), (0, u "Ljava/lang/String;"), (96, .class_ 321), (1, u "java/lang/System$LoggerFinder"), (5, .class_ 328), (0, u "java/lang/System$Logger"), (67, u "err"), (2, u "out"), (91, u "notSupportedJnuEncoding"), (15, u "in"), (17, u "initialIn"), (0, u "Ljava/io/InputStream;"), (35, u "bootLayer"), (0, u "Ljava/lang/ModuleLayer;"), (99, .class_ 664), (0, u "java/lang/System$2"), (9, u "NEVER"), (2, u "MAYBE"), (49, u "arraycopy"), (0, u "(Ljava/lang/Object;ILjava/lang/Object;II)V"), (72, .class_ 802), (0, u "java/lang/System$Logger$Level")] 31

def k11m0 : Method := { name := "<init>", desc := "()V", sig := { parameters := [], returnType := none }, accessFlags := 2, code := none }
def k11m1 : Method := { name := "arraycopy", desc := "(Ljava/lang/Object;ILjava/lang/Object;II)V", sig := { parameters := [(.object "java/lang/Object"), .int, (.object "java/lang/Object"), .int, .int], returnType := none }, accessFlags := 265, code := none }
/-- java/lang/System -/
def k11 : Class := { plain "java/lang/System" (some 0) with
  accessFlags := 49
  interfaces := #[]
  cf := some (fileOf pool11 8 #[.nestMembers #[319, 327, 801, 108, 663, 208]] #[{ accessFlags := 2, nameIndex := 5, descriptorIndex := 6, attributes := #[] }, { accessFlags := 265, nameIndex := 727, descriptorIndex := 728, attributes := #[] }] 49 2 #[] #[{ accessFlags := 25, nameIndex := 507, descriptorIndex := 526, attributes := #[] }, { accessFlags := 25, nameIndex := 399, descriptorIndex := 155, attributes := #[] }, { accessFlags := 25, nameIndex := 396, descriptorIndex := 155, attributes := #[] }, { accessFlags := 10, nameIndex := 525, descriptorIndex := 526, attributes := #[] }, { accessFlags := 26, nameIndex := 674, descriptorIndex := 12, attributes := #[] }, { accessFlags := 26, nameIndex := 677, descriptorIndex := 12, attributes := #[] }, { accessFlags := 10, nameIndex := 11, descriptorIndex := 12, attributes := #[] }, { accessFlags := 74, nameIndex := 175, descriptorIndex := 176, attributes := #[] }, { accessFlags := 10, nameIndex := 491, descriptorIndex := 222, attributes := #[] }, { accessFlags := 74, nameIndex := 29, descriptorIndex := 30, attributes := #[] }, { accessFlags := 74, nameIndex := 154, descriptorIndex := 155, attributes := #[] }, { accessFlags := 10, nameIndex := 217, descriptorIndex := 218, attributes := #[] }, { accessFlags := 10, nameIndex := 221, descriptorIndex := 222, attributes := #[] }, { accessFlags := 8, nameIndex := 562, descriptorIndex := 563, attributes := #[] }])
  fields := #[{ name := "in", type := (.object "java/io/InputStream"), accessFlags := 25, slot := 0, constantValue := 0 }, { name := "out", type := (.object "java/io/PrintStream"), accessFlags := 25, slot := 1, constantValue := 0 }, { name := "err", type := (.object "java/io/PrintStream"), accessFlags := 25, slot := 2, constantValue := 0 }, { name := "initialIn", type := (.object "java/io/InputStream"), accessFlags := 10, slot := 3, constantValue := 0 }, { name := "NEVER", type := .int, accessFlags := 26, slot := 4, constantValue := 0 }, { name := "MAYBE", type := .int, accessFlags := 26, slot := 5, constantValue := 0 }, { name := "allowSecurityManager", type := .int, accessFlags := 10, slot := 6, constantValue := 0 }, { name := "security", type := (.object "java/lang/SecurityManager"), accessFlags := 74, slot := 7, constantValue := 0 }, { name := "notSupportedJnuEncoding", type := (.object "java/lang/String"), accessFlags := 10, slot := 8, constantValue := 0 }, { name := "cons", type := (.object "java/io/Console"), accessFlags := 74, slot := 9, constantValue := 0 }, { name := "initialErrStream", type := (.object "java/io/PrintStream"), accessFlags := 74, slot := 10, constantValue := 0 }, { name := "props", type := (.object "java/util/Properties"), accessFlags := 10, slot := 11, constantValue := 0 }, { name := "lineSeparator", type := (.object "java/lang/String"), accessFlags := 10, slot := 12, constantValue := 0 }, { name := "bootLayer", type := (.object "java/lang/ModuleLayer"), accessFlags := 8, slot := 13, constantValue := 0 }]
  methods := #[k11m0, k11m1]
  instanceTypes := #[]
  staticTypes := #[(.object "java/io/InputStream"), (.object "java/io/PrintStream"), (.object "java/io/PrintStream"), (.object "java/io/InputStream"), .int, .int, .int, (.object "java/lang/SecurityManager"), (.object "java/lang/String"), (.object "java/io/Console"), (.object "java/io/PrintStream"), (.object "java/util/Properties"), (.object "java/lang/String"), (.object "java/lang/ModuleLayer")]
  resolved := Array.replicate 834 none
  statics := none }

def pool12 : Array CpInfo := pool [(1, .class_ 2), (0, u "java/lang/Math"), (1, .class_ 6), (1, u "java/lang/Object"), (0, u "<init>"), (0, u "()V"), (89, .class_ 100), (1, u "java/lang/Math$RandomNumberGeneratorHolder"), (20, u "(JJ)J"), (21, .methodref 1 144), (0, .nameAndType 145 121), (0, u "floorDiv"), (26, u "negativeZeroFloatBits"), (0, u "J"), (2, u "negativeZeroDoubleBits"), (68, u "$assertionsDisabled"), (0, u "Z"), (91, u "twoToTheDoubleScaleDown"), (0, u "D"), (4, u "twoToTheDoubleScaleUp"), (9, u "E"), (3, u "PI"), (2, u "TAU"), (2, u "DEGREES_TO_RADIANS"), (0, u "RADIANS_TO_DEGREES"), (29, u "(JI)J")] 64

def k12m0 : Method := { name := "<init>", desc := "()V", sig := { parameters := [], returnType := none }, accessFlags := 2, code := none }
def k12c1 : Code := { maxStack := 4, maxLocals := 3, code := jdk_29_method_48_code, exceptionTable := #[], attributes := #[] }
def k12m1 : Method := { name := "floorDiv", desc := "(JI)J", sig := { parameters := [.long, .int], returnType := some .long }, accessFlags := 9, code := some k12c1 }
def k12c2 : Code := { maxStack := 4, maxLocals := 6, code := jdk_29_method_49_code, exceptionTable := #[], attributes := #[] }
def k12m2 : Method := { name := "floorDiv", desc := "(JJ)J", sig := { parameters := [.long, .long], returnType := some .long }, accessFlags := 9, code := some k12c2 }
/-- java/lang/Math -/
def k12 : Class := { plain "java/lang/Math" (some 0) with
  accessFlags := 49
  interfaces := #[]
  cf := some (fileOf pool12 1 #[.nestMembers #[98]] #[{ accessFlags := 2, nameIndex := 7, descriptorIndex := 8, attributes := #[] }, { accessFlags := 9, nameIndex := 145, descriptorIndex := 395, attributes := #[] }, { accessFlags := 9, nameIndex := 145, descriptorIndex := 121, attributes := #[] }] 49 4 #[] #[{ accessFlags := 25, nameIndex := 354, descriptorIndex := 339, attributes := #[] }, { accessFlags := 25, nameIndex := 358, descriptorIndex := 339, attributes := #[] }, { accessFlags := 25, nameIndex := 361, descriptorIndex := 339, attributes := #[] }, { accessFlags := 26, nameIndex := 364, descriptorIndex := 339, attributes := #[] }, { accessFlags := 26, nameIndex := 365, descriptorIndex := 339, attributes := #[] }, { accessFlags := 26, nameIndex := 172, descriptorIndex := 173, attributes := #[] }, { accessFlags := 26, nameIndex := 176, descriptorIndex := 173, attributes := #[] }, { accessFlags := 8, nameIndex := 344, descriptorIndex := 339, attributes := #[] }, { accessFlags := 8, nameIndex := 338, descriptorIndex := 339, attributes := #[] }, { accessFlags := 4120, nameIndex := 245, descriptorIndex := 246, attributes := #[] }])
  fields := #[{ name := "E", type := .double, accessFlags := 25, slot := 0, constantValue := 0 }, { name := "PI", type := .double, accessFlags := 25, slot := 1, constantValue := 0 }, { name := "TAU", type := .double, accessFlags := 25, slot := 2, constantValue := 0 }, { name := "DEGREES_TO_RADIANS", type := .double, accessFlags := 26, slot := 3, constantValue := 0 }, { name := "RADIANS_TO_DEGREES", type := .double, accessFlags := 26, slot := 4, constantValue := 0 }, { name := "negativeZeroFloatBits", type := .long, accessFlags := 26, slot := 5, constantValue := 0 }, { name := "negativeZeroDoubleBits", type := .long, accessFlags := 26, slot := 6, constantValue := 0 }, { name := "twoToTheDoubleScaleUp", type := .double, accessFlags := 8, slot := 7, constantValue := 0 }, { name := "twoToTheDoubleScaleDown", type := .double, accessFlags := 8, slot := 8, constantValue := 0 }, { name := "$assertionsDisabled", type := .boolean, accessFlags := 4120, slot := 9, constantValue := 0 }]
  methods := #[k12m0, k12m1, k12m2]
  instanceTypes := #[]
  staticTypes := #[.double, .double, .double, .double, .double, .long, .long, .double, .double, .boolean]
  resolved := Array.replicate 460 none
  statics := none }

def pool13 : Array CpInfo := pool [(2, .class_ 4), (1, u "java/lang/CharSequence"), (42, .class_ 48), (0, u "java/lang/CharSequence$1CodePointIterator"), (10, .class_ 60), (0, u "java/lang/CharSequence$1CharIterator"), (5, .class_ 67), (0, u "java/lang/Object")] 63

/-- java/lang/CharSequence -/
def k13 : Class := { plain "java/lang/CharSequence" (some 0) with
  accessFlags := 1537
  interfaces := #[]
  cf := some (fileOf pool13 2 #[.nestMembers #[47, 59]] #[] 1537 66 #[] #[])
  fields := #[]
  methods := #[]
  instanceTypes := #[]
  staticTypes := #[]
  resolved := Array.replicate 131 none
  statics := none }

def pool14 : Array CpInfo := pool [(1, .class_ 2), (0, u "java/lang/constant/ConstantDesc"), (0, .class_ 4), (0, u "java/lang/Object")] 32

/-- java/lang/constant/ConstantDesc -/
def k14 : Class := { plain "java/lang/constant/ConstantDesc" (some 0) with
  accessFlags := 1537
  interfaces := #[]
  cf := some (fileOf pool14 1 #[] #[] 1537 3 #[] #[])
  fields := #[]
  methods := #[]
  instanceTypes := #[]
  staticTypes := #[]
  resolved := Array.replicate 37 none
  statics := none }

def pool15 : Array CpInfo := pool [(2, .class_ 4), (1, u "java/lang/Object"), (0, u "<init>"), (0, u "()V"), (3, .class_ 12), (1, u "java/lang/String"), (0, u "value"), (0, u "[B"), (2, u "coder"), (0, u "B"), (2, u "hash"), (0, u "I"), (2, u "hashIsZero"), (0, u "Z"), (13, u "COMPACT_STRINGS"), (534, .class_ 576), (0, u "java/lang/CharSequence"), (22, u "CASE_INSENSITIVE_ORDER"), (0, u "Ljava/util/Comparator;"), (500, u "serialPersistentFields"), (0, u "[Ljava/io/ObjectStreamField;"), (0, .class_ 1104), (0, u "java/lang/String$CaseInsensitiveComparator"), (1, .class_ 1107), (0, u "java/io/Serializable"), (0, .class_ 1109), (0, u "java/lang/Comparable"), (0, .class_ 1111), (0, u "java/lang/constant/Constable"), (0, .class_ 1113), (0, u "java/lang/constant/ConstantDesc"), (2, u "serialVersionUID"), (0, u "J"), (3, u "REPL"), (0, u "C"), (2, u "LATIN1"), (1, u "UTF16")] 323

def k15m0 : Method := { name := "<init>", desc := "()V", sig := { parameters := [], returnType := none }, accessFlags := 1, code := none }
/-- java/lang/String -/
def k15 : Class := { plain "java/lang/String" (some 0) with
  accessFlags := 49
  interfaces := #[7, 6, 13, 5, 14]
  cf := some (fileOf pool15 10 #[.nestMembers #[1103]] #[{ accessFlags := 1, nameIndex := 5, descriptorIndex := 6, attributes := #[] }] 49 2 #[1106, 1108, 575, 1110, 1112] #[{ accessFlags := 18, nameIndex := 13, descriptorIndex := 14, attributes := #[] }, { accessFlags := 18, nameIndex := 17, descriptorIndex := 18, attributes := #[] }, { accessFlags := 2, nameIndex := 21, descriptorIndex := 22, attributes := #[] }, { accessFlags := 2, nameIndex := 25, descriptorIndex := 26, attributes := #[] }, { accessFlags := 26, nameIndex := 1116, descriptorIndex := 1117, attributes := #[] }, { accessFlags := 24, nameIndex := 40, descriptorIndex := 26, attributes := #[] }, { accessFlags := 26, nameIndex := 1101, descriptorIndex := 1102, attributes := #[] }, { accessFlags := 26, nameIndex := 1121, descriptorIndex := 1122, attributes := #[] }, { accessFlags := 25, nameIndex := 599, descriptorIndex := 600, attributes := #[] }, { accessFlags := 24, nameIndex := 1125, descriptorIndex := 18, attributes := #[] }, { accessFlags := 24, nameIndex := 1127, descriptorIndex := 18, attributes := #[] }])
  fields := #[{ name := "value", type := (.array .byte), accessFlags := 18, slot := 0, constantValue := 0 }, { name := "coder", type := .byte, accessFlags := 18, slot := 1, constantValue := 0 }, { name := "hash", type := .int, accessFlags := 2, slot := 2, constantValue := 0 }, { name := "hashIsZero", type := .boolean, accessFlags := 2, slot := 3, constantValue := 0 }, { name := "serialVersionUID", type := .long, accessFlags := 26, slot := 0, constantValue := 0 }, { name := "COMPACT_STRINGS", type := .boolean, accessFlags := 24, slot := 1, constantValue := 0 }, { name := "serialPersistentFields", type := (.array (.object "java/io/ObjectStreamField")), accessFlags := 26, slot := 2, constantValue := 0 }, { name := "REPL", type := .char, accessFlags := 26, slot := 3, constantValue := 0 }, { name := "CASE_INSENSITIVE_ORDER", type := (.object "java/util/Comparator"), accessFlags := 25, slot := 4, constantValue := 0 }, { name := "LATIN1", type := .byte, accessFlags := 24, slot := 5, constantValue := 0 }, { name := "UTF16", type := .byte, accessFlags := 24, slot := 6, constantValue := 0 }]
  methods := #[k15m0]
  instanceTypes := #[(.array .byte), .byte, .int, .boolean]
  staticTypes := #[.long, .boolean, (.array (.object "java/io/ObjectStreamField")), .char, (.object "java/util/Comparator"), .byte, .byte]
  resolved := Array.replicate 1451 none
  statics := none }

def pool16 : Array CpInfo := pool [(1, u "java/lang/Cloneable"), (0, .class_ 1), (0, u "java/lang/Object"), (0, .class_ 3)] 3

/-- java/lang/Cloneable -/
def k16 : Class := { plain "java/lang/Cloneable" (some 0) with
  accessFlags := 1537
  interfaces := #[]
  cf := some (fileOf pool16 2 #[] #[] 1537 4 #[] #[])
  fields := #[]
  methods := #[]
  instanceTypes := #[]
  staticTypes := #[]
  resolved := Array.replicate 8 none
  statics := none }

/-- the primitive byte -/
def k17 : Class := { plain "byte" none with kind := .primitive 'B', accessFlags := 0x411 }
/-- [B -/
def k18 : Class := { plain "[B" (some 0) with kind := .array 17 .byte, interfaces := #[16, 7], accessFlags := 1041 }

/-- the primitive int -/
def k19 : Class := { plain "int" none with kind := .primitive 'I', accessFlags := 0x411 }
/-- [I -/
def k20 : Class := { plain "[I" (some 0) with kind := .array 19 .int, interfaces := #[16, 7], accessFlags := 1041 }

/-- the primitive long -/
def k21 : Class := { plain "long" none with kind := .primitive 'J', accessFlags := 0x411 }
/-- [J -/
def k22 : Class := { plain "[J" (some 0) with kind := .array 21 .long, interfaces := #[16, 7], accessFlags := 1041 }

def heap : Heap := #[{ cls := 9, slots := #[.null, .null, .ref 2, .null, .null, .null, .null, .long 0, .long 0, .long 0, .long 0, .long 0, .long 0, .long 0, .null], vm := .statics 9 },
  { cls := 15, slots := #[.null, .int 0, .int 0, .int 0], vm := .none },
  { cls := 9, slots := #[.ref 1, .int 2, .int 0, .long 1000000, .long 9223372036854, .long 9223372036854775, .long 9223372036854775807, .long 9223372036854775, .long 1000, .int 1, .int 1000], vm := .none }]
def classes : Array Class := #[k0, k1, k2, k3, k4, k5, k6, k7, k8, k9, k10, k11, k12, k13, k14, k15, k16, k17, k18, k19, k20, k21, k22]
def interned : List (Array UInt16 × Addr) := []
def slotsUsed : Nat := 30
def theMethod : MethodId := ⟨1, 1⟩
def args0 : Array Value := #[.int 5, .int 3, .long 3, .long 7, .long 9, .int 0]
def aboutOver (below : List Frame) : State where
  vm := { classes := classes, interned := interned.toArray }
  heap := heap
  slotsUsed := slotsUsed
  threads := #[{ frames := .invoking theMethod args0 :: below }]
def below0 : List Frame := [.native { method := ⟨0, 0⟩, args := #[] }]
def about1 : State := aboutOver below0
def p0 : Program := .bare "" "" ""
def e0 : Env := launch0.env 0 0 0
theorem w_frames : about1.frames = Frame.invoking theMethod args0 :: below0 := rfl
set_option maxRecDepth 65536 in
theorem w_args : argsFit about1.vm theMethod args0 = true := by decide +kernel
set_option maxRecDepth 65536 in
theorem w_heap : heapFits about1 = true := by decide +kernel
set_option maxRecDepth 65536 in
theorem w_runnable : about1.curStatus? = some .runnable := by decide +kernel
set_option maxRecDepth 65536 in
theorem w_alone : about1.alone = true := by decide +kernel
set_option maxRecDepth 65536 in
theorem w_named : about1.methodNamed? x = some theMethod := by decide +kernel
set_option maxRecDepth 65536 in
theorem w_hears : about1.hears theMethod below0 = true := by decide +kernel
set_option maxRecDepth 65536 in
theorem w_ripe : about1.ripe theMethod args0 below0 = true := by decide +kernel
theorem w_running : about1.status = .running := rfl
set_option maxRecDepth 65536 in
theorem w_room : about1.hasRoom e0.platform room_1 = true :=
  launch0.hasRoom_least _ room_1 (by decide +kernel) (by decide +kernel) (by decide +kernel) (by decide +kernel) (by decide +kernel) (by decide +kernel)
theorem allAtoms_all (ts : List Jvm.Cond) (a : Array Jvm.Value) (st : Jvm.State) : (allAtoms ts).before a st = ts.all (fun c => c.before a st) := by
  induction ts with
  | nil => rfl
  | cons c t ih =>
    show (Jvm.Cond.and c (allAtoms t)).before a st = _
    rw [Jvm.Cond.before_and, ih, List.all_cons]
def words1 : List Jvm.Cond := Jvm.Cond.code x code maxLocals ret :: tables_1
/-- a 'code' word, met by the world's own term for the bytes: nothing is compared byte by byte -/
theorem code_word {y : MethodName} {bytes : ByteArray} {mx : Nat} {rt : Option FieldType} {a : Array Value} {s : State} {m : MethodId} {meth : Method} {c : Code} (h1 : s.methodNamed? y = some m) (h2 : s.vm.method? m = some meth) (h3 : meth.code = some c) (h4 : c.code = bytes)
    (h5 : (c.maxLocals == mx && c.exceptionTable.isEmpty && decide (c.maxStack ≤ mostOperands) && decide (meth.sig.returnType = rt) && !meth.locks && decide (parseMethodDescriptor y.desc = some meth.sig)) = true) : (Jvm.Cond.code y bytes mx rt).before a s = true := by
  simp only [Bool.and_eq_true, beq_iff_eq, Bool.not_eq_true', decide_eq_true_eq] at h5
  obtain ⟨⟨⟨⟨⟨g1, g2⟩, g3⟩, g4⟩, g5⟩, g6⟩ := h5
  simp [Cond.before, Cond.holds, Cond.value, h1, h2, h3, h4, g1, g2, g3, g4, g5, g6]
def isCode : Jvm.Cond → Bool
  | .code _ _ _ _ => true
  | _ => false
theorem all_split {L : List Jvm.Cond} {P : Jvm.Cond → Bool} (h1 : L.all (fun c => isCode c || P c) = true) (h2 : ∀ c ∈ L.filter isCode, P c = true) : L.all P = true := by
  refine List.all_eq_true.mpr fun c hc => ?_
  have h := List.all_eq_true.mp h1 c hc
  rcases Bool.eq_false_or_eq_true (isCode c) with hi | hi
  · exact h2 c (List.mem_filter.mpr ⟨hc, hi⟩)
  · simpa [hi] using h
set_option maxRecDepth 65536 in
theorem w_c0 : (Jvm.Cond.code x code maxLocals ret).before args0 about1 = true := code_word (m := ⟨1, 1⟩) (meth := k1m1) (c := k1c1) (by decide +kernel) rfl rfl rfl (by decide +kernel)
set_option maxRecDepth 65536 in
theorem w_c1 : (Jvm.Cond.code ({ cls := "com/example/hetman/hetman/HeartbeatTiming", name := "<init>", desc := "(JJ)V" } : Jvm.MethodName) prog_4_method_1_code (5 : Nat) (Option.none : Option Jvm.ClassFile.FieldType)).before args0 about1 = true := code_word (m := ⟨4, 0⟩) (meth := k4m0) (c := k4c0) (by decide +kernel) rfl rfl rfl (by decide +kernel)
set_option maxRecDepth 65536 in
theorem w_c2 : (Jvm.Cond.code ({ cls := "java/lang/Record", name := "<init>", desc := "()V" } : Jvm.MethodName) jdk_30_method_1_code (1 : Nat) (Option.none : Option Jvm.ClassFile.FieldType)).before args0 about1 = true := code_word (m := ⟨3, 0⟩) (meth := k3m0) (c := k3c0) (by decide +kernel) rfl rfl rfl (by decide +kernel)
set_option maxRecDepth 65536 in
theorem w_c3 : (Jvm.Cond.code ({ cls := "java/lang/Object", name := "<init>", desc := "()V" } : Jvm.MethodName) object_method_1_code (1 : Nat) (Option.none : Option Jvm.ClassFile.FieldType)).before args0 about1 = true := code_word (m := ⟨0, 0⟩) (meth := k0m0) (c := k0c0) (by decide +kernel) rfl rfl rfl (by decide +kernel)
set_option maxRecDepth 65536 in
theorem w_c4 : (Jvm.Cond.code ({ cls := "com/example/hetman/hetman/peer/ArrivalEstimator", name := "<init>", desc := "(Lcom/example/hetman/hetman/HeartbeatTiming;I)V" } : Jvm.MethodName) prog_32_method_1_code (3 : Nat) (Option.none : Option Jvm.ClassFile.FieldType)).before args0 about1 = true := code_word (m := ⟨2, 0⟩) (meth := k2m0) (c := k2c0) (by decide +kernel) rfl rfl rfl (by decide +kernel)
set_option maxRecDepth 65536 in
theorem w_c5 : (Jvm.Cond.code ({ cls := "com/example/hetman/hetman/HeartbeatTiming", name := "periodMs", desc := "()J" } : Jvm.MethodName) prog_4_method_6_code (1 : Nat) (Option.some Jvm.ClassFile.FieldType.long)).before args0 about1 = true := code_word (m := ⟨4, 1⟩) (meth := k4m1) (c := k4c1) (by decide +kernel) rfl rfl rfl (by decide +kernel)
set_option maxRecDepth 65536 in
theorem w_c6 : (Jvm.Cond.code ({ cls := "java/util/concurrent/TimeUnit", name := "toNanos", desc := "(J)J" } : Jvm.MethodName) jdk_2799_method_7_code (7 : Nat) (Option.some Jvm.ClassFile.FieldType.long)).before args0 about1 = true := code_word (m := ⟨9, 0⟩) (meth := k9m0) (c := k9c0) (by decide +kernel) rfl rfl rfl (by decide +kernel)
set_option maxRecDepth 65536 in
theorem w_c7 : (Jvm.Cond.code ({ cls := "com/example/hetman/hetman/HeartbeatTiming", name := "marginMs", desc := "()J" } : Jvm.MethodName) prog_4_method_7_code (1 : Nat) (Option.some Jvm.ClassFile.FieldType.long)).before args0 about1 = true := code_word (m := ⟨4, 2⟩) (meth := k4m2) (c := k4c2) (by decide +kernel) rfl rfl rfl (by decide +kernel)
set_option maxRecDepth 65536 in
theorem w_c8 : (Jvm.Cond.code ({ cls := "com/example/hetman/hetman/peer/ArrivalEstimator", name := "restart", desc := "(J)V" } : Jvm.MethodName) prog_32_method_2_code (3 : Nat) (Option.none : Option Jvm.ClassFile.FieldType)).before args0 about1 = true := code_word (m := ⟨2, 1⟩) (meth := k2m1) (c := k2c1) (by decide +kernel) rfl rfl rfl (by decide +kernel)
set_option maxRecDepth 65536 in
theorem w_c9 : (Jvm.Cond.code ({ cls := "com/example/hetman/hetman/peer/ArrivalEstimator", name := "freshnessNanos", desc := "()J" } : Jvm.MethodName) prog_32_method_3_code (1 : Nat) (Option.some Jvm.ClassFile.FieldType.long)).before args0 about1 = true := code_word (m := ⟨2, 2⟩) (meth := k2m2) (c := k2c2) (by decide +kernel) rfl rfl rfl (by decide +kernel)
set_option maxRecDepth 65536 in
theorem w_c10 : (Jvm.Cond.code ({ cls := "com/example/hetman/hetman/peer/ArrivalEstimator", name := "heard", desc := "(JJJ)V" } : Jvm.MethodName) prog_32_method_4_code (11 : Nat) (Option.none : Option Jvm.ClassFile.FieldType)).before args0 about1 = true := code_word (m := ⟨2, 3⟩) (meth := k2m3) (c := k2c3) (by decide +kernel) rfl rfl rfl (by decide +kernel)
set_option maxRecDepth 65536 in
theorem w_c11 : (Jvm.Cond.code ({ cls := "com/example/hetman/hetman/peer/ArrivalEstimator", name := "insert", desc := "(J)V" } : Jvm.MethodName) prog_32_method_6_code (5 : Nat) (Option.none : Option Jvm.ClassFile.FieldType)).before args0 about1 = true := code_word (m := ⟨2, 4⟩) (meth := k2m4) (c := k2c4) (by decide +kernel) rfl rfl rfl (by decide +kernel)
set_option maxRecDepth 65536 in
theorem w_c12 : (Jvm.Cond.code ({ cls := "java/util/Arrays", name := "binarySearch", desc := "([JIIJ)I" } : Jvm.MethodName) jdk_65_method_55_code (5 : Nat) (Option.some Jvm.ClassFile.FieldType.int)).before args0 about1 = true := code_word (m := ⟨10, 2⟩) (meth := k10m2) (c := k10c2) (by decide +kernel) rfl rfl rfl (by decide +kernel)
set_option maxRecDepth 65536 in
theorem w_c13 : (Jvm.Cond.code ({ cls := "java/util/Arrays", name := "rangeCheck", desc := "(III)V" } : Jvm.MethodName) jdk_65_method_30_code (3 : Nat) (Option.none : Option Jvm.ClassFile.FieldType)).before args0 about1 = true := code_word (m := ⟨10, 1⟩) (meth := k10m1) (c := k10c1) (by decide +kernel) rfl rfl rfl (by decide +kernel)
set_option maxRecDepth 65536 in
theorem w_c14 : (Jvm.Cond.code ({ cls := "java/util/Arrays", name := "binarySearch0", desc := "([JIIJ)I" } : Jvm.MethodName) jdk_65_method_56_code (10 : Nat) (Option.some Jvm.ClassFile.FieldType.int)).before args0 about1 = true := code_word (m := ⟨10, 3⟩) (meth := k10m3) (c := k10c3) (by decide +kernel) rfl rfl rfl (by decide +kernel)
set_option maxRecDepth 65536 in
theorem w_c15 : (Jvm.Cond.code ({ cls := "com/example/hetman/hetman/peer/ArrivalEstimator", name := "medianFromBase", desc := "()J" } : Jvm.MethodName) prog_32_method_8_code (5 : Nat) (Option.some Jvm.ClassFile.FieldType.long)).before args0 about1 = true := code_word (m := ⟨2, 5⟩) (meth := k2m5) (c := k2c5) (by decide +kernel) rfl rfl rfl (by decide +kernel)
set_option maxRecDepth 65536 in
theorem w_c16 : (Jvm.Cond.code ({ cls := "java/lang/Math", name := "floorDiv", desc := "(JI)J" } : Jvm.MethodName) jdk_29_method_48_code (3 : Nat) (Option.some Jvm.ClassFile.FieldType.long)).before args0 about1 = true := code_word (m := ⟨12, 1⟩) (meth := k12m1) (c := k12c1) (by decide +kernel) rfl rfl rfl (by decide +kernel)
set_option maxRecDepth 65536 in
theorem w_c17 : (Jvm.Cond.code ({ cls := "java/lang/Math", name := "floorDiv", desc := "(JJ)J" } : Jvm.MethodName) jdk_29_method_49_code (6 : Nat) (Option.some Jvm.ClassFile.FieldType.long)).before args0 about1 = true := code_word (m := ⟨12, 2⟩) (meth := k12m2) (c := k12c2) (by decide +kernel) rfl rfl rfl (by decide +kernel)
def codes1 : List Jvm.Cond := [Jvm.Cond.code x code maxLocals ret, Jvm.Cond.code ({ cls := "com/example/hetman/hetman/HeartbeatTiming", name := "<init>", desc := "(JJ)V" } : Jvm.MethodName) prog_4_method_1_code (5 : Nat) (Option.none : Option Jvm.ClassFile.FieldType), Jvm.Cond.code ({ cls := "java/lang/Record", name := "<init>", desc := "()V" } : Jvm.MethodName) jdk_30_method_1_code (1 : Nat) (Option.none : Option Jvm.ClassFile.FieldType), Jvm.Cond.code ({ cls := "java/lang/Object", name := "<init>", desc := "()V" } : Jvm.MethodName) object_method_1_code (1 : Nat) (Option.none : Option Jvm.ClassFile.FieldType), Jvm.Cond.code ({ cls := "com/example/hetman/hetman/peer/ArrivalEstimator", name := "<init>", desc := "(Lcom/example/hetman/hetman/HeartbeatTiming;I)V" } : Jvm.MethodName) prog_32_method_1_code (3 : Nat) (Option.none : Option Jvm.ClassFile.FieldType), Jvm.Cond.code ({ cls := "com/example/hetman/hetman/HeartbeatTiming", name := "periodMs", desc := "()J" } : Jvm.MethodName) prog_4_method_6_code (1 : Nat) (Option.some Jvm.ClassFile.FieldType.long), Jvm.Cond.code ({ cls := "java/util/concurrent/TimeUnit", name := "toNanos", desc := "(J)J" } : Jvm.MethodName) jdk_2799_method_7_code (7 : Nat) (Option.some Jvm.ClassFile.FieldType.long), Jvm.Cond.code ({ cls := "com/example/hetman/hetman/HeartbeatTiming", name := "marginMs", desc := "()J" } : Jvm.MethodName) prog_4_method_7_code (1 : Nat) (Option.some Jvm.ClassFile.FieldType.long), Jvm.Cond.code ({ cls := "com/example/hetman/hetman/peer/ArrivalEstimator", name := "restart", desc := "(J)V" } : Jvm.MethodName) prog_32_method_2_code (3 : Nat) (Option.none : Option Jvm.ClassFile.FieldType), Jvm.Cond.code ({ cls := "com/example/hetman/hetman/peer/ArrivalEstimator", name := "freshnessNanos", desc := "()J" } : Jvm.MethodName) prog_32_method_3_code (1 : Nat) (Option.some Jvm.ClassFile.FieldType.long), Jvm.Cond.code ({ cls := "com/example/hetman/hetman/peer/ArrivalEstimator", name := "heard", desc := "(JJJ)V" } : Jvm.MethodName) prog_32_method_4_code (11 : Nat) (Option.none : Option Jvm.ClassFile.FieldType), Jvm.Cond.code ({ cls := "com/example/hetman/hetman/peer/ArrivalEstimator", name := "insert", desc := "(J)V" } : Jvm.MethodName) prog_32_method_6_code (5 : Nat) (Option.none : Option Jvm.ClassFile.FieldType), Jvm.Cond.code ({ cls := "java/util/Arrays", name := "binarySearch", desc := "([JIIJ)I" } : Jvm.MethodName) jdk_65_method_55_code (5 : Nat) (Option.some Jvm.ClassFile.FieldType.int), Jvm.Cond.code ({ cls := "java/util/Arrays", name := "rangeCheck", desc := "(III)V" } : Jvm.MethodName) jdk_65_method_30_code (3 : Nat) (Option.none : Option Jvm.ClassFile.FieldType), Jvm.Cond.code ({ cls := "java/util/Arrays", name := "binarySearch0", desc := "([JIIJ)I" } : Jvm.MethodName) jdk_65_method_56_code (10 : Nat) (Option.some Jvm.ClassFile.FieldType.int), Jvm.Cond.code ({ cls := "com/example/hetman/hetman/peer/ArrivalEstimator", name := "medianFromBase", desc := "()J" } : Jvm.MethodName) prog_32_method_8_code (5 : Nat) (Option.some Jvm.ClassFile.FieldType.long), Jvm.Cond.code ({ cls := "java/lang/Math", name := "floorDiv", desc := "(JI)J" } : Jvm.MethodName) jdk_29_method_48_code (3 : Nat) (Option.some Jvm.ClassFile.FieldType.long), Jvm.Cond.code ({ cls := "java/lang/Math", name := "floorDiv", desc := "(JJ)J" } : Jvm.MethodName) jdk_29_method_49_code (6 : Nat) (Option.some Jvm.ClassFile.FieldType.long)]
set_option maxRecDepth 65536 in
theorem codes_eq : words1.filter isCode = codes1 := rfl
theorem w_codes : ∀ c ∈ words1.filter isCode, c.before args0 about1 = true := by
  rw [codes_eq]
  intro c hc
  simp only [codes1, List.mem_cons, List.not_mem_nil, or_false] at hc
  rcases hc with rfl | rfl | rfl | rfl | rfl | rfl | rfl | rfl | rfl | rfl | rfl | rfl | rfl | rfl | rfl | rfl | rfl | rfl
  · exact w_c0
  · exact w_c1
  · exact w_c2
  · exact w_c3
  · exact w_c4
  · exact w_c5
  · exact w_c6
  · exact w_c7
  · exact w_c8
  · exact w_c9
  · exact w_c10
  · exact w_c11
  · exact w_c12
  · exact w_c13
  · exact w_c14
  · exact w_c15
  · exact w_c16
  · exact w_c17
set_option maxRecDepth 65536 in
theorem w_t1 : (words1.take 24).all (fun c => isCode c || c.before args0 about1) = true := by decide +kernel
set_option maxRecDepth 65536 in
theorem w_t2 : ((words1.drop 24).take 24).all (fun c => isCode c || c.before args0 about1) = true := by decide +kernel
set_option maxRecDepth 65536 in
theorem w_t3 : (((words1.drop 24).drop 24).take 24).all (fun c => isCode c || c.before args0 about1) = true := by decide +kernel
set_option maxRecDepth 65536 in
theorem w_t4 : ((((words1.drop 24).drop 24).drop 24).take 24).all (fun c => isCode c || c.before args0 about1) = true := by decide +kernel
set_option maxRecDepth 65536 in
theorem w_t5 : ((((words1.drop 24).drop 24).drop 24).drop 24).all (fun c => isCode c || c.before args0 about1) = true := by decide +kernel
theorem w_tables : (allAtoms (Jvm.Cond.code x code maxLocals ret :: tables_1)).before args0 about1 = true := by
  rw [allAtoms_all]
  show words1.all (fun c => c.before args0 about1) = true
  refine all_split ?_ w_codes
  rw [← List.take_append_drop 24 words1, List.all_append, w_t1, ← List.take_append_drop 24 (words1.drop 24), List.all_append, w_t2, ← List.take_append_drop 24 ((words1.drop 24).drop 24), List.all_append, w_t3, ← List.take_append_drop 24 (((words1.drop 24).drop 24).drop 24), List.all_append, w_t4, w_t5]
  rfl
set_option maxRecDepth 65536 in
theorem w_rest : rest_1_c.before args0 about1 = true := by decide +kernel
set_option maxRecDepth 65536 in
theorem w_case : (Jvm.Cond.and given_1 narrow_1).before args0 about1 = true := by decide +kernel
theorem w_applies : (headSpec (Jvm.Cond.code x code maxLocals ret :: tables_1) room_1).applies x e0.platform about1 = true :=
  (Spec.applies_iff w_frames).mpr ⟨w_running, w_runnable, w_alone, w_named, w_hears, w_ripe, w_room, w_tables⟩
theorem atStart : AtStart classFile x code maxLocals ret World_1 tables_1 room_1 Calls_1 rest_1 Pre_1 launch0 p0 e0 about1 theMethod args0 below0 :=
  ⟨lists_1, trivial, launch0.admits_env _ _ _, launch0.least_env, fairChoices_fair.cas, fairChoices_fair.clock, w_frames, w_args, w_heap, w_applies, trivial, w_rest, w_case⟩
end start1
theorem witness_1 : WitnessClaimed_1 := ⟨start1.p0, start1.e0, start1.about1, start1.theMethod, start1.args0, start1.below0, start1.atStart⟩
end Jvm.Pilot.@@N@@
