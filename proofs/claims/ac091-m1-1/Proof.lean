import JvmDerived
import JvmDerived.Pilot.@@N@@Statement
import JvmDerived.Pilot.@@N@@Code
set_option linter.unusedVariables false
set_option linter.unusedSimpArgs false
namespace Jvm.RoadKit
open Sem ClassFile Op Lib Jvm.Stand Jvm.Free Jvm.LawKit
section New
variable {p : Program} {l : Launch} {e : Env} {R : Room} {s : State} {m : MethodId} {args : Array Value} {below : List Frame} {meth : Method} {c : Code} {T : State} {locs : List Loc} {cells slots : Nat}
theorem retI (X : Stand p l e R s m args below meth c T locs cells slots) (hx : p.tables.exec = Jvm.exec) {pc : Nat} {Ls : Array Slot} {z : Int32} {rest : List Value} (hret : meth.sig.returnType = some .int) (hd : decode c.code pc = .ok (.ireturn, 1)) {fs : List Frame}
    (hl : ∀ (f : JFrame) (acts : List Action), f.method = m → f.locked = none → f.entered = [] → (doReturn e (T.setTop f) acts (some (.int z))).1 = T.setFrames fs) : Steps p.tables e below (T.setTop (mkF m pc Ls (.int z :: rest))) (T.setFrames fs) := by
  have hm' : T.vm.method? m = some meth := X.method'
  have hn : narrow .int (.int z) = .int z := rfl
  show Steps p.tables e below (T.setTop { method := m, pc := pc, locals := Ls, stack := _ :: rest, locked := none }) _
  jvm_step X.here [X.here.top, hx, hd, hm', hret, hn]
  first | (intro acts; rw [hl _ acts rfl rfl rfl]) | rw [hl _ _ rfl rfl rfl]
  exact Steps.refl _
end New
end Jvm.RoadKit
namespace Jvm.Pilot.@@N@@
open Jvm Jvm.ClassFile Sem Op Lib Jvm.Free Jvm.Stand Jvm.LawKit Jvm.RoadKit Bundle Jvm.Pilot.@@N@@.Jvm.D
def own_Q (r : Option Value) (h0 : Heap) (n0 : Nat) (v : Option Value) (h : Heap) (L : List Loc) : Prop := v = r ∧ Fr n0 L ∧ h = h0
theorem own_eqI {args : Array Value} {Z : State} {t : Term} {k : Int32} (h : (Cond.eq t (Term.int k)).value args Z none Z [] = some true) : t.eval args Z none [] Z = some (.int k) := by
  simp only [Cond.value, Term.eval] at h
  cases ht : t.eval args Z none [] Z with
  | none => simp [ht] at h
  | some v => cases v <;> simp [ht] at h ⊢ <;> exact h
theorem own_eqR {args : Array Value} {Z : State} {t u : Term} {y : Addr} (h : (Cond.eq t u).value args Z none Z [] = some true) (hu : u.eval args Z none [] Z = some (.ref y)) : t.eval args Z none [] Z = some (.ref y) := by
  simp only [Cond.value, hu] at h
  cases ht : t.eval args Z none [] Z with
  | none => simp [ht] at h
  | some v => cases v <;> simp [ht] at h ⊢ <;> exact h
theorem own_safeS {Z : State} {EL : List (String × Nat)} {vm : Vm} {h : Heap} {x : Addr} (hal : Z.vm.Alike vm) (E : Exa Z h x "java/lang/String") (F : Fld Z h x "java/lang/String" "value" "[B" .null) : Safe Z EL vm h x := by
  intro B
  obtain ⟨p, -, u, a, -, q, -, G, rfl | rfl⟩ := B
  · have ha : h[q.sa]? = some q.sC := G.ha
    obtain ⟨cS, ⟨⟨s1, s2, s3, ⟨cv, kv, iv, s4, s4'⟩, ⟨cc, kc, ic, s5, s5'⟩, s6, s7, s8, -⟩, -⟩, -⟩ := G
    obtain ⟨cell, cf, k, i, f, h1, h2, h3, h4, h5, h6, h7⟩ := F
    cases h1.symm.trans ha
    obtain ⟨kv', z4⟩ := ff_back (U := Wst Z vm h) hal s4
    have e := z4.symm.trans h2
    simp only [Option.some.injEq, Prod.mk.injEq] at e
    obtain ⟨-, -, -, rfl⟩ := e
    rw [s8] at h7; cases h7
  · have hd : h[q.sd]? = some q.SA := G.hd
    obtain ⟨cS, -, -, f, -⟩ := G
    obtain ⟨cell, k, e1, e2, -⟩ := E
    cases e1.symm.trans hd
    have f' : Z.vm.findClass "[B" = some q.SA.cls := by rw [← hal.findClass]; exact f
    obtain ⟨k1, a1, a2⟩ := Vm.findClass_spec f'
    obtain ⟨k2, b1, b2⟩ := Vm.findClass_spec e2
    cases a1.symm.trans b1
    exact absurd (a2.symm.trans b2) (by decide)
def own_EL : List (String × Nat) := [("java/lang/String", 7)]
def own_Ctx (Z : State) (h : Heap) (s_L1 s_L4 s_L3 s_L5 s_L2 : Addr) (cs1 : Int32) : Prop := (Sta Z h "com/example/pending_actions/pendingactions/policy/RiskTier" "L1" "Lcom/example/pending_actions/pendingactions/policy/RiskTier;" (.ref s_L1)) ∧ (Exa Z h s_L1 "com/example/pending_actions/pendingactions/policy/RiskTier") ∧ (Sta Z h "com/example/pending_actions/pendingactions/policy/RiskTier" "L4" "Lcom/example/pending_actions/pendingactions/policy/RiskTier;" (.ref s_L4)) ∧ (Exa Z h s_L4 "com/example/pending_actions/pendingactions/policy/RiskTier") ∧ (Sta Z h "com/example/pending_actions/pendingactions/policy/RiskTier" "L3" "Lcom/example/pending_actions/pendingactions/policy/RiskTier;" (.ref s_L3)) ∧ (Exa Z h s_L3 "com/example/pending_actions/pendingactions/policy/RiskTier") ∧ (Sta Z h "com/example/pending_actions/pendingactions/policy/RiskTier" "L5" "Lcom/example/pending_actions/pendingactions/policy/RiskTier;" (.ref s_L5)) ∧ (Exa Z h s_L5 "com/example/pending_actions/pendingactions/policy/RiskTier") ∧ (Sta Z h "com/example/pending_actions/pendingactions/policy/RiskTier" "L2" "Lcom/example/pending_actions/pendingactions/policy/RiskTier;" (.ref s_L2)) ∧ (Exa Z h s_L2 "com/example/pending_actions/pendingactions/policy/RiskTier") ∧ (Sta Z h "java/lang/String" "COMPACT_STRINGS" "Z" (.int cs1)) ∧ (¬ (cs1 = (0 : Int32)))
def own_Qk (r : Option Value) (ws : List Addr) (h0 : Heap) (n0 : Nat) (v : Option Value) (h : Heap) (L : List Loc) : Prop := v = r ∧ Fr n0 L ∧ Keep h0 h ws
def own_Qr (h0 : Heap) (n0 : Nat) (v : Option Value) (h : Heap) (L : List Loc) : Prop := ∃ a : Addr, v = some (.ref a) ∧ Fr n0 L ∧ h = h0
def own_QR (h0 : Heap) (n0 : Nat) (v : Option Value) (h : Heap) (L : List Loc) : Prop := ∃ a : Addr, v = some (.ref a) ∧ Fr n0 L ∧ Keep h0 h []
theorem d1_0 : decode method_2_code 0 = .ok (.iload_n 0, 1) := by decide +kernel
theorem d1_1 : decode method_2_code 1 = .ok (.iconst 1, 1) := by decide +kernel
theorem d1_2 : decode method_2_code 2 = .ok (.if_icmp .ne 7, 3) := by decide +kernel
theorem d1_9 : decode method_2_code 9 = .ok (.iload_n 0, 1) := by decide +kernel
theorem d1_10 : decode method_2_code 10 = .ok (.iconst 2, 1) := by decide +kernel
theorem d1_11 : decode method_2_code 11 = .ok (.if_icmp .ne 7, 3) := by decide +kernel
theorem d1_18 : decode method_2_code 18 = .ok (.iload_n 0, 1) := by decide +kernel
theorem d1_19 : decode method_2_code 19 = .ok (.iconst 3, 1) := by decide +kernel
theorem d1_20 : decode method_2_code 20 = .ok (.if_icmp .ne 7, 3) := by decide +kernel
theorem d1_27 : decode method_2_code 27 = .ok (.iload_n 0, 1) := by decide +kernel
theorem d1_28 : decode method_2_code 28 = .ok (.iconst 4, 1) := by decide +kernel
theorem d1_29 : decode method_2_code 29 = .ok (.if_icmp .ne 7, 3) := by decide +kernel
theorem d1_36 : decode method_2_code 36 = .ok (.iload_n 0, 1) := by decide +kernel
theorem d1_37 : decode method_2_code 37 = .ok (.iconst 5, 1) := by decide +kernel
theorem d1_38 : decode method_2_code 38 = .ok (.if_icmp .ne 7, 3) := by decide +kernel
theorem d1_45 : decode method_2_code 45 = .ok (.aconst_null, 1) := by decide +kernel
theorem d1_46 : decode method_2_code 46 = .ok (.areturn, 1) := by decide +kernel
theorem ef_1_0 (m : MethodId) (x0 : Int32) : entryFrame m #[(.int x0)] 1 = mkF m 0 #[.val (.int x0)] [] := by first | (simp [entryFrame, mkF, argsToLocals, Value.category]; done) | rfl
theorem pn_0 : plainName "com/example/pending_actions/pendingactions/policy/AssessmentIsAutoApprovedPinLaw" = true := by first | (simp [plainName, overriddenIn]; done) | decide +kernel
set_option maxRecDepth 65536 in
set_option maxHeartbeats 40000000 in
theorem r_tier_0 (l : Launch) (Z : State) (a0 : Array Value) (hw : ∀ d ∈ tables_1, d.before a0 Z = true) (ws : List Jvm.Cond) (s_L1 s_L4 s_L3 s_L5 s_L2 : Addr) (cs1 : Int32) (h0 : Heap) (n0 : Nat) (O0 : Old Z n0 h0) (G : own_Ctx Z Z.heap s_L1 s_L4 s_L3 s_L5 s_L2 cs1)   :
    MetFree l (⟨"com/example/pending_actions/pendingactions/policy/AssessmentIsAutoApprovedPinLaw", "pick", "(I)Lcom/example/pending_actions/pendingactions/policy/RiskTier;"⟩ : MethodName) (head1 (Jvm.Cond.code (⟨"com/example/pending_actions/pendingactions/policy/AssessmentIsAutoApprovedPinLaw", "pick", "(I)Lcom/example/pending_actions/pendingactions/policy/RiskTier;"⟩ : MethodName) method_2_code 1 (some (.object "com/example/pending_actions/pendingactions/policy/RiskTier")) :: ws) ({ frames := 0, cells := 0, slots := 0, locals := 0 } : Room)) (fun a U => a = #[(.int (0 : Int32))] ∧ Z.Warmed39 U.vm ∧ U.heap = h0) (fun _ _ _ _ _ => True) (fun _ U o U' => ∃ v L, o = .returned v ∧ own_Q (some .null) h0 n0 v U'.heap L ∧ FrameEnd U o U' L ({ frames := 0, cells := 0, slots := 0, locals := 0 } : Room).cells ({ frames := 0, cells := 0, slots := 0, locals := 0 } : Room).slots) := by
  have G0 := G
  obtain ⟨S_L1, E_L1, S_L4, E_L4, S_L3, E_L3, S_L5, E_L5, S_L2, E_L2, S_CS, N_CS⟩ := G
  refine MetFree.of_bodySF (plainFor_of_name pn_0) hisR ?_
  intro p e s m args below meth c s₁ Bd hml0 hP hK
  obtain ⟨rfl, hZ, hh⟩ := hP
  have hx := Bd.exec
  have hby := Bd.bytes
  have hml : c.maxLocals = 1 := hml0
  have hown : s.vm.findClass "com/example/pending_actions/pendingactions/policy/AssessmentIsAutoApprovedPinLaw" = some m.cls := findClass_of_methodNamed Bd.named
  have hnm := (name_of_methodNamed Bd.named Bd.method).1
  have X0 : Stand p l e ({ frames := 0, cells := 0, slots := 0, locals := 0 } : Room) s m #[(.int (0 : Int32))] below meth c s₁ [] 0 0 := Stand.of_body Bd
  have e0 : s₁.heap = h0 := by rw [← hh, Bd.state]; rfl
  have N0 := Fr.nil n0
  have pre0 : ∀ t, Steps p.tables e below (s₁.setTop (mkF m 0 #[.val (.int (0 : Int32))] [])) t → Steps p.tables e below (s₁.setTop (entryFrame m #[(.int (0 : Int32))] 1)) t := fun t k => castTop (ef_1_0 m (0 : Int32)) k
  obtain ⟨fs, hr, hrun, hended, hW, hsame⟩ := X0.leave (v := some .null) (fun h => by rw [Bd.returns] at h; cases h)
  refine ⟨_, _, pre0 _ ?_, hrun, hended, _, _, rfl, ?_, ⟨_, rfl⟩, hW, hsame.mono (by decide) (by decide)⟩
  · show Steps p.tables e below (s₁.setTop (mkF m 0 #[.val (.int (0 : Int32))] [])) _
    refine XS.iloadN X0.here hx rfl (hb hby d1_0) rfl ?_
    refine XS.iconst X0.here hx rfl (hb hby d1_1) ?_
    refine XS.icmpYes X0.here hx rfl (pc0 := 2) (pc' := 9) rfl (hb hby d1_2) rfl (feq (by decide : ¬ ((0 : Int32) = (1 : Int32)))).2 (by decide) (by decide) ?_
    refine XS.iloadN X0.here hx rfl (hb hby d1_9) rfl ?_
    refine XS.iconst X0.here hx rfl (hb hby d1_10) ?_
    show Steps p.tables e below (s₁.setTop (mkF m 11 #[.val (.int (0 : Int32))] [(.int (2 : Int32)), (.int (0 : Int32))])) _
    refine XS.icmpYes X0.here hx rfl (pc0 := 11) (pc' := 18) rfl (hb hby d1_11) rfl (feq (by decide : ¬ ((0 : Int32) = (2 : Int32)))).2 (by decide) (by decide) ?_
    refine XS.iloadN X0.here hx rfl (hb hby d1_18) rfl ?_
    refine XS.iconst X0.here hx rfl (hb hby d1_19) ?_
    refine XS.icmpYes X0.here hx rfl (pc0 := 20) (pc' := 27) rfl (hb hby d1_20) rfl (feq (by decide : ¬ ((0 : Int32) = (3 : Int32)))).2 (by decide) (by decide) ?_
    refine XS.iloadN X0.here hx rfl (hb hby d1_27) rfl ?_
    show Steps p.tables e below (s₁.setTop (mkF m 28 #[.val (.int (0 : Int32))] [(.int (0 : Int32))])) _
    refine XS.iconst X0.here hx rfl (hb hby d1_28) ?_
    refine XS.icmpYes X0.here hx rfl (pc0 := 29) (pc' := 36) rfl (hb hby d1_29) rfl (feq (by decide : ¬ ((0 : Int32) = (4 : Int32)))).2 (by decide) (by decide) ?_
    refine XS.iloadN X0.here hx rfl (hb hby d1_36) rfl ?_
    refine XS.iconst X0.here hx rfl (hb hby d1_37) ?_
    refine XS.icmpYes X0.here hx rfl (pc0 := 38) (pc' := 45) rfl (hb hby d1_38) rfl (feq (by decide : ¬ ((0 : Int32) = (5 : Int32)))).2 (by decide) (by decide) ?_
    show Steps p.tables e below (s₁.setTop (mkF m 45 #[.val (.int (0 : Int32))] [])) _
    refine XS.aconstNull X0.here hx rfl (hb hby d1_45) ?_
    show Steps p.tables e below (s₁.setTop (mkF m 46 #[.val (.int (0 : Int32))] [.null])) _
    exact retOut X0 hx Bd.returns rfl (Or.inr (Or.inr (Or.inr (Or.inr ⟨rfl, rfl, rfl⟩)))) (hb hby d1_46) hr
  · show own_Q (some .null) h0 n0 _ s₁.heap _
    rw [e0]
    exact ⟨rfl, N0, rfl⟩
theorem d1_5 : decode method_2_code 5 = .ok (.getstatic 7, 3) := by decide +kernel
theorem d1_8 : decode method_2_code 8 = .ok (.areturn, 1) := by decide +kernel
set_option maxRecDepth 65536 in
set_option maxHeartbeats 40000000 in
theorem r_tier_1 (l : Launch) (Z : State) (a0 : Array Value) (hw : ∀ d ∈ tables_1, d.before a0 Z = true) (ws : List Jvm.Cond) (s_L1 s_L4 s_L3 s_L5 s_L2 : Addr) (cs1 : Int32) (h0 : Heap) (n0 : Nat) (O0 : Old Z n0 h0) (G : own_Ctx Z Z.heap s_L1 s_L4 s_L3 s_L5 s_L2 cs1)   :
    MetFree l (⟨"com/example/pending_actions/pendingactions/policy/AssessmentIsAutoApprovedPinLaw", "pick", "(I)Lcom/example/pending_actions/pendingactions/policy/RiskTier;"⟩ : MethodName) (head1 (Jvm.Cond.code (⟨"com/example/pending_actions/pendingactions/policy/AssessmentIsAutoApprovedPinLaw", "pick", "(I)Lcom/example/pending_actions/pendingactions/policy/RiskTier;"⟩ : MethodName) method_2_code 1 (some (.object "com/example/pending_actions/pendingactions/policy/RiskTier")) :: ws) ({ frames := 0, cells := 0, slots := 0, locals := 0 } : Room)) (fun a U => a = #[(.int (1 : Int32))] ∧ Z.Warmed39 U.vm ∧ U.heap = h0) (fun _ _ _ _ _ => True) (fun _ U o U' => ∃ v L, o = .returned v ∧ own_Qr h0 n0 v U'.heap L ∧ FrameEnd U o U' L ({ frames := 0, cells := 0, slots := 0, locals := 0 } : Room).cells ({ frames := 0, cells := 0, slots := 0, locals := 0 } : Room).slots) := by
  have G0 := G
  obtain ⟨S_L1, E_L1, S_L4, E_L4, S_L3, E_L3, S_L5, E_L5, S_L2, E_L2, S_CS, N_CS⟩ := G
  refine MetFree.of_bodySF (plainFor_of_name pn_0) hisR ?_
  intro p e s m args below meth c s₁ Bd hml0 hP hK
  obtain ⟨rfl, hZ, hh⟩ := hP
  have hx := Bd.exec
  have hby := Bd.bytes
  have hml : c.maxLocals = 1 := hml0
  have hown : s.vm.findClass "com/example/pending_actions/pendingactions/policy/AssessmentIsAutoApprovedPinLaw" = some m.cls := findClass_of_methodNamed Bd.named
  have hnm := (name_of_methodNamed Bd.named Bd.method).1
  have X0 : Stand p l e ({ frames := 0, cells := 0, slots := 0, locals := 0 } : Room) s m #[(.int (1 : Int32))] below meth c s₁ [] 0 0 := Stand.of_body Bd
  have e0 : s₁.heap = h0 := by rw [← hh, Bd.state]; rfl
  have N0 := Fr.nil n0
  have pre0 : ∀ t, Steps p.tables e below (s₁.setTop (mkF m 0 #[.val (.int (1 : Int32))] [])) t → Steps p.tables e below (s₁.setTop (entryFrame m #[(.int (1 : Int32))] 1)) t := fun t k => castTop (ef_1_0 m (1 : Int32)) k
  obtain ⟨T1, X1, e1, st1⟩ := getS2 X0 hx hZ hown (host := "") (Or.inl (hw _ (List.mem_of_getElem? (i := 45) rfl))) Via.refl e0 (S_L1.ext O0.2) (g := (mkF m 5 #[.val (.int (1 : Int32))] [])) rfl (hb hby d1_5)
  obtain ⟨fs, hr, hrun, hended, hW, hsame⟩ := X1.leave (v := some (.ref s_L1)) (fun h => by rw [Bd.returns] at h; cases h)
  refine ⟨_, _, pre0 _ ?_, hrun, hended, _, _, rfl, ?_, ⟨_, rfl⟩, hW, hsame.mono (by decide) (by decide)⟩
  · show Steps p.tables e below (s₁.setTop (mkF m 0 #[.val (.int (1 : Int32))] [])) _
    refine XS.iloadN X0.here hx rfl (hb hby d1_0) rfl ?_
    refine XS.iconst X0.here hx rfl (hb hby d1_1) ?_
    refine XS.icmpNo X0.here hx rfl (hb hby d1_2) rfl (teq (by decide : (1 : Int32) = (1 : Int32))).2 ?_
    show Steps p.tables e below (s₁.setTop (mkF m 5 #[.val (.int (1 : Int32))] [])) _
    refine st1 _ ?_
    show Steps p.tables e below (T1.setTop (mkF m 8 #[.val (.int (1 : Int32))] [(.ref s_L1)])) _
    exact retOut X1 hx Bd.returns rfl (Or.inr (Or.inr (Or.inr (Or.inr ⟨rfl, rfl, rfl⟩)))) (hb hby d1_8) hr
  · show own_Qr h0 n0 _ T1.heap _
    rw [e1]
    exact ⟨s_L1, rfl, N0, rfl⟩
theorem d1_14 : decode method_2_code 14 = .ok (.getstatic 13, 3) := by decide +kernel
theorem d1_17 : decode method_2_code 17 = .ok (.areturn, 1) := by decide +kernel
set_option maxRecDepth 65536 in
set_option maxHeartbeats 40000000 in
theorem r_tier_2 (l : Launch) (Z : State) (a0 : Array Value) (hw : ∀ d ∈ tables_1, d.before a0 Z = true) (ws : List Jvm.Cond) (s_L1 s_L4 s_L3 s_L5 s_L2 : Addr) (cs1 : Int32) (h0 : Heap) (n0 : Nat) (O0 : Old Z n0 h0) (G : own_Ctx Z Z.heap s_L1 s_L4 s_L3 s_L5 s_L2 cs1)   :
    MetFree l (⟨"com/example/pending_actions/pendingactions/policy/AssessmentIsAutoApprovedPinLaw", "pick", "(I)Lcom/example/pending_actions/pendingactions/policy/RiskTier;"⟩ : MethodName) (head1 (Jvm.Cond.code (⟨"com/example/pending_actions/pendingactions/policy/AssessmentIsAutoApprovedPinLaw", "pick", "(I)Lcom/example/pending_actions/pendingactions/policy/RiskTier;"⟩ : MethodName) method_2_code 1 (some (.object "com/example/pending_actions/pendingactions/policy/RiskTier")) :: ws) ({ frames := 0, cells := 0, slots := 0, locals := 0 } : Room)) (fun a U => a = #[(.int (2 : Int32))] ∧ Z.Warmed39 U.vm ∧ U.heap = h0) (fun _ _ _ _ _ => True) (fun _ U o U' => ∃ v L, o = .returned v ∧ own_Qr h0 n0 v U'.heap L ∧ FrameEnd U o U' L ({ frames := 0, cells := 0, slots := 0, locals := 0 } : Room).cells ({ frames := 0, cells := 0, slots := 0, locals := 0 } : Room).slots) := by
  have G0 := G
  obtain ⟨S_L1, E_L1, S_L4, E_L4, S_L3, E_L3, S_L5, E_L5, S_L2, E_L2, S_CS, N_CS⟩ := G
  refine MetFree.of_bodySF (plainFor_of_name pn_0) hisR ?_
  intro p e s m args below meth c s₁ Bd hml0 hP hK
  obtain ⟨rfl, hZ, hh⟩ := hP
  have hx := Bd.exec
  have hby := Bd.bytes
  have hml : c.maxLocals = 1 := hml0
  have hown : s.vm.findClass "com/example/pending_actions/pendingactions/policy/AssessmentIsAutoApprovedPinLaw" = some m.cls := findClass_of_methodNamed Bd.named
  have hnm := (name_of_methodNamed Bd.named Bd.method).1
  have X0 : Stand p l e ({ frames := 0, cells := 0, slots := 0, locals := 0 } : Room) s m #[(.int (2 : Int32))] below meth c s₁ [] 0 0 := Stand.of_body Bd
  have e0 : s₁.heap = h0 := by rw [← hh, Bd.state]; rfl
  have N0 := Fr.nil n0
  have pre0 : ∀ t, Steps p.tables e below (s₁.setTop (mkF m 0 #[.val (.int (2 : Int32))] [])) t → Steps p.tables e below (s₁.setTop (entryFrame m #[(.int (2 : Int32))] 1)) t := fun t k => castTop (ef_1_0 m (2 : Int32)) k
  obtain ⟨T1, X1, e1, st1⟩ := getS2 X0 hx hZ hown (host := "") (Or.inl (hw _ (List.mem_of_getElem? (i := 65) rfl))) Via.refl e0 (S_L2.ext O0.2) (g := (mkF m 14 #[.val (.int (2 : Int32))] [])) rfl (hb hby d1_14)
  obtain ⟨fs, hr, hrun, hended, hW, hsame⟩ := X1.leave (v := some (.ref s_L2)) (fun h => by rw [Bd.returns] at h; cases h)
  refine ⟨_, _, pre0 _ ?_, hrun, hended, _, _, rfl, ?_, ⟨_, rfl⟩, hW, hsame.mono (by decide) (by decide)⟩
  · show Steps p.tables e below (s₁.setTop (mkF m 0 #[.val (.int (2 : Int32))] [])) _
    refine XS.iloadN X0.here hx rfl (hb hby d1_0) rfl ?_
    refine XS.iconst X0.here hx rfl (hb hby d1_1) ?_
    refine XS.icmpYes X0.here hx rfl (pc0 := 2) (pc' := 9) rfl (hb hby d1_2) rfl (feq (by decide : ¬ ((2 : Int32) = (1 : Int32)))).2 (by decide) (by decide) ?_
    refine XS.iloadN X0.here hx rfl (hb hby d1_9) rfl ?_
    refine XS.iconst X0.here hx rfl (hb hby d1_10) ?_
    show Steps p.tables e below (s₁.setTop (mkF m 11 #[.val (.int (2 : Int32))] [(.int (2 : Int32)), (.int (2 : Int32))])) _
    refine XS.icmpNo X0.here hx rfl (hb hby d1_11) rfl (teq (by decide : (2 : Int32) = (2 : Int32))).2 ?_
    show Steps p.tables e below (s₁.setTop (mkF m 14 #[.val (.int (2 : Int32))] [])) _
    refine st1 _ ?_
    show Steps p.tables e below (T1.setTop (mkF m 17 #[.val (.int (2 : Int32))] [(.ref s_L2)])) _
    exact retOut X1 hx Bd.returns rfl (Or.inr (Or.inr (Or.inr (Or.inr ⟨rfl, rfl, rfl⟩)))) (hb hby d1_17) hr
  · show own_Qr h0 n0 _ T1.heap _
    rw [e1]
    exact ⟨s_L2, rfl, N0, rfl⟩
theorem d1_23 : decode method_2_code 23 = .ok (.getstatic 16, 3) := by decide +kernel
theorem d1_26 : decode method_2_code 26 = .ok (.areturn, 1) := by decide +kernel
set_option maxRecDepth 65536 in
set_option maxHeartbeats 40000000 in
theorem r_tier_3 (l : Launch) (Z : State) (a0 : Array Value) (hw : ∀ d ∈ tables_1, d.before a0 Z = true) (ws : List Jvm.Cond) (s_L1 s_L4 s_L3 s_L5 s_L2 : Addr) (cs1 : Int32) (h0 : Heap) (n0 : Nat) (O0 : Old Z n0 h0) (G : own_Ctx Z Z.heap s_L1 s_L4 s_L3 s_L5 s_L2 cs1)   :
    MetFree l (⟨"com/example/pending_actions/pendingactions/policy/AssessmentIsAutoApprovedPinLaw", "pick", "(I)Lcom/example/pending_actions/pendingactions/policy/RiskTier;"⟩ : MethodName) (head1 (Jvm.Cond.code (⟨"com/example/pending_actions/pendingactions/policy/AssessmentIsAutoApprovedPinLaw", "pick", "(I)Lcom/example/pending_actions/pendingactions/policy/RiskTier;"⟩ : MethodName) method_2_code 1 (some (.object "com/example/pending_actions/pendingactions/policy/RiskTier")) :: ws) ({ frames := 0, cells := 0, slots := 0, locals := 0 } : Room)) (fun a U => a = #[(.int (3 : Int32))] ∧ Z.Warmed39 U.vm ∧ U.heap = h0) (fun _ _ _ _ _ => True) (fun _ U o U' => ∃ v L, o = .returned v ∧ own_Qr h0 n0 v U'.heap L ∧ FrameEnd U o U' L ({ frames := 0, cells := 0, slots := 0, locals := 0 } : Room).cells ({ frames := 0, cells := 0, slots := 0, locals := 0 } : Room).slots) := by
  have G0 := G
  obtain ⟨S_L1, E_L1, S_L4, E_L4, S_L3, E_L3, S_L5, E_L5, S_L2, E_L2, S_CS, N_CS⟩ := G
  refine MetFree.of_bodySF (plainFor_of_name pn_0) hisR ?_
  intro p e s m args below meth c s₁ Bd hml0 hP hK
  obtain ⟨rfl, hZ, hh⟩ := hP
  have hx := Bd.exec
  have hby := Bd.bytes
  have hml : c.maxLocals = 1 := hml0
  have hown : s.vm.findClass "com/example/pending_actions/pendingactions/policy/AssessmentIsAutoApprovedPinLaw" = some m.cls := findClass_of_methodNamed Bd.named
  have hnm := (name_of_methodNamed Bd.named Bd.method).1
  have X0 : Stand p l e ({ frames := 0, cells := 0, slots := 0, locals := 0 } : Room) s m #[(.int (3 : Int32))] below meth c s₁ [] 0 0 := Stand.of_body Bd
  have e0 : s₁.heap = h0 := by rw [← hh, Bd.state]; rfl
  have N0 := Fr.nil n0
  have pre0 : ∀ t, Steps p.tables e below (s₁.setTop (mkF m 0 #[.val (.int (3 : Int32))] [])) t → Steps p.tables e below (s₁.setTop (entryFrame m #[(.int (3 : Int32))] 1)) t := fun t k => castTop (ef_1_0 m (3 : Int32)) k
  obtain ⟨T1, X1, e1, st1⟩ := getS2 X0 hx hZ hown (host := "") (Or.inl (hw _ (List.mem_of_getElem? (i := 61) rfl))) Via.refl e0 (S_L3.ext O0.2) (g := (mkF m 23 #[.val (.int (3 : Int32))] [])) rfl (hb hby d1_23)
  obtain ⟨fs, hr, hrun, hended, hW, hsame⟩ := X1.leave (v := some (.ref s_L3)) (fun h => by rw [Bd.returns] at h; cases h)
  refine ⟨_, _, pre0 _ ?_, hrun, hended, _, _, rfl, ?_, ⟨_, rfl⟩, hW, hsame.mono (by decide) (by decide)⟩
  · show Steps p.tables e below (s₁.setTop (mkF m 0 #[.val (.int (3 : Int32))] [])) _
    refine XS.iloadN X0.here hx rfl (hb hby d1_0) rfl ?_
    refine XS.iconst X0.here hx rfl (hb hby d1_1) ?_
    refine XS.icmpYes X0.here hx rfl (pc0 := 2) (pc' := 9) rfl (hb hby d1_2) rfl (feq (by decide : ¬ ((3 : Int32) = (1 : Int32)))).2 (by decide) (by decide) ?_
    refine XS.iloadN X0.here hx rfl (hb hby d1_9) rfl ?_
    refine XS.iconst X0.here hx rfl (hb hby d1_10) ?_
    show Steps p.tables e below (s₁.setTop (mkF m 11 #[.val (.int (3 : Int32))] [(.int (2 : Int32)), (.int (3 : Int32))])) _
    refine XS.icmpYes X0.here hx rfl (pc0 := 11) (pc' := 18) rfl (hb hby d1_11) rfl (feq (by decide : ¬ ((3 : Int32) = (2 : Int32)))).2 (by decide) (by decide) ?_
    refine XS.iloadN X0.here hx rfl (hb hby d1_18) rfl ?_
    refine XS.iconst X0.here hx rfl (hb hby d1_19) ?_
    refine XS.icmpNo X0.here hx rfl (hb hby d1_20) rfl (teq (by decide : (3 : Int32) = (3 : Int32))).2 ?_
    show Steps p.tables e below (s₁.setTop (mkF m 23 #[.val (.int (3 : Int32))] [])) _
    refine st1 _ ?_
    show Steps p.tables e below (T1.setTop (mkF m 26 #[.val (.int (3 : Int32))] [(.ref s_L3)])) _
    exact retOut X1 hx Bd.returns rfl (Or.inr (Or.inr (Or.inr (Or.inr ⟨rfl, rfl, rfl⟩)))) (hb hby d1_26) hr
  · show own_Qr h0 n0 _ T1.heap _
    rw [e1]
    exact ⟨s_L3, rfl, N0, rfl⟩
theorem d1_32 : decode method_2_code 32 = .ok (.getstatic 19, 3) := by decide +kernel
theorem d1_35 : decode method_2_code 35 = .ok (.areturn, 1) := by decide +kernel
set_option maxRecDepth 65536 in
set_option maxHeartbeats 40000000 in
theorem r_tier_4 (l : Launch) (Z : State) (a0 : Array Value) (hw : ∀ d ∈ tables_1, d.before a0 Z = true) (ws : List Jvm.Cond) (s_L1 s_L4 s_L3 s_L5 s_L2 : Addr) (cs1 : Int32) (h0 : Heap) (n0 : Nat) (O0 : Old Z n0 h0) (G : own_Ctx Z Z.heap s_L1 s_L4 s_L3 s_L5 s_L2 cs1)   :
    MetFree l (⟨"com/example/pending_actions/pendingactions/policy/AssessmentIsAutoApprovedPinLaw", "pick", "(I)Lcom/example/pending_actions/pendingactions/policy/RiskTier;"⟩ : MethodName) (head1 (Jvm.Cond.code (⟨"com/example/pending_actions/pendingactions/policy/AssessmentIsAutoApprovedPinLaw", "pick", "(I)Lcom/example/pending_actions/pendingactions/policy/RiskTier;"⟩ : MethodName) method_2_code 1 (some (.object "com/example/pending_actions/pendingactions/policy/RiskTier")) :: ws) ({ frames := 0, cells := 0, slots := 0, locals := 0 } : Room)) (fun a U => a = #[(.int (4 : Int32))] ∧ Z.Warmed39 U.vm ∧ U.heap = h0) (fun _ _ _ _ _ => True) (fun _ U o U' => ∃ v L, o = .returned v ∧ own_Qr h0 n0 v U'.heap L ∧ FrameEnd U o U' L ({ frames := 0, cells := 0, slots := 0, locals := 0 } : Room).cells ({ frames := 0, cells := 0, slots := 0, locals := 0 } : Room).slots) := by
  have G0 := G
  obtain ⟨S_L1, E_L1, S_L4, E_L4, S_L3, E_L3, S_L5, E_L5, S_L2, E_L2, S_CS, N_CS⟩ := G
  refine MetFree.of_bodySF (plainFor_of_name pn_0) hisR ?_
  intro p e s m args below meth c s₁ Bd hml0 hP hK
  obtain ⟨rfl, hZ, hh⟩ := hP
  have hx := Bd.exec
  have hby := Bd.bytes
  have hml : c.maxLocals = 1 := hml0
  have hown : s.vm.findClass "com/example/pending_actions/pendingactions/policy/AssessmentIsAutoApprovedPinLaw" = some m.cls := findClass_of_methodNamed Bd.named
  have hnm := (name_of_methodNamed Bd.named Bd.method).1
  have X0 : Stand p l e ({ frames := 0, cells := 0, slots := 0, locals := 0 } : Room) s m #[(.int (4 : Int32))] below meth c s₁ [] 0 0 := Stand.of_body Bd
  have e0 : s₁.heap = h0 := by rw [← hh, Bd.state]; rfl
  have N0 := Fr.nil n0
  have pre0 : ∀ t, Steps p.tables e below (s₁.setTop (mkF m 0 #[.val (.int (4 : Int32))] [])) t → Steps p.tables e below (s₁.setTop (entryFrame m #[(.int (4 : Int32))] 1)) t := fun t k => castTop (ef_1_0 m (4 : Int32)) k
  obtain ⟨T1, X1, e1, st1⟩ := getS2 X0 hx hZ hown (host := "") (Or.inl (hw _ (List.mem_of_getElem? (i := 59) rfl))) Via.refl e0 (S_L4.ext O0.2) (g := (mkF m 32 #[.val (.int (4 : Int32))] [])) rfl (hb hby d1_32)
  obtain ⟨fs, hr, hrun, hended, hW, hsame⟩ := X1.leave (v := some (.ref s_L4)) (fun h => by rw [Bd.returns] at h; cases h)
  refine ⟨_, _, pre0 _ ?_, hrun, hended, _, _, rfl, ?_, ⟨_, rfl⟩, hW, hsame.mono (by decide) (by decide)⟩
  · show Steps p.tables e below (s₁.setTop (mkF m 0 #[.val (.int (4 : Int32))] [])) _
    refine XS.iloadN X0.here hx rfl (hb hby d1_0) rfl ?_
    refine XS.iconst X0.here hx rfl (hb hby d1_1) ?_
    refine XS.icmpYes X0.here hx rfl (pc0 := 2) (pc' := 9) rfl (hb hby d1_2) rfl (feq (by decide : ¬ ((4 : Int32) = (1 : Int32)))).2 (by decide) (by decide) ?_
    refine XS.iloadN X0.here hx rfl (hb hby d1_9) rfl ?_
    refine XS.iconst X0.here hx rfl (hb hby d1_10) ?_
    show Steps p.tables e below (s₁.setTop (mkF m 11 #[.val (.int (4 : Int32))] [(.int (2 : Int32)), (.int (4 : Int32))])) _
    refine XS.icmpYes X0.here hx rfl (pc0 := 11) (pc' := 18) rfl (hb hby d1_11) rfl (feq (by decide : ¬ ((4 : Int32) = (2 : Int32)))).2 (by decide) (by decide) ?_
    refine XS.iloadN X0.here hx rfl (hb hby d1_18) rfl ?_
    refine XS.iconst X0.here hx rfl (hb hby d1_19) ?_
    refine XS.icmpYes X0.here hx rfl (pc0 := 20) (pc' := 27) rfl (hb hby d1_20) rfl (feq (by decide : ¬ ((4 : Int32) = (3 : Int32)))).2 (by decide) (by decide) ?_
    refine XS.iloadN X0.here hx rfl (hb hby d1_27) rfl ?_
    show Steps p.tables e below (s₁.setTop (mkF m 28 #[.val (.int (4 : Int32))] [(.int (4 : Int32))])) _
    refine XS.iconst X0.here hx rfl (hb hby d1_28) ?_
    refine XS.icmpNo X0.here hx rfl (hb hby d1_29) rfl (teq (by decide : (4 : Int32) = (4 : Int32))).2 ?_
    show Steps p.tables e below (s₁.setTop (mkF m 32 #[.val (.int (4 : Int32))] [])) _
    refine st1 _ ?_
    show Steps p.tables e below (T1.setTop (mkF m 35 #[.val (.int (4 : Int32))] [(.ref s_L4)])) _
    exact retOut X1 hx Bd.returns rfl (Or.inr (Or.inr (Or.inr (Or.inr ⟨rfl, rfl, rfl⟩)))) (hb hby d1_35) hr
  · show own_Qr h0 n0 _ T1.heap _
    rw [e1]
    exact ⟨s_L4, rfl, N0, rfl⟩
theorem d1_41 : decode method_2_code 41 = .ok (.getstatic 22, 3) := by decide +kernel
theorem d1_44 : decode method_2_code 44 = .ok (.areturn, 1) := by decide +kernel
set_option maxRecDepth 65536 in
set_option maxHeartbeats 40000000 in
theorem r_tier_5 (l : Launch) (Z : State) (a0 : Array Value) (hw : ∀ d ∈ tables_1, d.before a0 Z = true) (ws : List Jvm.Cond) (s_L1 s_L4 s_L3 s_L5 s_L2 : Addr) (cs1 : Int32) (h0 : Heap) (n0 : Nat) (O0 : Old Z n0 h0) (G : own_Ctx Z Z.heap s_L1 s_L4 s_L3 s_L5 s_L2 cs1)   :
    MetFree l (⟨"com/example/pending_actions/pendingactions/policy/AssessmentIsAutoApprovedPinLaw", "pick", "(I)Lcom/example/pending_actions/pendingactions/policy/RiskTier;"⟩ : MethodName) (head1 (Jvm.Cond.code (⟨"com/example/pending_actions/pendingactions/policy/AssessmentIsAutoApprovedPinLaw", "pick", "(I)Lcom/example/pending_actions/pendingactions/policy/RiskTier;"⟩ : MethodName) method_2_code 1 (some (.object "com/example/pending_actions/pendingactions/policy/RiskTier")) :: ws) ({ frames := 0, cells := 0, slots := 0, locals := 0 } : Room)) (fun a U => a = #[(.int (5 : Int32))] ∧ Z.Warmed39 U.vm ∧ U.heap = h0) (fun _ _ _ _ _ => True) (fun _ U o U' => ∃ v L, o = .returned v ∧ own_Qr h0 n0 v U'.heap L ∧ FrameEnd U o U' L ({ frames := 0, cells := 0, slots := 0, locals := 0 } : Room).cells ({ frames := 0, cells := 0, slots := 0, locals := 0 } : Room).slots) := by
  have G0 := G
  obtain ⟨S_L1, E_L1, S_L4, E_L4, S_L3, E_L3, S_L5, E_L5, S_L2, E_L2, S_CS, N_CS⟩ := G
  refine MetFree.of_bodySF (plainFor_of_name pn_0) hisR ?_
  intro p e s m args below meth c s₁ Bd hml0 hP hK
  obtain ⟨rfl, hZ, hh⟩ := hP
  have hx := Bd.exec
  have hby := Bd.bytes
  have hml : c.maxLocals = 1 := hml0
  have hown : s.vm.findClass "com/example/pending_actions/pendingactions/policy/AssessmentIsAutoApprovedPinLaw" = some m.cls := findClass_of_methodNamed Bd.named
  have hnm := (name_of_methodNamed Bd.named Bd.method).1
  have X0 : Stand p l e ({ frames := 0, cells := 0, slots := 0, locals := 0 } : Room) s m #[(.int (5 : Int32))] below meth c s₁ [] 0 0 := Stand.of_body Bd
  have e0 : s₁.heap = h0 := by rw [← hh, Bd.state]; rfl
  have N0 := Fr.nil n0
  have pre0 : ∀ t, Steps p.tables e below (s₁.setTop (mkF m 0 #[.val (.int (5 : Int32))] [])) t → Steps p.tables e below (s₁.setTop (entryFrame m #[(.int (5 : Int32))] 1)) t := fun t k => castTop (ef_1_0 m (5 : Int32)) k
  obtain ⟨T1, X1, e1, st1⟩ := getS2 X0 hx hZ hown (host := "") (Or.inl (hw _ (List.mem_of_getElem? (i := 63) rfl))) Via.refl e0 (S_L5.ext O0.2) (g := (mkF m 41 #[.val (.int (5 : Int32))] [])) rfl (hb hby d1_41)
  obtain ⟨fs, hr, hrun, hended, hW, hsame⟩ := X1.leave (v := some (.ref s_L5)) (fun h => by rw [Bd.returns] at h; cases h)
  refine ⟨_, _, pre0 _ ?_, hrun, hended, _, _, rfl, ?_, ⟨_, rfl⟩, hW, hsame.mono (by decide) (by decide)⟩
  · show Steps p.tables e below (s₁.setTop (mkF m 0 #[.val (.int (5 : Int32))] [])) _
    refine XS.iloadN X0.here hx rfl (hb hby d1_0) rfl ?_
    refine XS.iconst X0.here hx rfl (hb hby d1_1) ?_
    refine XS.icmpYes X0.here hx rfl (pc0 := 2) (pc' := 9) rfl (hb hby d1_2) rfl (feq (by decide : ¬ ((5 : Int32) = (1 : Int32)))).2 (by decide) (by decide) ?_
    refine XS.iloadN X0.here hx rfl (hb hby d1_9) rfl ?_
    refine XS.iconst X0.here hx rfl (hb hby d1_10) ?_
    show Steps p.tables e below (s₁.setTop (mkF m 11 #[.val (.int (5 : Int32))] [(.int (2 : Int32)), (.int (5 : Int32))])) _
    refine XS.icmpYes X0.here hx rfl (pc0 := 11) (pc' := 18) rfl (hb hby d1_11) rfl (feq (by decide : ¬ ((5 : Int32) = (2 : Int32)))).2 (by decide) (by decide) ?_
    refine XS.iloadN X0.here hx rfl (hb hby d1_18) rfl ?_
    refine XS.iconst X0.here hx rfl (hb hby d1_19) ?_
    refine XS.icmpYes X0.here hx rfl (pc0 := 20) (pc' := 27) rfl (hb hby d1_20) rfl (feq (by decide : ¬ ((5 : Int32) = (3 : Int32)))).2 (by decide) (by decide) ?_
    refine XS.iloadN X0.here hx rfl (hb hby d1_27) rfl ?_
    show Steps p.tables e below (s₁.setTop (mkF m 28 #[.val (.int (5 : Int32))] [(.int (5 : Int32))])) _
    refine XS.iconst X0.here hx rfl (hb hby d1_28) ?_
    refine XS.icmpYes X0.here hx rfl (pc0 := 29) (pc' := 36) rfl (hb hby d1_29) rfl (feq (by decide : ¬ ((5 : Int32) = (4 : Int32)))).2 (by decide) (by decide) ?_
    refine XS.iloadN X0.here hx rfl (hb hby d1_36) rfl ?_
    refine XS.iconst X0.here hx rfl (hb hby d1_37) ?_
    refine XS.icmpNo X0.here hx rfl (hb hby d1_38) rfl (teq (by decide : (5 : Int32) = (5 : Int32))).2 ?_
    show Steps p.tables e below (s₁.setTop (mkF m 41 #[.val (.int (5 : Int32))] [])) _
    refine st1 _ ?_
    show Steps p.tables e below (T1.setTop (mkF m 44 #[.val (.int (5 : Int32))] [(.ref s_L5)])) _
    exact retOut X1 hx Bd.returns rfl (Or.inr (Or.inr (Or.inr (Or.inr ⟨rfl, rfl, rfl⟩)))) (hb hby d1_44) hr
  · show own_Qr h0 n0 _ T1.heap _
    rw [e1]
    exact ⟨s_L5, rfl, N0, rfl⟩
theorem r_tierN (l : Launch) (Z : State) (a0 : Array Value) (hw : ∀ d ∈ tables_1, d.before a0 Z = true) (ws : List Jvm.Cond) (s_L1 s_L4 s_L3 s_L5 s_L2 : Addr) (cs1 : Int32) (h0 : Heap) (n0 : Nat) (O0 : Old Z n0 h0) (G : own_Ctx Z Z.heap s_L1 s_L4 s_L3 s_L5 s_L2 cs1) (t1 : Int32) (ht : t1 = (1 : Int32) ∨ t1 = (2 : Int32) ∨ t1 = (3 : Int32) ∨ t1 = (4 : Int32) ∨ t1 = (5 : Int32)) :
    MetFree l (⟨"com/example/pending_actions/pendingactions/policy/AssessmentIsAutoApprovedPinLaw", "pick", "(I)Lcom/example/pending_actions/pendingactions/policy/RiskTier;"⟩ : MethodName) (head1 (Jvm.Cond.code (⟨"com/example/pending_actions/pendingactions/policy/AssessmentIsAutoApprovedPinLaw", "pick", "(I)Lcom/example/pending_actions/pendingactions/policy/RiskTier;"⟩ : MethodName) method_2_code 1 (some (.object "com/example/pending_actions/pendingactions/policy/RiskTier")) :: ws) ({ frames := 0, cells := 0, slots := 0, locals := 0 } : Room)) (fun a U => a = #[(.int t1)] ∧ Z.Warmed39 U.vm ∧ U.heap = h0) (fun _ _ _ _ _ => True) (fun _ U o U' => ∃ v L, o = .returned v ∧ own_Qr h0 n0 v U'.heap L ∧ FrameEnd U o U' L ({ frames := 0, cells := 0, slots := 0, locals := 0 } : Room).cells ({ frames := 0, cells := 0, slots := 0, locals := 0 } : Room).slots) := by
  rcases ht with rfl | rfl | rfl | rfl | rfl
  · exact r_tier_1 l Z a0 hw ws s_L1 s_L4 s_L3 s_L5 s_L2 cs1 h0 n0 O0 G
  · exact r_tier_2 l Z a0 hw ws s_L1 s_L4 s_L3 s_L5 s_L2 cs1 h0 n0 O0 G
  · exact r_tier_3 l Z a0 hw ws s_L1 s_L4 s_L3 s_L5 s_L2 cs1 h0 n0 O0 G
  · exact r_tier_4 l Z a0 hw ws s_L1 s_L4 s_L3 s_L5 s_L2 cs1 h0 n0 O0 G
  · exact r_tier_5 l Z a0 hw ws s_L1 s_L4 s_L3 s_L5 s_L2 cs1 h0 n0 O0 G
def own_Qb2 (Z : State) (a3 : Addr) (k3 : ClassId) (c0_ c1_ : Int32) (h0 : Heap) (n0 : Nat) (v : Option Value) (h : Heap) (L : List Loc) : Prop := v = some (.int (2 : Int32)) ∧ Fr n0 L ∧ Keep h0 h [a3] ∧ Arv Z h a3 k3 .byte (2 : Int32) [(.int (nar .byte c0_.toInt8.toInt32)), (.int (nar .byte c1_.toInt8.toInt32))] (.int (0 : Int32))
theorem d8_0 : decode jdk_52_method_21_code 0 = .ok (.iconst 0, 1) := by decide +kernel
theorem d8_1 : decode jdk_52_method_21_code 1 = .ok (.istore 5, 2) := by decide +kernel
theorem d8_3 : decode jdk_52_method_21_code 3 = .ok (.iload 5, 2) := by decide +kernel
theorem d8_5 : decode jdk_52_method_21_code 5 = .ok (.iload 4, 2) := by decide +kernel
theorem d8_7 : decode jdk_52_method_21_code 7 = .ok (.if_icmp .ge 37, 3) := by decide +kernel
theorem d8_10 : decode jdk_52_method_21_code 10 = .ok (.aload_n 0, 1) := by decide +kernel
theorem d8_11 : decode jdk_52_method_21_code 11 = .ok (.iload_n 1, 1) := by decide +kernel
theorem d8_12 : decode jdk_52_method_21_code 12 = .ok (.caload, 1) := by decide +kernel
theorem d8_13 : decode jdk_52_method_21_code 13 = .ok (.istore 6, 2) := by decide +kernel
theorem d8_15 : decode jdk_52_method_21_code 15 = .ok (.iload 6, 2) := by decide +kernel
theorem d8_17 : decode jdk_52_method_21_code 17 = .ok (.sipush 255, 3) := by decide +kernel
theorem d8_20 : decode jdk_52_method_21_code 20 = .ok (.if_icmp .le 6, 3) := by decide +kernel
theorem d8_26 : decode jdk_52_method_21_code 26 = .ok (.aload_n 2, 1) := by decide +kernel
theorem d8_27 : decode jdk_52_method_21_code 27 = .ok (.iload_n 3, 1) := by decide +kernel
theorem d8_28 : decode jdk_52_method_21_code 28 = .ok (.iload 6, 2) := by decide +kernel
theorem d8_30 : decode jdk_52_method_21_code 30 = .ok (.i2b, 1) := by decide +kernel
theorem d8_31 : decode jdk_52_method_21_code 31 = .ok (.bastore, 1) := by decide +kernel
theorem d8_32 : decode jdk_52_method_21_code 32 = .ok (.iinc 1 1, 3) := by decide +kernel
theorem d8_35 : decode jdk_52_method_21_code 35 = .ok (.iinc 3 1, 3) := by decide +kernel
theorem d8_38 : decode jdk_52_method_21_code 38 = .ok (.iinc 5 1, 3) := by decide +kernel
theorem d8_41 : decode jdk_52_method_21_code 41 = .ok (.goto (-38), 3) := by decide +kernel
theorem d8_44 : decode jdk_52_method_21_code 44 = .ok (.iload 4, 2) := by decide +kernel
theorem d8_46 : decode jdk_52_method_21_code 46 = .ok (.ireturn, 1) := by decide +kernel
theorem ef_8_1 (m : MethodId) (x0 : Addr) (x1 : Int32) (x2 : Addr) (x3 : Int32) (x4 : Int32) : entryFrame m #[(.ref x0), (.int x1), (.ref x2), (.int x3), (.int x4)] 7 = mkF m 0 #[.val (.ref x0), .val (.int x1), .val (.ref x2), .val (.int x3), .val (.int x4), .unset, .unset] [] := by first | (simp [entryFrame, mkF, argsToLocals, Value.category]; done) | rfl
theorem pn_1 : plainName "java/lang/StringUTF16" = true := by first | (simp [plainName, overriddenIn]; done) | decide +kernel
set_option maxRecDepth 65536 in
set_option maxHeartbeats 40000000 in
theorem r_cl2 (l : Launch) (Z : State) (a0 : Array Value) (hw : ∀ d ∈ tables_1, d.before a0 Z = true) (ws : List Jvm.Cond) (s_L1 s_L4 s_L3 s_L5 s_L2 : Addr) (cs1 : Int32) (h0 : Heap) (n0 : Nat) (O0 : Old Z n0 h0) (G : own_Ctx Z Z.heap s_L1 s_L4 s_L3 s_L5 s_L2 cs1) (a2 a3 : Addr) (k2 k3 : ClassId) (c0_ c1_ : Int32) (Va : Arv Z h0 a2 k2 .char (2 : Int32) [(.int c0_), (.int c1_)] (.int (0 : Int32))) (Vb : Arv Z h0 a3 k3 .byte (2 : Int32) [(.int (0 : Int32)), (.int (0 : Int32))] (.int (0 : Int32))) (ga : n0 ≤ a3) (hne : a2 ≠ a3) (hc0_ : ¬ ((255 : Int32) < c0_)) (hc1_ : ¬ ((255 : Int32) < c1_)) :
    MetFree l (⟨"java/lang/StringUTF16", "compress", "([CI[BII)I"⟩ : MethodName) (head1 (Jvm.Cond.code (⟨"java/lang/StringUTF16", "compress", "([CI[BII)I"⟩ : MethodName) jdk_52_method_21_code 7 (some .int) :: ws) ({ frames := 0, cells := 0, slots := 0, locals := 0 } : Room)) (fun a U => a = #[(.ref a2), (.int (0 : Int32)), (.ref a3), (.int (0 : Int32)), (.int (2 : Int32))] ∧ Z.Warmed39 U.vm ∧ U.heap = h0) (fun _ _ _ _ _ => True) (fun _ U o U' => ∃ v L, o = .returned v ∧ own_Qb2 Z a3 k3 c0_ c1_ h0 n0 v U'.heap L ∧ FrameEnd U o U' L ({ frames := 0, cells := 0, slots := 0, locals := 0 } : Room).cells ({ frames := 0, cells := 0, slots := 0, locals := 0 } : Room).slots) := by
  have G0 := G
  obtain ⟨S_L1, E_L1, S_L4, E_L4, S_L3, E_L3, S_L5, E_L5, S_L2, E_L2, S_CS, N_CS⟩ := G
  refine MetFree.of_bodySF (plainFor_of_name pn_1) hisR ?_
  intro p e s m args below meth c s₁ Bd hml0 hP hK
  obtain ⟨rfl, hZ, hh⟩ := hP
  have hx := Bd.exec
  have hby := Bd.bytes
  have hml : c.maxLocals = 7 := hml0
  have hown : s.vm.findClass "java/lang/StringUTF16" = some m.cls := findClass_of_methodNamed Bd.named
  have hnm := (name_of_methodNamed Bd.named Bd.method).1
  have X0 : Stand p l e ({ frames := 0, cells := 0, slots := 0, locals := 0 } : Room) s m #[(.ref a2), (.int (0 : Int32)), (.ref a3), (.int (0 : Int32)), (.int (2 : Int32))] below meth c s₁ [] 0 0 := Stand.of_body Bd
  have e0 : s₁.heap = h0 := by rw [← hh, Bd.state]; rfl
  have N0 := Fr.nil n0
  have pre0 : ∀ t, Steps p.tables e below (s₁.setTop (mkF m 0 #[.val (.ref a2), .val (.int (0 : Int32)), .val (.ref a3), .val (.int (0 : Int32)), .val (.int (2 : Int32)), .unset, .unset] [])) t → Steps p.tables e below (s₁.setTop (entryFrame m #[(.ref a2), (.int (0 : Int32)), (.ref a3), (.int (0 : Int32)), (.int (2 : Int32))] 7)) t := fun t k => castTop (ef_8_1 m a2 (0 : Int32) a3 (0 : Int32) (2 : Int32)) k
  have vc1 := Va
  obtain ⟨cl1, Ar1, qk1, S1, Nn1, Hs1, Gf1⟩ := vc1
  have hin1 : ¬ ((0 : Int32) < 0 ∨ cl1.slots.size ≤ ((0 : Int32)).toNatClampNeg) := inb_of S1 ⟨by decide, by decide⟩
  have hat1 : cl1.slots[((0 : Int32)).toNatClampNeg]? = some (.int c0_) := Has.at Hs1 hin1 rfl
  have vc2 := Vb
  obtain ⟨cl2, Ar2, qk2, S2, Nn2, Hs2, Gf2⟩ := vc2
  have hin2 : ¬ ((0 : Int32) < 0 ∨ cl2.slots.size ≤ ((0 : Int32)).toNatClampNeg) := inb_of S2 ⟨by decide, by decide⟩
  obtain ⟨T3, h3, X3, e3, W3, st3⟩ := stB X0 hx hZ e0 Ar2 (j := (0 : Int32)) hin2 (g := (mkF m 31 #[.val (.ref a2), .val (.int (0 : Int32)), .val (.ref a3), .val (.int (0 : Int32)), .val (.int (2 : Int32)), .val (.int (0 : Int32)), .val (.int c0_)] [(.int (c0_.toInt8.toInt32)), (.int (0 : Int32)), (.ref a3)])) rfl rfl (hb hby d8_31)
  have f4 := Va.other W3 hne
  have O3 := O0.wr W3 ga
  have K3 : Keep h0 h3 [a3] := (Keep.refl h0 [a3]).wr W3 (Or.inl (List.mem_of_getElem? (i := 0) rfl))
  have N3 := Fr.snoc X3 N0 ga
  have f5 : Arv Z h3 a3 k3 .byte (2 : Int32) [(.int (nar .byte (c0_.toInt8.toInt32))), (.int (0 : Int32))] (.int (0 : Int32)) := Arv.set Ar2 qk2 S2 Nn2 Hs2 Gf2 (fits_nar_byte _) W3 0 rfl (Nat.le_of_ble_eq_true rfl)
  have vc6 := f4
  obtain ⟨cl6, Ar6, qk6, S6, Nn6, Hs6, Gf6⟩ := vc6
  have hin6 : ¬ (((0 : Int32) + (1 : Int32)) < 0 ∨ cl6.slots.size ≤ (((0 : Int32) + (1 : Int32))).toNatClampNeg) := inb_of S6 ⟨by decide, by decide⟩
  have hat6 : cl6.slots[(((0 : Int32) + (1 : Int32))).toNatClampNeg]? = some (.int c1_) := Has.at Hs6 hin6 rfl
  have vc7 := f5
  obtain ⟨cl7, Ar7, qk7, S7, Nn7, Hs7, Gf7⟩ := vc7
  have hin7 : ¬ (((0 : Int32) + (1 : Int32)) < 0 ∨ cl7.slots.size ≤ (((0 : Int32) + (1 : Int32))).toNatClampNeg) := inb_of S7 ⟨by decide, by decide⟩
  obtain ⟨T8, h8, X8, e8, W8, st8⟩ := stB X3 hx hZ e3 Ar7 (j := ((0 : Int32) + (1 : Int32))) hin7 (g := (mkF m 31 #[.val (.ref a2), .val (.int ((0 : Int32) + (1 : Int32))), .val (.ref a3), .val (.int ((0 : Int32) + (1 : Int32))), .val (.int (2 : Int32)), .val (.int ((0 : Int32) + (1 : Int32))), .val (.int c1_)] [(.int (c1_.toInt8.toInt32)), (.int ((0 : Int32) + (1 : Int32))), (.ref a3)])) rfl rfl (hb hby d8_31)
  have f9 := f4.other W8 hne
  have O8 := O3.wr W8 ga
  have K8 : Keep h0 h8 [a3] := K3.wr W8 (Or.inl (List.mem_of_getElem? (i := 0) rfl))
  have N8 := Fr.snoc X8 N3 ga
  have f10 : Arv Z h8 a3 k3 .byte (2 : Int32) [(.int (nar .byte (c0_.toInt8.toInt32))), (.int (nar .byte (c1_.toInt8.toInt32)))] (.int (0 : Int32)) := Arv.set Ar7 qk7 S7 Nn7 Hs7 Gf7 (fits_nar_byte _) W8 1 rfl (Nat.le_of_ble_eq_true rfl)
  obtain ⟨fs, hr, hrun, hended, hW, hsame⟩ := X8.leave (v := some (.int (2 : Int32))) (fun h => by rw [Bd.returns] at h; cases h)
  refine ⟨_, _, pre0 _ ?_, hrun, hended, _, _, rfl, ?_, ⟨_, rfl⟩, hW, hsame.mono (by decide) (by decide)⟩
  · show Steps p.tables e below (s₁.setTop (mkF m 0 #[.val (.ref a2), .val (.int (0 : Int32)), .val (.ref a3), .val (.int (0 : Int32)), .val (.int (2 : Int32)), .unset, .unset] [])) _
    refine XS.iconst X0.here hx rfl (hb hby d8_0) ?_
    refine XS.istore X0.here hx rfl (hb hby d8_1) rfl (l' := #[.val (.ref a2), .val (.int (0 : Int32)), .val (.ref a3), .val (.int (0 : Int32)), .val (.int (2 : Int32)), .val (.int (0 : Int32)), .unset]) rfl ?_
    refine XS.iload X0.here hx rfl (hb hby d8_3) rfl ?_
    refine XS.iload X0.here hx rfl (hb hby d8_5) rfl ?_
    refine XS.icmpNo X0.here hx rfl (hb hby d8_7) rfl (tlt (by decide : (0 : Int32) < (2 : Int32))).2.1 ?_
    show Steps p.tables e below (s₁.setTop (mkF m 10 #[.val (.ref a2), .val (.int (0 : Int32)), .val (.ref a3), .val (.int (0 : Int32)), .val (.int (2 : Int32)), .val (.int (0 : Int32)), .unset] [])) _
    refine XS.aloadN X0.here hx rfl (hb hby d8_10) rfl rfl ?_
    refine XS.iloadN X0.here hx rfl (hb hby d8_11) rfl ?_
    show Steps p.tables e below (s₁.setTop (mkF m 12 #[.val (.ref a2), .val (.int (0 : Int32)), .val (.ref a3), .val (.int (0 : Int32)), .val (.int (2 : Int32)), .val (.int (0 : Int32)), .unset] [(.int (0 : Int32)), (.ref a2)])) _
    refine X0.caload hx (j := (0 : Int32)) (v := (.int c0_)) (by rw [e0]; exact Ar1.1) (State.isArrayOf_alike hZ.alike Ar1.2.1) Ar1.2.2 hin1 hat1 (g := (mkF m 12 #[.val (.ref a2), .val (.int (0 : Int32)), .val (.ref a3), .val (.int (0 : Int32)), .val (.int (2 : Int32)), .val (.int (0 : Int32)), .unset] [(.int (0 : Int32)), (.ref a2)])) rfl rfl (hb hby d8_12) _ ?_
    show Steps p.tables e below (s₁.setTop (mkF m 13 #[.val (.ref a2), .val (.int (0 : Int32)), .val (.ref a3), .val (.int (0 : Int32)), .val (.int (2 : Int32)), .val (.int (0 : Int32)), .unset] [(.int c0_)])) _
    refine XS.istore X0.here hx rfl (hb hby d8_13) rfl (l' := #[.val (.ref a2), .val (.int (0 : Int32)), .val (.ref a3), .val (.int (0 : Int32)), .val (.int (2 : Int32)), .val (.int (0 : Int32)), .val (.int c0_)]) rfl ?_
    refine XS.iload X0.here hx rfl (hb hby d8_15) rfl ?_
    refine XS.sipush X0.here hx rfl (hb hby d8_17) ?_
    refine XS.icmpYes X0.here hx rfl (pc0 := 20) (pc' := 26) rfl (hb hby d8_20) rfl (flt (hc0_ : ¬ ((255 : Int32) < c0_))).2.2.2 (by decide) (by decide) ?_
    refine XS.aloadN X0.here hx rfl (hb hby d8_26) rfl rfl ?_
    show Steps p.tables e below (s₁.setTop (mkF m 27 #[.val (.ref a2), .val (.int (0 : Int32)), .val (.ref a3), .val (.int (0 : Int32)), .val (.int (2 : Int32)), .val (.int (0 : Int32)), .val (.int c0_)] [(.ref a3)])) _
    refine XS.iloadN X0.here hx rfl (hb hby d8_27) rfl ?_
    refine XS.iload X0.here hx rfl (hb hby d8_28) rfl ?_
    refine XS.i2b X0.here hx rfl (hb hby d8_30) rfl ?_
    show Steps p.tables e below (s₁.setTop (mkF m 31 #[.val (.ref a2), .val (.int (0 : Int32)), .val (.ref a3), .val (.int (0 : Int32)), .val (.int (2 : Int32)), .val (.int (0 : Int32)), .val (.int c0_)] [(.int (c0_.toInt8.toInt32)), (.int (0 : Int32)), (.ref a3)])) _
    refine st3 _ ?_
    show Steps p.tables e below (T3.setTop (mkF m 32 #[.val (.ref a2), .val (.int (0 : Int32)), .val (.ref a3), .val (.int (0 : Int32)), .val (.int (2 : Int32)), .val (.int (0 : Int32)), .val (.int c0_)] [])) _
    refine XS.iinc X3.here hx rfl (hb hby d8_32) rfl (l' := #[.val (.ref a2), .val (.int ((0 : Int32) + (1 : Int32))), .val (.ref a3), .val (.int (0 : Int32)), .val (.int (2 : Int32)), .val (.int (0 : Int32)), .val (.int c0_)]) rfl ?_
    show Steps p.tables e below (T3.setTop (mkF m 35 #[.val (.ref a2), .val (.int ((0 : Int32) + (1 : Int32))), .val (.ref a3), .val (.int (0 : Int32)), .val (.int (2 : Int32)), .val (.int (0 : Int32)), .val (.int c0_)] [])) _
    refine XS.iinc X3.here hx rfl (hb hby d8_35) rfl (l' := #[.val (.ref a2), .val (.int ((0 : Int32) + (1 : Int32))), .val (.ref a3), .val (.int ((0 : Int32) + (1 : Int32))), .val (.int (2 : Int32)), .val (.int (0 : Int32)), .val (.int c0_)]) rfl ?_
    show Steps p.tables e below (T3.setTop (mkF m 38 #[.val (.ref a2), .val (.int ((0 : Int32) + (1 : Int32))), .val (.ref a3), .val (.int ((0 : Int32) + (1 : Int32))), .val (.int (2 : Int32)), .val (.int (0 : Int32)), .val (.int c0_)] [])) _
    refine XS.iinc X3.here hx rfl (hb hby d8_38) rfl (l' := #[.val (.ref a2), .val (.int ((0 : Int32) + (1 : Int32))), .val (.ref a3), .val (.int ((0 : Int32) + (1 : Int32))), .val (.int (2 : Int32)), .val (.int ((0 : Int32) + (1 : Int32))), .val (.int c0_)]) rfl ?_
    show Steps p.tables e below (T3.setTop (mkF m 41 #[.val (.ref a2), .val (.int ((0 : Int32) + (1 : Int32))), .val (.ref a3), .val (.int ((0 : Int32) + (1 : Int32))), .val (.int (2 : Int32)), .val (.int ((0 : Int32) + (1 : Int32))), .val (.int c0_)] [])) _
    refine XS.goto X3.here hx rfl (pc0 := 41) (pc' := 3) rfl (hb hby d8_41) (by decide) (by decide) ?_
    refine XS.iload X3.here hx rfl (hb hby d8_3) rfl ?_
    refine XS.iload X3.here hx rfl (hb hby d8_5) rfl ?_
    refine XS.icmpNo X3.here hx rfl (hb hby d8_7) rfl (tlt (by decide : ((0 : Int32) + (1 : Int32)) < (2 : Int32))).2.1 ?_
    refine XS.aloadN X3.here hx rfl (hb hby d8_10) rfl rfl ?_
    show Steps p.tables e below (T3.setTop (mkF m 11 #[.val (.ref a2), .val (.int ((0 : Int32) + (1 : Int32))), .val (.ref a3), .val (.int ((0 : Int32) + (1 : Int32))), .val (.int (2 : Int32)), .val (.int ((0 : Int32) + (1 : Int32))), .val (.int c0_)] [(.ref a2)])) _
    refine XS.iloadN X3.here hx rfl (hb hby d8_11) rfl ?_
    show Steps p.tables e below (T3.setTop (mkF m 12 #[.val (.ref a2), .val (.int ((0 : Int32) + (1 : Int32))), .val (.ref a3), .val (.int ((0 : Int32) + (1 : Int32))), .val (.int (2 : Int32)), .val (.int ((0 : Int32) + (1 : Int32))), .val (.int c0_)] [(.int ((0 : Int32) + (1 : Int32))), (.ref a2)])) _
    refine X3.caload hx (j := ((0 : Int32) + (1 : Int32))) (v := (.int c1_)) (by rw [e3]; exact Ar6.1) (State.isArrayOf_alike hZ.alike Ar6.2.1) Ar6.2.2 hin6 hat6 (g := (mkF m 12 #[.val (.ref a2), .val (.int ((0 : Int32) + (1 : Int32))), .val (.ref a3), .val (.int ((0 : Int32) + (1 : Int32))), .val (.int (2 : Int32)), .val (.int ((0 : Int32) + (1 : Int32))), .val (.int c0_)] [(.int ((0 : Int32) + (1 : Int32))), (.ref a2)])) rfl rfl (hb hby d8_12) _ ?_
    show Steps p.tables e below (T3.setTop (mkF m 13 #[.val (.ref a2), .val (.int ((0 : Int32) + (1 : Int32))), .val (.ref a3), .val (.int ((0 : Int32) + (1 : Int32))), .val (.int (2 : Int32)), .val (.int ((0 : Int32) + (1 : Int32))), .val (.int c0_)] [(.int c1_)])) _
    refine XS.istore X3.here hx rfl (hb hby d8_13) rfl (l' := #[.val (.ref a2), .val (.int ((0 : Int32) + (1 : Int32))), .val (.ref a3), .val (.int ((0 : Int32) + (1 : Int32))), .val (.int (2 : Int32)), .val (.int ((0 : Int32) + (1 : Int32))), .val (.int c1_)]) rfl ?_
    refine XS.iload X3.here hx rfl (hb hby d8_15) rfl ?_
    refine XS.sipush X3.here hx rfl (hb hby d8_17) ?_
    refine XS.icmpYes X3.here hx rfl (pc0 := 20) (pc' := 26) rfl (hb hby d8_20) rfl (flt (hc1_ : ¬ ((255 : Int32) < c1_))).2.2.2 (by decide) (by decide) ?_
    refine XS.aloadN X3.here hx rfl (hb hby d8_26) rfl rfl ?_
    show Steps p.tables e below (T3.setTop (mkF m 27 #[.val (.ref a2), .val (.int ((0 : Int32) + (1 : Int32))), .val (.ref a3), .val (.int ((0 : Int32) + (1 : Int32))), .val (.int (2 : Int32)), .val (.int ((0 : Int32) + (1 : Int32))), .val (.int c1_)] [(.ref a3)])) _
    refine XS.iloadN X3.here hx rfl (hb hby d8_27) rfl ?_
    refine XS.iload X3.here hx rfl (hb hby d8_28) rfl ?_
    refine XS.i2b X3.here hx rfl (hb hby d8_30) rfl ?_
    show Steps p.tables e below (T3.setTop (mkF m 31 #[.val (.ref a2), .val (.int ((0 : Int32) + (1 : Int32))), .val (.ref a3), .val (.int ((0 : Int32) + (1 : Int32))), .val (.int (2 : Int32)), .val (.int ((0 : Int32) + (1 : Int32))), .val (.int c1_)] [(.int (c1_.toInt8.toInt32)), (.int ((0 : Int32) + (1 : Int32))), (.ref a3)])) _
    refine st8 _ ?_
    show Steps p.tables e below (T8.setTop (mkF m 32 #[.val (.ref a2), .val (.int ((0 : Int32) + (1 : Int32))), .val (.ref a3), .val (.int ((0 : Int32) + (1 : Int32))), .val (.int (2 : Int32)), .val (.int ((0 : Int32) + (1 : Int32))), .val (.int c1_)] [])) _
    refine XS.iinc X8.here hx rfl (hb hby d8_32) rfl (l' := #[.val (.ref a2), .val (.int (((0 : Int32) + (1 : Int32)) + (1 : Int32))), .val (.ref a3), .val (.int ((0 : Int32) + (1 : Int32))), .val (.int (2 : Int32)), .val (.int ((0 : Int32) + (1 : Int32))), .val (.int c1_)]) rfl ?_
    show Steps p.tables e below (T8.setTop (mkF m 35 #[.val (.ref a2), .val (.int (((0 : Int32) + (1 : Int32)) + (1 : Int32))), .val (.ref a3), .val (.int ((0 : Int32) + (1 : Int32))), .val (.int (2 : Int32)), .val (.int ((0 : Int32) + (1 : Int32))), .val (.int c1_)] [])) _
    refine XS.iinc X8.here hx rfl (hb hby d8_35) rfl (l' := #[.val (.ref a2), .val (.int (((0 : Int32) + (1 : Int32)) + (1 : Int32))), .val (.ref a3), .val (.int (((0 : Int32) + (1 : Int32)) + (1 : Int32))), .val (.int (2 : Int32)), .val (.int ((0 : Int32) + (1 : Int32))), .val (.int c1_)]) rfl ?_
    show Steps p.tables e below (T8.setTop (mkF m 38 #[.val (.ref a2), .val (.int (((0 : Int32) + (1 : Int32)) + (1 : Int32))), .val (.ref a3), .val (.int (((0 : Int32) + (1 : Int32)) + (1 : Int32))), .val (.int (2 : Int32)), .val (.int ((0 : Int32) + (1 : Int32))), .val (.int c1_)] [])) _
    refine XS.iinc X8.here hx rfl (hb hby d8_38) rfl (l' := #[.val (.ref a2), .val (.int (((0 : Int32) + (1 : Int32)) + (1 : Int32))), .val (.ref a3), .val (.int (((0 : Int32) + (1 : Int32)) + (1 : Int32))), .val (.int (2 : Int32)), .val (.int (((0 : Int32) + (1 : Int32)) + (1 : Int32))), .val (.int c1_)]) rfl ?_
    show Steps p.tables e below (T8.setTop (mkF m 41 #[.val (.ref a2), .val (.int (((0 : Int32) + (1 : Int32)) + (1 : Int32))), .val (.ref a3), .val (.int (((0 : Int32) + (1 : Int32)) + (1 : Int32))), .val (.int (2 : Int32)), .val (.int (((0 : Int32) + (1 : Int32)) + (1 : Int32))), .val (.int c1_)] [])) _
    refine XS.goto X8.here hx rfl (pc0 := 41) (pc' := 3) rfl (hb hby d8_41) (by decide) (by decide) ?_
    refine XS.iload X8.here hx rfl (hb hby d8_3) rfl ?_
    refine XS.iload X8.here hx rfl (hb hby d8_5) rfl ?_
    refine XS.icmpYes X8.here hx rfl (pc0 := 7) (pc' := 44) rfl (hb hby d8_7) rfl (flt (by decide : ¬ ((((0 : Int32) + (1 : Int32)) + (1 : Int32)) < (2 : Int32)))).2.1 (by decide) (by decide) ?_
    refine XS.iload X8.here hx rfl (hb hby d8_44) rfl ?_
    show Steps p.tables e below (T8.setTop (mkF m 46 #[.val (.ref a2), .val (.int (((0 : Int32) + (1 : Int32)) + (1 : Int32))), .val (.ref a3), .val (.int (((0 : Int32) + (1 : Int32)) + (1 : Int32))), .val (.int (2 : Int32)), .val (.int (((0 : Int32) + (1 : Int32)) + (1 : Int32))), .val (.int c1_)] [(.int (2 : Int32))])) _
    exact retI X8 hx Bd.returns (hb hby d8_46) hr
  · show own_Qb2 Z a3 k3 c0_ c1_ h0 n0 _ T8.heap _
    rw [e8]
    exact ⟨rfl, N8, K8, f10⟩
def own_Qc2 (Z : State) (h0 : Heap) (n0 : Nat) (v : Option Value) (h : Heap) (L : List Loc) : Prop := ∃ (b : Addr) (k : ClassId) (vs : List Value), v = some (.ref b) ∧ Fr n0 L ∧ Keep h0 h [] ∧ h0.size ≤ b ∧ Arv Z h b k .byte (2 : Int32) vs (.int (0 : Int32))
theorem d7_0 : decode jdk_52_method_16_code 0 = .ok (.iload_n 2, 1) := by decide +kernel
theorem d7_1 : decode jdk_52_method_16_code 1 = .ok (.newarray .byte, 2) := by decide +kernel
theorem d7_3 : decode jdk_52_method_16_code 3 = .ok (.astore_n 3, 1) := by decide +kernel
theorem d7_4 : decode jdk_52_method_16_code 4 = .ok (.aload_n 0, 1) := by decide +kernel
theorem d7_5 : decode jdk_52_method_16_code 5 = .ok (.iload_n 1, 1) := by decide +kernel
theorem d7_6 : decode jdk_52_method_16_code 6 = .ok (.aload_n 3, 1) := by decide +kernel
theorem d7_7 : decode jdk_52_method_16_code 7 = .ok (.iconst 0, 1) := by decide +kernel
theorem d7_8 : decode jdk_52_method_16_code 8 = .ok (.iload_n 2, 1) := by decide +kernel
theorem d7_9 : decode jdk_52_method_16_code 9 = .ok (.invokestatic 115, 3) := by decide +kernel
theorem pd_0 : parseMethodDescriptor "([CI[BII)I" = some ⟨[(.array .char), .int, (.array .byte), .int, .int], some .int⟩ := by decide +kernel
theorem d7_12 : decode jdk_52_method_16_code 12 = .ok (.istore 4, 2) := by decide +kernel
theorem d7_14 : decode jdk_52_method_16_code 14 = .ok (.iload 4, 2) := by decide +kernel
theorem d7_16 : decode jdk_52_method_16_code 16 = .ok (.iload_n 2, 1) := by decide +kernel
theorem d7_17 : decode jdk_52_method_16_code 17 = .ok (.if_icmp .eq 40, 3) := by decide +kernel
theorem d7_57 : decode jdk_52_method_16_code 57 = .ok (.aload_n 3, 1) := by decide +kernel
theorem d7_58 : decode jdk_52_method_16_code 58 = .ok (.areturn, 1) := by decide +kernel
theorem ef_7_2 (m : MethodId) (x0 : Addr) (x1 : Int32) (x2 : Int32) : entryFrame m #[(.ref x0), (.int x1), (.int x2)] 6 = mkF m 0 #[.val (.ref x0), .val (.int x1), .val (.int x2), .unset, .unset, .unset] [] := by first | (simp [entryFrame, mkF, argsToLocals, Value.category]; done) | rfl
set_option maxRecDepth 65536 in
set_option maxHeartbeats 40000000 in
theorem r_cm2 (l : Launch) (Z : State) (a0 : Array Value) (hw : ∀ d ∈ tables_1, d.before a0 Z = true) (ws : List Jvm.Cond) (s_L1 s_L4 s_L3 s_L5 s_L2 : Addr) (cs1 : Int32) (h0 : Heap) (n0 : Nat) (O0 : Old Z n0 h0) (G : own_Ctx Z Z.heap s_L1 s_L4 s_L3 s_L5 s_L2 cs1) (a2 : Addr) (k2 : ClassId) (c0_ c1_ : Int32) (Va : Arv Z h0 a2 k2 .char (2 : Int32) [(.int c0_), (.int c1_)] (.int (0 : Int32))) (hc0_ : ¬ ((255 : Int32) < c0_)) (hc1_ : ¬ ((255 : Int32) < c1_)) :
    MetFree l (⟨"java/lang/StringUTF16", "compress", "([CII)[B"⟩ : MethodName) (head1 (Jvm.Cond.code (⟨"java/lang/StringUTF16", "compress", "([CII)[B"⟩ : MethodName) jdk_52_method_16_code 6 (some (.array .byte)) :: ws) ({ frames := 1, cells := 1, slots := 2, locals := 18 } : Room)) (fun a U => a = #[(.ref a2), (.int (0 : Int32)), (.int (2 : Int32))] ∧ Z.Warmed39 U.vm ∧ U.heap = h0) (fun _ _ _ _ _ => True) (fun _ U o U' => ∃ v L, o = .returned v ∧ own_Qc2 Z h0 n0 v U'.heap L ∧ FrameEnd U o U' L ({ frames := 1, cells := 1, slots := 2, locals := 18 } : Room).cells ({ frames := 1, cells := 1, slots := 2, locals := 18 } : Room).slots) := by
  have G0 := G
  obtain ⟨S_L1, E_L1, S_L4, E_L4, S_L3, E_L3, S_L5, E_L5, S_L2, E_L2, S_CS, N_CS⟩ := G
  refine MetFree.of_bodySF (plainFor_of_name pn_1) hisR ?_
  intro p e s m args below meth c s₁ Bd hml0 hP hK
  obtain ⟨rfl, hZ, hh⟩ := hP
  have hx := Bd.exec
  have hby := Bd.bytes
  have hml : c.maxLocals = 6 := hml0
  have hown : s.vm.findClass "java/lang/StringUTF16" = some m.cls := findClass_of_methodNamed Bd.named
  have hnm := (name_of_methodNamed Bd.named Bd.method).1
  have X0 : Stand p l e ({ frames := 1, cells := 1, slots := 2, locals := 18 } : Room) s m #[(.ref a2), (.int (0 : Int32)), (.int (2 : Int32))] below meth c s₁ [] 0 0 := Stand.of_body Bd
  have e0 : s₁.heap = h0 := by rw [← hh, Bd.state]; rfl
  have N0 := Fr.nil n0
  have pre0 : ∀ t, Steps p.tables e below (s₁.setTop (mkF m 0 #[.val (.ref a2), .val (.int (0 : Int32)), .val (.int (2 : Int32)), .unset, .unset, .unset] [])) t → Steps p.tables e below (s₁.setTop (entryFrame m #[(.ref a2), (.int (0 : Int32)), (.int (2 : Int32))] 6)) t := fun t k => castTop (ef_7_2 m a2 (0 : Int32) (2 : Int32)) k
  obtain ⟨T1, h1, k1, X1, e1, E1, A1, st1⟩ := newP X0 hx hZ (hw _ (List.mem_of_getElem? (i := 20) rfl)) e0 (g := (mkF m 1 #[.val (.ref a2), .val (.int (0 : Int32)), .val (.int (2 : Int32)), .unset, .unset, .unset] [(.int (2 : Int32))])) rfl (hb hby d7_1) rfl (by decide) (cap := 2) (by decide) (by decide) (by decide) (by decide)
  obtain ⟨b1, g1⟩ : ∃ z, z = h0.size := ⟨_, rfl⟩
  have ne_a2_b1 : a2 ≠ b1 := Nat.ne_of_lt (Nat.lt_of_lt_of_le Va.lt (Nat.le_of_eq g1.symm))
  have ne_s_L1_b1 : s_L1 ≠ b1 := Nat.ne_of_lt (Nat.lt_of_lt_of_le (E_L1.ext O0.2).lt (Nat.le_of_eq g1.symm))
  have ne_s_L4_b1 : s_L4 ≠ b1 := Nat.ne_of_lt (Nat.lt_of_lt_of_le (E_L4.ext O0.2).lt (Nat.le_of_eq g1.symm))
  have ne_s_L3_b1 : s_L3 ≠ b1 := Nat.ne_of_lt (Nat.lt_of_lt_of_le (E_L3.ext O0.2).lt (Nat.le_of_eq g1.symm))
  have ne_s_L5_b1 : s_L5 ≠ b1 := Nat.ne_of_lt (Nat.lt_of_lt_of_le (E_L5.ext O0.2).lt (Nat.le_of_eq g1.symm))
  have ne_s_L2_b1 : s_L2 ≠ b1 := Nat.ne_of_lt (Nat.lt_of_lt_of_le (E_L2.ext O0.2).lt (Nat.le_of_eq g1.symm))
  have g_b1 : n0 ≤ b1 := Nat.le_trans (O0.1 ▸ O0.2.1) (Nat.le_of_eq g1.symm)
  have sz_b1 : h0.size ≤ b1 := Nat.le_trans (Keep.refl h0 []).1 (Nat.le_of_eq g1.symm)
  rw [← g1] at A1 st1
  have f2 := Va.ext E1
  have O1 := O0.ext E1
  have K1 : Keep h0 h1 [] := (Keep.refl h0 []).ext E1
  have V1 : Arv Z h1 b1 k1 .byte (2 : Int32) [(.int (0 : Int32)), (.int (0 : Int32))] (.int (0 : Int32)) := (Arv.new A1 (by decide)).pad (pad_rep [] (.int (0 : Int32)) 2)
  obtain ⟨_, _, ⟨T3, L3, k3, n3⟩, -, X3, ⟨Lc3, hQ3, l3, y3, z3⟩, st3⟩ := Jvm.LawKit.callS X1 hx (y := (⟨"java/lang/StringUTF16", "compress", "([CI[BII)I"⟩ : MethodName)) hown (mvT hZ (hw _ (List.mem_of_getElem? (i := 53) rfl))) (mvT hZ (hw _ (List.mem_of_getElem? (i := 54) rfl))) (mvT hZ (hw _ (List.mem_of_getElem? (i := 51) rfl))) (mvT hZ (hw _ (List.mem_of_getElem? (i := 55) rfl))) (by decide) (backOf (W := 0) (r_cl2 l Z a0 hw [] s_L1 s_L4 s_L3 s_L5 s_L2 cs1 h1 n0 O1 G0 a2 b1 k2 k1 c0_ c1_ f2 V1 g_b1 ne_a2_b1 hc0_ hc1_) hZ (hw _ (List.mem_of_getElem? (i := 55) rfl)) (hw _ (List.mem_of_getElem? (i := 51) rfl)) (by decide) (by decide)) (g := (mkF m 9 #[.val (.ref a2), .val (.int (0 : Int32)), .val (.int (2 : Int32)), .val (.ref b1), .unset, .unset] [(.int (2 : Int32)), (.int (0 : Int32)), (.ref b1), (.int (0 : Int32)), (.ref a2)])) rfl (by rw [hml]; rfl) (argsL := [(.ref a2), (.int (0 : Int32)), (.ref b1), (.int (0 : Int32)), (.int (2 : Int32))]) (rest := []) (lenOf pd_0 rfl) rfl (by show 2 * 0 + _ ≤ _; exact Nat.le_of_eq rfl) (hb hby d7_9) (fun _ _ => ⟨rfl, e1, (by decide : 1 + 0 ≤ _), (by decide : 2 + 0 ≤ _)⟩)
  dsimp only [Pt.U, Pt.locs, Pt.cells, Pt.slots] at X3 l3 y3 z3 st3 hQ3
  subst l3 y3 z3
  obtain ⟨rfl, N3q, Kq3, Vb3⟩ := hQ3
  have N3 := Fr.app N0 N3q
  have f4 := f2.keep Kq3 (fun q => (List.mem_cons.mp q).elim ne_a2_b1 (fun q => nomatch q))
  have O3 := O1.keep Kq3 (allS g_b1 all0)
  have K3 : Keep h0 T3.heap [] := K1.trans Kq3 (allS (Or.inr sz_b1) all0)
  obtain ⟨fs, hr, hrun, hended, hW, hsame⟩ := X3.leave (v := some (.ref b1)) (fun h => by rw [Bd.returns] at h; cases h)
  refine ⟨_, _, pre0 _ ?_, hrun, hended, _, _, rfl, ?_, ⟨_, rfl⟩, hW, hsame.mono (by decide) (by decide)⟩
  · show Steps p.tables e below (s₁.setTop (mkF m 0 #[.val (.ref a2), .val (.int (0 : Int32)), .val (.int (2 : Int32)), .unset, .unset, .unset] [])) _
    refine XS.iloadN X0.here hx rfl (hb hby d7_0) rfl ?_
    show Steps p.tables e below (s₁.setTop (mkF m 1 #[.val (.ref a2), .val (.int (0 : Int32)), .val (.int (2 : Int32)), .unset, .unset, .unset] [(.int (2 : Int32))])) _
    refine st1 _ ?_
    show Steps p.tables e below (T1.setTop (mkF m 3 #[.val (.ref a2), .val (.int (0 : Int32)), .val (.int (2 : Int32)), .unset, .unset, .unset] [(.ref b1)])) _
    refine XS.astoreN X1.here hx rfl (hb hby d7_3) rfl rfl (l' := #[.val (.ref a2), .val (.int (0 : Int32)), .val (.int (2 : Int32)), .val (.ref b1), .unset, .unset]) rfl ?_
    refine XS.aloadN X1.here hx rfl (hb hby d7_4) rfl rfl ?_
    refine XS.iloadN X1.here hx rfl (hb hby d7_5) rfl ?_
    refine XS.aloadN X1.here hx rfl (hb hby d7_6) rfl rfl ?_
    refine XS.iconst X1.here hx rfl (hb hby d7_7) ?_
    show Steps p.tables e below (T1.setTop (mkF m 8 #[.val (.ref a2), .val (.int (0 : Int32)), .val (.int (2 : Int32)), .val (.ref b1), .unset, .unset] [(.int (0 : Int32)), (.ref b1), (.int (0 : Int32)), (.ref a2)])) _
    refine XS.iloadN X1.here hx rfl (hb hby d7_8) rfl ?_
    show Steps p.tables e below (T1.setTop (mkF m 9 #[.val (.ref a2), .val (.int (0 : Int32)), .val (.int (2 : Int32)), .val (.ref b1), .unset, .unset] [(.int (2 : Int32)), (.int (0 : Int32)), (.ref b1), (.int (0 : Int32)), (.ref a2)])) _
    refine st3 _ ?_
    show Steps p.tables e below (T3.setTop (mkF m 12 #[.val (.ref a2), .val (.int (0 : Int32)), .val (.int (2 : Int32)), .val (.ref b1), .unset, .unset] [(.int (2 : Int32))])) _
    refine XS.istore X3.here hx rfl (hb hby d7_12) rfl (l' := #[.val (.ref a2), .val (.int (0 : Int32)), .val (.int (2 : Int32)), .val (.ref b1), .val (.int (2 : Int32)), .unset]) rfl ?_
    refine XS.iload X3.here hx rfl (hb hby d7_14) rfl ?_
    refine XS.iloadN X3.here hx rfl (hb hby d7_16) rfl ?_
    refine XS.icmpYes X3.here hx rfl (pc0 := 17) (pc' := 57) rfl (hb hby d7_17) rfl (teq (by decide : (2 : Int32) = (2 : Int32))).1 (by decide) (by decide) ?_
    refine XS.aloadN X3.here hx rfl (hb hby d7_57) rfl rfl ?_
    show Steps p.tables e below (T3.setTop (mkF m 58 #[.val (.ref a2), .val (.int (0 : Int32)), .val (.int (2 : Int32)), .val (.ref b1), .val (.int (2 : Int32)), .unset] [(.ref b1)])) _
    exact retOut X3 hx Bd.returns rfl (Or.inr (Or.inr (Or.inr (Or.inr ⟨rfl, rfl, rfl⟩)))) (hb hby d7_58) hr
  · show own_Qc2 Z h0 n0 _ T3.heap _
    exact ⟨b1, k1, _, rfl, N3, K3, sz_b1, Vb3⟩
theorem d9_0 : decode jdk_52_method_15_code 0 = .ok (.iload_n 1, 1) := by decide +kernel
theorem d9_1 : decode jdk_52_method_15_code 1 = .ok (.aload_n 0, 1) := by decide +kernel
theorem d9_2 : decode jdk_52_method_15_code 2 = .ok (.arraylength, 1) := by decide +kernel
theorem d9_3 : decode jdk_52_method_15_code 3 = .ok (.isub, 1) := by decide +kernel
theorem d9_4 : decode jdk_52_method_15_code 4 = .ok (.bipush 31, 2) := by decide +kernel
theorem d9_6 : decode jdk_52_method_15_code 6 = .ok (.iushr, 1) := by decide +kernel
theorem d9_7 : decode jdk_52_method_15_code 7 = .ok (.i2b, 1) := by decide +kernel
theorem d9_8 : decode jdk_52_method_15_code 8 = .ok (.ireturn, 1) := by decide +kernel
theorem ef_9_3 (m : MethodId) (x0 : Addr) (x1 : Int32) : entryFrame m #[(.ref x0), (.int x1)] 2 = mkF m 0 #[.val (.ref x0), .val (.int x1)] [] := by first | (simp [entryFrame, mkF, argsToLocals, Value.category]; done) | rfl
set_option maxRecDepth 65536 in
set_option maxHeartbeats 40000000 in
theorem r_cd2 (l : Launch) (Z : State) (a0 : Array Value) (hw : ∀ d ∈ tables_1, d.before a0 Z = true) (ws : List Jvm.Cond) (s_L1 s_L4 s_L3 s_L5 s_L2 : Addr) (cs1 : Int32) (h0 : Heap) (n0 : Nat) (O0 : Old Z n0 h0) (G : own_Ctx Z Z.heap s_L1 s_L4 s_L3 s_L5 s_L2 cs1) (a2 : Addr) (k2 : ClassId) (vs : List Value) (Va : Arv Z h0 a2 k2 .byte (2 : Int32) vs (.int (0 : Int32))) :
    MetFree l (⟨"java/lang/StringUTF16", "coderFromArrayLen", "([BI)B"⟩ : MethodName) (head1 (Jvm.Cond.code (⟨"java/lang/StringUTF16", "coderFromArrayLen", "([BI)B"⟩ : MethodName) jdk_52_method_15_code 2 (some .byte) :: ws) ({ frames := 0, cells := 0, slots := 0, locals := 0 } : Room)) (fun a U => a = #[(.ref a2), (.int (2 : Int32))] ∧ Z.Warmed39 U.vm ∧ U.heap = h0) (fun _ _ _ _ _ => True) (fun _ U o U' => ∃ v L, o = .returned v ∧ own_Q (some (.int (0 : Int32))) h0 n0 v U'.heap L ∧ FrameEnd U o U' L ({ frames := 0, cells := 0, slots := 0, locals := 0 } : Room).cells ({ frames := 0, cells := 0, slots := 0, locals := 0 } : Room).slots) := by
  have G0 := G
  obtain ⟨S_L1, E_L1, S_L4, E_L4, S_L3, E_L3, S_L5, E_L5, S_L2, E_L2, S_CS, N_CS⟩ := G
  refine MetFree.of_bodySF (plainFor_of_name pn_1) hisR ?_
  intro p e s m args below meth c s₁ Bd hml0 hP hK
  obtain ⟨rfl, hZ, hh⟩ := hP
  have hx := Bd.exec
  have hby := Bd.bytes
  have hml : c.maxLocals = 2 := hml0
  have hown : s.vm.findClass "java/lang/StringUTF16" = some m.cls := findClass_of_methodNamed Bd.named
  have hnm := (name_of_methodNamed Bd.named Bd.method).1
  have X0 : Stand p l e ({ frames := 0, cells := 0, slots := 0, locals := 0 } : Room) s m #[(.ref a2), (.int (2 : Int32))] below meth c s₁ [] 0 0 := Stand.of_body Bd
  have e0 : s₁.heap = h0 := by rw [← hh, Bd.state]; rfl
  have N0 := Fr.nil n0
  have pre0 : ∀ t, Steps p.tables e below (s₁.setTop (mkF m 0 #[.val (.ref a2), .val (.int (2 : Int32))] [])) t → Steps p.tables e below (s₁.setTop (entryFrame m #[(.ref a2), (.int (2 : Int32))] 2)) t := fun t k => castTop (ef_9_3 m a2 (2 : Int32)) k
  have vc1 := Va
  obtain ⟨cl1, Ar1, qk1, S1, Nn1, Hs1, Gf1⟩ := vc1
  obtain ⟨fs, hr, hrun, hended, hW, hsame⟩ := X0.leave (v := some (.int (((((2 : Int32) - (2 : Int32)).toUInt32 >>> ((31 : Int32) &&& 31).toUInt32).toInt32).toInt8.toInt32))) (fun h => by rw [Bd.returns] at h; cases h)
  refine ⟨_, _, pre0 _ ?_, hrun, hended, _, _, rfl, ?_, ⟨_, rfl⟩, hW, hsame.mono (by decide) (by decide)⟩
  · show Steps p.tables e below (s₁.setTop (mkF m 0 #[.val (.ref a2), .val (.int (2 : Int32))] [])) _
    refine XS.iloadN X0.here hx rfl (hb hby d9_0) rfl ?_
    refine XS.aloadN X0.here hx rfl (hb hby d9_1) rfl rfl ?_
    show Steps p.tables e below (s₁.setTop (mkF m 2 #[.val (.ref a2), .val (.int (2 : Int32))] [(.ref a2), (.int (2 : Int32))])) _
    refine X0.arraylength hx (by rw [e0]; exact Ar1.1) (State.isArrayOf_alike hZ.alike Ar1.2.1) (g := (mkF m 2 #[.val (.ref a2), .val (.int (2 : Int32))] [(.ref a2), (.int (2 : Int32))])) rfl rfl (hb hby d9_2) _ ?_
    rw [len_of S1 Nn1]
    show Steps p.tables e below (s₁.setTop (mkF m 3 #[.val (.ref a2), .val (.int (2 : Int32))] [(.int (2 : Int32)), (.int (2 : Int32))])) _
    refine XS.isub X0.here hx rfl (hb hby d9_3) rfl ?_
    refine XS.bipush X0.here hx rfl (hb hby d9_4) ?_
    show Steps p.tables e below (s₁.setTop (mkF m 6 #[.val (.ref a2), .val (.int (2 : Int32))] [(.int (31 : Int32)), (.int ((2 : Int32) - (2 : Int32)))])) _
    refine XS.iushr X0.here hx rfl (hb hby d9_6) rfl ?_
    show Steps p.tables e below (s₁.setTop (mkF m 7 #[.val (.ref a2), .val (.int (2 : Int32))] [(.int ((((2 : Int32) - (2 : Int32)).toUInt32 >>> ((31 : Int32) &&& 31).toUInt32).toInt32))])) _
    refine XS.i2b X0.here hx rfl (hb hby d9_7) rfl ?_
    show Steps p.tables e below (s₁.setTop (mkF m 8 #[.val (.ref a2), .val (.int (2 : Int32))] [(.int (((((2 : Int32) - (2 : Int32)).toUInt32 >>> ((31 : Int32) &&& 31).toUInt32).toInt32).toInt8.toInt32))])) _
    exact retN X0 hx (t := .byte) Bd.returns (by simp) (hb hby d9_8) hr
  · show own_Q (some (.int (0 : Int32))) h0 n0 _ s₁.heap _
    rw [e0]
    exact ⟨rfl, N0, rfl⟩
theorem d3_0 : decode jdk_42_method_149_code 0 = .ok (.aload_n 0, 1) := by decide +kernel
theorem d3_1 : decode jdk_42_method_149_code 1 = .ok (.invokespecial 1, 3) := by decide +kernel
theorem d3_4 : decode jdk_42_method_149_code 4 = .ok (.iload_n 3, 1) := by decide +kernel
theorem d3_5 : decode jdk_42_method_149_code 5 = .ok (.ifCond .ne 22, 3) := by decide +kernel
theorem d3_27 : decode jdk_42_method_149_code 27 = .ok (.getstatic 38, 3) := by decide +kernel
theorem d3_30 : decode jdk_42_method_149_code 30 = .ok (.ifCond .eq 28, 3) := by decide +kernel
theorem d3_33 : decode jdk_42_method_149_code 33 = .ok (.aload_n 1, 1) := by decide +kernel
theorem d3_34 : decode jdk_42_method_149_code 34 = .ok (.iload_n 2, 1) := by decide +kernel
theorem d3_35 : decode jdk_42_method_149_code 35 = .ok (.iload_n 3, 1) := by decide +kernel
theorem d3_36 : decode jdk_42_method_149_code 36 = .ok (.invokestatic 177, 3) := by decide +kernel
theorem pd_1 : parseMethodDescriptor "([CII)[B" = some ⟨[(.array .char), .int, .int], some (.array .byte)⟩ := by decide +kernel
theorem d3_39 : decode jdk_42_method_149_code 39 = .ok (.astore 5, 2) := by decide +kernel
theorem d3_41 : decode jdk_42_method_149_code 41 = .ok (.aload_n 0, 1) := by decide +kernel
theorem d3_42 : decode jdk_42_method_149_code 42 = .ok (.aload 5, 2) := by decide +kernel
theorem d3_44 : decode jdk_42_method_149_code 44 = .ok (.iload_n 3, 1) := by decide +kernel
theorem d3_45 : decode jdk_42_method_149_code 45 = .ok (.invokestatic 47, 3) := by decide +kernel
theorem pd_2 : parseMethodDescriptor "([BI)B" = some ⟨[(.array .byte), .int], some .byte⟩ := by decide +kernel
theorem d3_48 : decode jdk_42_method_149_code 48 = .ok (.putfield 15, 3) := by decide +kernel
theorem d3_51 : decode jdk_42_method_149_code 51 = .ok (.aload_n 0, 1) := by decide +kernel
theorem d3_52 : decode jdk_42_method_149_code 52 = .ok (.aload 5, 2) := by decide +kernel
theorem d3_54 : decode jdk_42_method_149_code 54 = .ok (.putfield 9, 3) := by decide +kernel
theorem d3_57 : decode jdk_42_method_149_code 57 = .ok (.return_, 1) := by decide +kernel
theorem ef_3_4 (m : MethodId) (x0 : Addr) (x1 : Addr) (x2 : Int32) (x3 : Int32) : entryFrame m #[(.ref x0), (.ref x1), (.int x2), (.int x3), .null] 6 = mkF m 0 #[.val (.ref x0), .val (.ref x1), .val (.int x2), .val (.int x3), .val .null, .unset] [] := by first | (simp [entryFrame, mkF, argsToLocals, Value.category]; done) | rfl
theorem pn_2 : plainName "java/lang/String" = true := by first | (simp [plainName, overriddenIn]; done) | decide +kernel
set_option maxRecDepth 65536 in
set_option maxHeartbeats 40000000 in
theorem r_sv2 (l : Launch) (Z : State) (a0 : Array Value) (hw : ∀ d ∈ tables_1, d.before a0 Z = true) (ws : List Jvm.Cond) (s_L1 s_L4 s_L3 s_L5 s_L2 : Addr) (cs1 : Int32) (h0 : Heap) (n0 : Nat) (O0 : Old Z n0 h0) (G : own_Ctx Z Z.heap s_L1 s_L4 s_L3 s_L5 s_L2 cs1) (a1 a2 : Addr) (k2 : ClassId) (c0_ c1_ : Int32) (Ea : Exa Z h0 a1 "java/lang/String") (ga : n0 ≤ a1) (Fc : Fld Z h0 a1 "java/lang/String" "coder" "B" (.int (0 : Int32))) (Fv : Fld Z h0 a1 "java/lang/String" "value" "[B" .null) (Va : Arv Z h0 a2 k2 .char (2 : Int32) [(.int c0_), (.int c1_)] (.int (0 : Int32))) (hc0_ : ¬ ((255 : Int32) < c0_)) (hc1_ : ¬ ((255 : Int32) < c1_)) (hne : a2 ≠ a1) :
    MetFree l (⟨"java/lang/String", "<init>", "([CIILjava/lang/Void;)V"⟩ : MethodName) (head1 (Jvm.Cond.code (⟨"java/lang/String", "<init>", "([CIILjava/lang/Void;)V"⟩ : MethodName) jdk_42_method_149_code 6 none :: ws) ({ frames := 2, cells := 1, slots := 2, locals := 35 } : Room)) (fun a U => a = #[(.ref a1), (.ref a2), (.int (0 : Int32)), (.int (2 : Int32)), .null] ∧ Z.Warmed39 U.vm ∧ U.heap = h0) (fun _ _ _ _ _ => True) (fun _ U o U' => ∃ v L, o = .returned v ∧ own_Qk (none) [a1] h0 n0 v U'.heap L ∧ FrameEnd U o U' L ({ frames := 2, cells := 1, slots := 2, locals := 35 } : Room).cells ({ frames := 2, cells := 1, slots := 2, locals := 35 } : Room).slots) := by
  have G0 := G
  obtain ⟨S_L1, E_L1, S_L4, E_L4, S_L3, E_L3, S_L5, E_L5, S_L2, E_L2, S_CS, N_CS⟩ := G
  refine MetFree.of_bodySF (plainFor_of_name pn_2) hisR ?_
  intro p e s m args below meth c s₁ Bd hml0 hP hK
  obtain ⟨rfl, hZ, hh⟩ := hP
  have hx := Bd.exec
  have hby := Bd.bytes
  have hml : c.maxLocals = 6 := hml0
  have hown : s.vm.findClass "java/lang/String" = some m.cls := findClass_of_methodNamed Bd.named
  have hnm := (name_of_methodNamed Bd.named Bd.method).1
  have X0 : Stand p l e ({ frames := 2, cells := 1, slots := 2, locals := 35 } : Room) s m #[(.ref a1), (.ref a2), (.int (0 : Int32)), (.int (2 : Int32)), .null] below meth c s₁ [] 0 0 := Stand.of_body Bd
  have e0 : s₁.heap = h0 := by rw [← hh, Bd.state]; rfl
  have N0 := Fr.nil n0
  have pre0 : ∀ t, Steps p.tables e below (s₁.setTop (mkF m 0 #[.val (.ref a1), .val (.ref a2), .val (.int (0 : Int32)), .val (.int (2 : Int32)), .val .null, .unset] [])) t → Steps p.tables e below (s₁.setTop (entryFrame m #[(.ref a1), (.ref a2), (.int (0 : Int32)), (.int (2 : Int32)), .null] 6)) t := fun t k => castTop (ef_3_4 m a1 a2 (0 : Int32) (2 : Int32)) k
  obtain ⟨T1, X1, e1, st1⟩ := initO X0 hx hZ hown (hw _ (List.mem_of_getElem? (i := 16) rfl)) (hw _ (List.mem_of_getElem? (i := 17) rfl)) (hw _ (List.mem_of_getElem? (i := 18) rfl)) e0 (g := (mkF m 1 #[.val (.ref a1), .val (.ref a2), .val (.int (0 : Int32)), .val (.int (2 : Int32)), .val .null, .unset] [(.ref a1)])) rfl (by rw [hml]; rfl) rfl (hb hby d3_1) (by decide) (W := 0) (by show 2 * 0 + _ ≤ _; exact Nat.le_of_eq rfl) (by decide)
  obtain ⟨T2, X2, e2, st2⟩ := getS2 X1 hx hZ hown (host := "") (Or.inl (hw _ (List.mem_of_getElem? (i := 48) rfl))) Via.refl e1 (S_CS.ext O0.2) (g := (mkF m 27 #[.val (.ref a1), .val (.ref a2), .val (.int (0 : Int32)), .val (.int (2 : Int32)), .val .null, .unset] [])) rfl (hb hby d3_27)
  obtain ⟨_, _, ⟨T3, L3, k3, n3⟩, -, X3, ⟨Lc3, hQ3, l3, y3, z3⟩, st3⟩ := Jvm.LawKit.callS X2 hx (y := (⟨"java/lang/StringUTF16", "compress", "([CII)[B"⟩ : MethodName)) hown (mvT hZ (hw _ (List.mem_of_getElem? (i := 49) rfl))) (mvT hZ (hw _ (List.mem_of_getElem? (i := 50) rfl))) (mvT hZ (hw _ (List.mem_of_getElem? (i := 51) rfl))) (mvT hZ (hw _ (List.mem_of_getElem? (i := 52) rfl))) (by decide) (backOf (W := 0) (r_cm2 l Z a0 hw [] s_L1 s_L4 s_L3 s_L5 s_L2 cs1 h0 n0 O0 G0 a2 k2 c0_ c1_ Va hc0_ hc1_) hZ (hw _ (List.mem_of_getElem? (i := 52) rfl)) (hw _ (List.mem_of_getElem? (i := 51) rfl)) (by decide) (by decide)) (g := (mkF m 36 #[.val (.ref a1), .val (.ref a2), .val (.int (0 : Int32)), .val (.int (2 : Int32)), .val .null, .unset] [(.int (2 : Int32)), (.int (0 : Int32)), (.ref a2)])) rfl (by rw [hml]; rfl) (argsL := [(.ref a2), (.int (0 : Int32)), (.int (2 : Int32))]) (rest := []) (lenOf pd_1 rfl) rfl (by show 2 * 0 + _ ≤ _; exact Nat.le_of_eq rfl) (hb hby d3_36) (fun _ _ => ⟨rfl, e2, (by decide : 0 + 1 ≤ _), (by decide : 0 + 2 ≤ _)⟩)
  dsimp only [Pt.U, Pt.locs, Pt.cells, Pt.slots] at X3 l3 y3 z3 st3 hQ3
  subst l3 y3 z3
  obtain ⟨t3, kt3, vs3, rfl, N3q, Kq3, gt3, Vt3⟩ := hQ3
  have N3 := Fr.app N0 N3q
  have ne_a1_t3 : a1 ≠ t3 := Nat.ne_of_lt (Nat.lt_of_lt_of_le Ea.lt gt3)
  have ne_a2_t3 : a2 ≠ t3 := Nat.ne_of_lt (Nat.lt_of_lt_of_le Va.lt gt3)
  have ne_s_L1_t3 : s_L1 ≠ t3 := Nat.ne_of_lt (Nat.lt_of_lt_of_le (E_L1.ext O0.2).lt gt3)
  have ne_s_L4_t3 : s_L4 ≠ t3 := Nat.ne_of_lt (Nat.lt_of_lt_of_le (E_L4.ext O0.2).lt gt3)
  have ne_s_L3_t3 : s_L3 ≠ t3 := Nat.ne_of_lt (Nat.lt_of_lt_of_le (E_L3.ext O0.2).lt gt3)
  have ne_s_L5_t3 : s_L5 ≠ t3 := Nat.ne_of_lt (Nat.lt_of_lt_of_le (E_L5.ext O0.2).lt gt3)
  have ne_s_L2_t3 : s_L2 ≠ t3 := Nat.ne_of_lt (Nat.lt_of_lt_of_le (E_L2.ext O0.2).lt gt3)
  have g_t3 : n0 ≤ t3 := Nat.le_trans (O0.1 ▸ O0.2.1) gt3
  have sz_t3 : h0.size ≤ t3 := Nat.le_trans (Keep.refl h0 [a1]).1 gt3
  have f4 := Ea.keep Kq3
  have f5 := Fc.keep Kq3 (fun q => nomatch q)
  have f6 := Fv.keep Kq3 (fun q => nomatch q)
  have f7 := Va.keep Kq3 (fun q => nomatch q)
  have O3 := O0.keep Kq3 all0
  have K3 : Keep h0 T3.heap [a1] := (Keep.refl h0 [a1]).trans Kq3 all0
  obtain ⟨_, _, ⟨T8, L8, k8, n8⟩, -, X8, ⟨Lc8, hQ8, l8, y8, z8⟩, st8⟩ := Jvm.LawKit.callS X3 hx (y := (⟨"java/lang/StringUTF16", "coderFromArrayLen", "([BI)B"⟩ : MethodName)) hown (mvT hZ (hw _ (List.mem_of_getElem? (i := 56) rfl))) (mvT hZ (hw _ (List.mem_of_getElem? (i := 57) rfl))) (mvT hZ (hw _ (List.mem_of_getElem? (i := 51) rfl))) (mvT hZ (hw _ (List.mem_of_getElem? (i := 58) rfl))) (by decide) (backOf (W := 1) (r_cd2 l Z a0 hw [] s_L1 s_L4 s_L3 s_L5 s_L2 cs1 T3.heap n0 O3 G0 t3 kt3 vs3 Vt3) hZ (hw _ (List.mem_of_getElem? (i := 58) rfl)) (hw _ (List.mem_of_getElem? (i := 51) rfl)) (by decide) (by decide)) (g := (mkF m 45 #[.val (.ref a1), .val (.ref a2), .val (.int (0 : Int32)), .val (.int (2 : Int32)), .val .null, .val (.ref t3)] [(.int (2 : Int32)), (.ref t3), (.ref a1)])) rfl (by rw [hml]; rfl) (argsL := [(.ref t3), (.int (2 : Int32))]) (rest := [(.ref a1)]) (lenOf pd_2 rfl) rfl (by show 2 * 0 + _ ≤ _; exact Nat.le_of_eq rfl) (hb hby d3_45) (fun _ _ => ⟨rfl, rfl, (by decide : 1 + 0 ≤ _), (by decide : 2 + 0 ≤ _)⟩)
  dsimp only [Pt.U, Pt.locs, Pt.cells, Pt.slots] at X8 l8 y8 z8 st8 hQ8
  subst l8 y8 z8
  obtain ⟨rfl, N8q, e8⟩ := hQ8
  have N8 := Fr.app N3 N8q
  obtain ⟨T9, h9, X9, e9, W9, st9⟩ := putFN X8 hx hZ hown (hw _ (List.mem_of_getElem? (i := 26) rfl)) Via.refl e8 f5 f4 (Or.inr ⟨(hw _ (List.mem_of_getElem? (i := 22) rfl)), rfl, hnm⟩) (hw _ (List.mem_of_getElem? (i := 7) rfl)) (ty := .byte) (v' := (.int ((0 : Int32).toInt8.toInt32))) (by decide) rfl (fits_nar_byte _) (g := (mkF m 48 #[.val (.ref a1), .val (.ref a2), .val (.int (0 : Int32)), .val (.int (2 : Int32)), .val .null, .val (.ref t3)] [(.int (0 : Int32)), (.ref a1)])) rfl rfl (hb hby d3_48)
  have f10 := f4.wr W9
  have f11 := f6.other W9 (Or.inr (slot_ne (Or.inr (hw _ (List.mem_of_getElem? (i := 21) rfl))) (Or.inr (hw _ (List.mem_of_getElem? (i := 22) rfl))) (by decide) (t := (.array .byte)) (t' := .byte) (by decide) (by decide)))
  have f12 := f7.other W9 hne
  have f13 := Vt3.other W9 (Ne.symm ne_a1_t3)
  have O9 := O3.wr W9 ga
  have K9 : Keep h0 h9 [a1] := K3.wr W9 (Or.inl (List.mem_of_getElem? (i := 0) rfl))
  have N9 := Fr.snoc X9 N8 ga
  have f14 := f5.same W9
  obtain ⟨T15, h15, X15, e15, W15, st15⟩ := putF X9 hx hZ hown (host := "") (Or.inl (hw _ (List.mem_of_getElem? (i := 25) rfl))) Via.refl e9 f11 f10 (Or.inr ⟨(hw _ (List.mem_of_getElem? (i := 21) rfl)), rfl, hnm⟩) (hw _ (List.mem_of_getElem? (i := 7) rfl)) (ty := (.array .byte)) (by decide) rfl rfl (g := (mkF m 54 #[.val (.ref a1), .val (.ref a2), .val (.int (0 : Int32)), .val (.int (2 : Int32)), .val .null, .val (.ref t3)] [(.ref t3), (.ref a1)])) rfl rfl (hb hby d3_54)
  have f16 := f10.wr W15
  have f17 := f14.other W15 (Or.inr (slot_ne (Or.inr (hw _ (List.mem_of_getElem? (i := 22) rfl))) (Or.inr (hw _ (List.mem_of_getElem? (i := 21) rfl))) (by decide) (t := .byte) (t' := (.array .byte)) (by decide) (by decide)))
  have f18 := f12.other W15 hne
  have f19 := f13.other W15 (Ne.symm ne_a1_t3)
  have O15 := O9.wr W15 ga
  have K15 : Keep h0 h15 [a1] := K9.wr W15 (Or.inl (List.mem_of_getElem? (i := 0) rfl))
  have N15 := Fr.snoc X15 N9 ga
  have f20 := f11.same W15
  obtain ⟨fs, hr, hrun, hended, hW, hsame⟩ := X15.leave (v := none) (fun _ => rfl)
  refine ⟨_, _, pre0 _ ?_, hrun, hended, _, _, rfl, ?_, ⟨_, rfl⟩, hW, hsame.mono (by decide) (by decide)⟩
  · show Steps p.tables e below (s₁.setTop (mkF m 0 #[.val (.ref a1), .val (.ref a2), .val (.int (0 : Int32)), .val (.int (2 : Int32)), .val .null, .unset] [])) _
    refine XS.aloadN X0.here hx rfl (hb hby d3_0) rfl rfl ?_
    show Steps p.tables e below (s₁.setTop (mkF m 1 #[.val (.ref a1), .val (.ref a2), .val (.int (0 : Int32)), .val (.int (2 : Int32)), .val .null, .unset] [(.ref a1)])) _
    refine st1 _ ?_
    show Steps p.tables e below (T1.setTop (mkF m 4 #[.val (.ref a1), .val (.ref a2), .val (.int (0 : Int32)), .val (.int (2 : Int32)), .val .null, .unset] [])) _
    refine XS.iloadN X1.here hx rfl (hb hby d3_4) rfl ?_
    refine XS.ifYes X1.here hx rfl (pc0 := 5) (pc' := 27) rfl (hb hby d3_5) rfl ((if0 _ _).trans (feq (by decide : ¬ ((2 : Int32) = (0 : Int32)))).2) (by decide) (by decide) ?_
    show Steps p.tables e below (T1.setTop (mkF m 27 #[.val (.ref a1), .val (.ref a2), .val (.int (0 : Int32)), .val (.int (2 : Int32)), .val .null, .unset] [])) _
    refine st2 _ ?_
    show Steps p.tables e below (T2.setTop (mkF m 30 #[.val (.ref a1), .val (.ref a2), .val (.int (0 : Int32)), .val (.int (2 : Int32)), .val .null, .unset] [(.int cs1)])) _
    refine XS.ifNo X2.here hx rfl (hb hby d3_30) rfl ((if0 _ _).trans (feq (N_CS : ¬ (cs1 = (0 : Int32)))).1) ?_
    refine XS.aloadN X2.here hx rfl (hb hby d3_33) rfl rfl ?_
    refine XS.iloadN X2.here hx rfl (hb hby d3_34) rfl ?_
    refine XS.iloadN X2.here hx rfl (hb hby d3_35) rfl ?_
    show Steps p.tables e below (T2.setTop (mkF m 36 #[.val (.ref a1), .val (.ref a2), .val (.int (0 : Int32)), .val (.int (2 : Int32)), .val .null, .unset] [(.int (2 : Int32)), (.int (0 : Int32)), (.ref a2)])) _
    refine st3 _ ?_
    show Steps p.tables e below (T3.setTop (mkF m 39 #[.val (.ref a1), .val (.ref a2), .val (.int (0 : Int32)), .val (.int (2 : Int32)), .val .null, .unset] [(.ref t3)])) _
    refine XS.astore X3.here hx rfl (hb hby d3_39) rfl rfl (l' := #[.val (.ref a1), .val (.ref a2), .val (.int (0 : Int32)), .val (.int (2 : Int32)), .val .null, .val (.ref t3)]) rfl ?_
    refine XS.aloadN X3.here hx rfl (hb hby d3_41) rfl rfl ?_
    refine XS.aload X3.here hx rfl (hb hby d3_42) rfl rfl ?_
    refine XS.iloadN X3.here hx rfl (hb hby d3_44) rfl ?_
    show Steps p.tables e below (T3.setTop (mkF m 45 #[.val (.ref a1), .val (.ref a2), .val (.int (0 : Int32)), .val (.int (2 : Int32)), .val .null, .val (.ref t3)] [(.int (2 : Int32)), (.ref t3), (.ref a1)])) _
    refine st8 _ ?_
    show Steps p.tables e below (T8.setTop (mkF m 48 #[.val (.ref a1), .val (.ref a2), .val (.int (0 : Int32)), .val (.int (2 : Int32)), .val .null, .val (.ref t3)] [(.int (0 : Int32)), (.ref a1)])) _
    refine st9 _ ?_
    show Steps p.tables e below (T9.setTop (mkF m 51 #[.val (.ref a1), .val (.ref a2), .val (.int (0 : Int32)), .val (.int (2 : Int32)), .val .null, .val (.ref t3)] [])) _
    refine XS.aloadN X9.here hx rfl (hb hby d3_51) rfl rfl ?_
    refine XS.aload X9.here hx rfl (hb hby d3_52) rfl rfl ?_
    show Steps p.tables e below (T9.setTop (mkF m 54 #[.val (.ref a1), .val (.ref a2), .val (.int (0 : Int32)), .val (.int (2 : Int32)), .val .null, .val (.ref t3)] [(.ref t3), (.ref a1)])) _
    refine st15 _ ?_
    show Steps p.tables e below (T15.setTop (mkF m 57 #[.val (.ref a1), .val (.ref a2), .val (.int (0 : Int32)), .val (.int (2 : Int32)), .val .null, .val (.ref t3)] [])) _
    exact X15.returnOut hx Bd.returns (hb hby d3_57) hr
  · show own_Qk (none) [a1] h0 n0 _ T15.heap _
    rw [e15]
    exact ⟨rfl, N15, K15⟩
theorem d2_0 : decode jdk_42_method_3_code 0 = .ok (.aload_n 0, 1) := by decide +kernel
theorem d2_1 : decode jdk_42_method_3_code 1 = .ok (.aload_n 1, 1) := by decide +kernel
theorem d2_2 : decode jdk_42_method_3_code 2 = .ok (.iconst 0, 1) := by decide +kernel
theorem d2_3 : decode jdk_42_method_3_code 3 = .ok (.aload_n 1, 1) := by decide +kernel
theorem d2_4 : decode jdk_42_method_3_code 4 = .ok (.arraylength, 1) := by decide +kernel
theorem d2_5 : decode jdk_42_method_3_code 5 = .ok (.aconst_null, 1) := by decide +kernel
theorem d2_6 : decode jdk_42_method_3_code 6 = .ok (.invokespecial 27, 3) := by decide +kernel
theorem pd_3 : parseMethodDescriptor "([CIILjava/lang/Void;)V" = some ⟨[(.array .char), .int, .int, (.object "java/lang/Void")], none⟩ := by decide +kernel
theorem d2_9 : decode jdk_42_method_3_code 9 = .ok (.return_, 1) := by decide +kernel
theorem ef_2_5 (m : MethodId) (x0 : Addr) (x1 : Addr) : entryFrame m #[(.ref x0), (.ref x1)] 2 = mkF m 0 #[.val (.ref x0), .val (.ref x1)] [] := by first | (simp [entryFrame, mkF, argsToLocals, Value.category]; done) | rfl
set_option maxRecDepth 65536 in
set_option maxHeartbeats 40000000 in
theorem r_s2 (l : Launch) (Z : State) (a0 : Array Value) (hw : ∀ d ∈ tables_1, d.before a0 Z = true) (ws : List Jvm.Cond) (s_L1 s_L4 s_L3 s_L5 s_L2 : Addr) (cs1 : Int32) (h0 : Heap) (n0 : Nat) (O0 : Old Z n0 h0) (G : own_Ctx Z Z.heap s_L1 s_L4 s_L3 s_L5 s_L2 cs1) (a1 a2 : Addr) (k2 : ClassId) (c0_ c1_ : Int32) (Ea : Exa Z h0 a1 "java/lang/String") (ga : n0 ≤ a1) (Fc : Fld Z h0 a1 "java/lang/String" "coder" "B" (.int (0 : Int32))) (Fv : Fld Z h0 a1 "java/lang/String" "value" "[B" .null) (Va : Arv Z h0 a2 k2 .char (2 : Int32) [(.int c0_), (.int c1_)] (.int (0 : Int32))) (hc0_ : ¬ ((255 : Int32) < c0_)) (hc1_ : ¬ ((255 : Int32) < c1_)) (hne : a2 ≠ a1) :
    MetFree l (⟨"java/lang/String", "<init>", "([C)V"⟩ : MethodName) (head1 (Jvm.Cond.code (⟨"java/lang/String", "<init>", "([C)V"⟩ : MethodName) jdk_42_method_3_code 2 none :: ws) ({ frames := 3, cells := 1, slots := 2, locals := 52 } : Room)) (fun a U => a = #[(.ref a1), (.ref a2)] ∧ Z.Warmed39 U.vm ∧ U.heap = h0) (fun _ _ _ _ _ => True) (fun _ U o U' => ∃ v L, o = .returned v ∧ own_Qk (none) [a1] h0 n0 v U'.heap L ∧ FrameEnd U o U' L ({ frames := 3, cells := 1, slots := 2, locals := 52 } : Room).cells ({ frames := 3, cells := 1, slots := 2, locals := 52 } : Room).slots) := by
  have G0 := G
  obtain ⟨S_L1, E_L1, S_L4, E_L4, S_L3, E_L3, S_L5, E_L5, S_L2, E_L2, S_CS, N_CS⟩ := G
  refine MetFree.of_bodySF (plainFor_of_name pn_2) hisR ?_
  intro p e s m args below meth c s₁ Bd hml0 hP hK
  obtain ⟨rfl, hZ, hh⟩ := hP
  have hx := Bd.exec
  have hby := Bd.bytes
  have hml : c.maxLocals = 2 := hml0
  have hown : s.vm.findClass "java/lang/String" = some m.cls := findClass_of_methodNamed Bd.named
  have hnm := (name_of_methodNamed Bd.named Bd.method).1
  have X0 : Stand p l e ({ frames := 3, cells := 1, slots := 2, locals := 52 } : Room) s m #[(.ref a1), (.ref a2)] below meth c s₁ [] 0 0 := Stand.of_body Bd
  have e0 : s₁.heap = h0 := by rw [← hh, Bd.state]; rfl
  have N0 := Fr.nil n0
  have pre0 : ∀ t, Steps p.tables e below (s₁.setTop (mkF m 0 #[.val (.ref a1), .val (.ref a2)] [])) t → Steps p.tables e below (s₁.setTop (entryFrame m #[(.ref a1), (.ref a2)] 2)) t := fun t k => castTop (ef_2_5 m a1 a2) k
  have vc1 := Va
  obtain ⟨cl1, Ar1, qk1, S1, Nn1, Hs1, Gf1⟩ := vc1
  obtain ⟨_, _, ⟨T2, L2, k2, n2⟩, -, X2, ⟨Lc2, hQ2, l2, y2, z2⟩, st2⟩ := X0.specialBack hx (y := (⟨"java/lang/String", "<init>", "([CIILjava/lang/Void;)V"⟩ : MethodName)) rfl hown (mvT hZ (hw _ (List.mem_of_getElem? (i := 12) rfl))) (mvT hZ (hw _ (List.mem_of_getElem? (i := 13) rfl))) (mvT hZ (hw _ (List.mem_of_getElem? (i := 15) rfl))) (by decide) (backOf (W := 0) (r_sv2 l Z a0 hw [] s_L1 s_L4 s_L3 s_L5 s_L2 cs1 h0 n0 O0 G0 a1 a2 k2 c0_ c1_ Ea ga Fc Fv Va hc0_ hc1_ hne) hZ (hw _ (List.mem_of_getElem? (i := 15) rfl)) (hw _ (List.mem_of_getElem? (i := 8) rfl)) (by decide) (by decide)) (g := (mkF m 6 #[.val (.ref a1), .val (.ref a2)] [.null, (.int (2 : Int32)), (.int (0 : Int32)), (.ref a2), (.ref a1)])) rfl (by rw [hml]; rfl) (Steps.refl _) (a := a1) (argsL := [(.ref a2), (.int (0 : Int32)), (.int (2 : Int32)), .null]) (rest := []) (lenOf pd_3 rfl) rfl (by show 2 * 0 + _ ≤ _; exact Nat.le_of_eq rfl) (hb hby d2_6) (fun _ _ => ⟨rfl, e0, (by decide : 0 + 1 ≤ _), (by decide : 0 + 2 ≤ _)⟩)
  dsimp only [Pt.U, Pt.locs, Pt.cells, Pt.slots] at X2 l2 y2 z2 st2 hQ2
  subst l2 y2 z2
  obtain ⟨rfl, N2q, Kq2⟩ := hQ2
  have N2 := Fr.app N0 N2q
  have f3 := Ea.keep Kq2
  have f4 := Va.keep Kq2 (fun q => (List.mem_cons.mp q).elim hne (fun q => nomatch q))
  have O2 := O0.keep Kq2 (allS ga all0)
  have K2 : Keep h0 T2.heap [a1] := (Keep.refl h0 [a1]).trans Kq2 (allS (Or.inl (List.mem_of_getElem? (i := 0) rfl)) all0)
  obtain ⟨fs, hr, hrun, hended, hW, hsame⟩ := X2.leave (v := none) (fun _ => rfl)
  refine ⟨_, _, pre0 _ ?_, hrun, hended, _, _, rfl, ?_, ⟨_, rfl⟩, hW, hsame.mono (by decide) (by decide)⟩
  · show Steps p.tables e below (s₁.setTop (mkF m 0 #[.val (.ref a1), .val (.ref a2)] [])) _
    refine XS.aloadN X0.here hx rfl (hb hby d2_0) rfl rfl ?_
    refine XS.aloadN X0.here hx rfl (hb hby d2_1) rfl rfl ?_
    refine XS.iconst X0.here hx rfl (hb hby d2_2) ?_
    refine XS.aloadN X0.here hx rfl (hb hby d2_3) rfl rfl ?_
    show Steps p.tables e below (s₁.setTop (mkF m 4 #[.val (.ref a1), .val (.ref a2)] [(.ref a2), (.int (0 : Int32)), (.ref a2), (.ref a1)])) _
    refine X0.arraylength hx (by rw [e0]; exact Ar1.1) (State.isArrayOf_alike hZ.alike Ar1.2.1) (g := (mkF m 4 #[.val (.ref a1), .val (.ref a2)] [(.ref a2), (.int (0 : Int32)), (.ref a2), (.ref a1)])) rfl rfl (hb hby d2_4) _ ?_
    rw [len_of S1 Nn1]
    show Steps p.tables e below (s₁.setTop (mkF m 5 #[.val (.ref a1), .val (.ref a2)] [(.int (2 : Int32)), (.int (0 : Int32)), (.ref a2), (.ref a1)])) _
    refine XS.aconstNull X0.here hx rfl (hb hby d2_5) ?_
    show Steps p.tables e below (s₁.setTop (mkF m 6 #[.val (.ref a1), .val (.ref a2)] [.null, (.int (2 : Int32)), (.int (0 : Int32)), (.ref a2), (.ref a1)])) _
    refine st2.trans ?_
    show Steps p.tables e below (T2.setTop (mkF m 9 #[.val (.ref a1), .val (.ref a2)] [])) _
    exact X2.returnOut hx Bd.returns (hb hby d2_9) hr
  · show own_Qk (none) [a1] h0 n0 _ T2.heap _
    exact ⟨rfl, N2, K2⟩
theorem d3_8 : decode jdk_42_method_149_code 8 = .ok (.aload_n 0, 1) := by decide +kernel
theorem d3_9 : decode jdk_42_method_149_code 9 = .ok (.ldc 7, 2) := by decide +kernel
theorem d3_11 : decode jdk_42_method_149_code 11 = .ok (.getfield 9, 3) := by decide +kernel
theorem d3_14 : decode jdk_42_method_149_code 14 = .ok (.putfield 9, 3) := by decide +kernel
theorem d3_17 : decode jdk_42_method_149_code 17 = .ok (.aload_n 0, 1) := by decide +kernel
theorem d3_18 : decode jdk_42_method_149_code 18 = .ok (.ldc 7, 2) := by decide +kernel
theorem d3_20 : decode jdk_42_method_149_code 20 = .ok (.getfield 15, 3) := by decide +kernel
theorem d3_23 : decode jdk_42_method_149_code 23 = .ok (.putfield 15, 3) := by decide +kernel
theorem d3_26 : decode jdk_42_method_149_code 26 = .ok (.return_, 1) := by decide +kernel
set_option maxRecDepth 65536 in
set_option maxHeartbeats 40000000 in
theorem r_sv0 (l : Launch) (Z : State) (a0 : Array Value) (hw : ∀ d ∈ tables_1, d.before a0 Z = true) (ws : List Jvm.Cond) (s_L1 s_L4 s_L3 s_L5 s_L2 : Addr) (cs1 : Int32) (h0 : Heap) (n0 : Nat) (O0 : Old Z n0 h0) (G : own_Ctx Z Z.heap s_L1 s_L4 s_L3 s_L5 s_L2 cs1) (hEL : EW Z a0 own_EL) (wS : ∀ a ∈ Bundle.stringAtoms, a.before a0 Z = true) (a1 a2 : Addr) (Ea : Exa Z h0 a1 "java/lang/String") (ga : n0 ≤ a1) (Fc : Fld Z h0 a1 "java/lang/String" "coder" "B" (.int (0 : Int32))) (Fv : Fld Z h0 a1 "java/lang/String" "value" "[B" .null) :
    MetFree l (⟨"java/lang/String", "<init>", "([CIILjava/lang/Void;)V"⟩ : MethodName) (head1 (Jvm.Cond.code (⟨"java/lang/String", "<init>", "([CIILjava/lang/Void;)V"⟩ : MethodName) jdk_42_method_149_code 6 none :: ws) ({ frames := 1, cells := 2, slots := 4, locals := 12 } : Room)) (fun a U => a = #[(.ref a1), (.ref a2), (.int (0 : Int32)), (.int (0 : Int32)), .null] ∧ Z.Warmed39 U.vm ∧ U.heap = h0 ∧ CHv Z own_EL U.vm h0) (fun _ _ _ _ _ => True) (fun _ U o U' => ∃ v L, o = .returned v ∧ own_Qk (none) [a1] h0 n0 v U'.heap L ∧ CHr Z own_EL U.vm U.heap U'.vm U'.heap ∧ ReturnedEndW U o U' L ({ frames := 1, cells := 2, slots := 4, locals := 12 } : Room).cells ({ frames := 1, cells := 2, slots := 4, locals := 12 } : Room).slots) := by
  have G0 := G
  obtain ⟨S_L1, E_L1, S_L4, E_L4, S_L3, E_L3, S_L5, E_L5, S_L2, E_L2, S_CS, N_CS⟩ := G
  refine MetFree.of_bodySF (plainFor_of_name pn_2) hisR ?_
  intro p e s m args below meth c s₁ Bd hml0 hP hK
  obtain ⟨rfl, hZ, hh, hC⟩ := hP
  have hx := Bd.exec
  have hby := Bd.bytes
  have hml : c.maxLocals = 6 := hml0
  have hown : s.vm.findClass "java/lang/String" = some m.cls := findClass_of_methodNamed Bd.named
  have hnm := (name_of_methodNamed Bd.named Bd.method).1
  have X0 : Stand p l e ({ frames := 1, cells := 2, slots := 4, locals := 12 } : Room) (s.setVm s.vm) m #[(.ref a1), (.ref a2), (.int (0 : Int32)), (.int (0 : Int32)), .null] below meth c s₁ [] 0 0 := Stand.of_body Bd
  have e0 : s₁.heap = h0 := by rw [← hh, Bd.state]; rfl
  have N0 := Fr.nil n0
  have hS0 : s.Since s.vm h0.size := State.WarmedH.since (State.WarmedH.refl s) _
  have hk0 : h0.size ≤ h0.size := Nat.le_refl _
  have pre0 : ∀ t, Steps p.tables e below (s₁.setTop (mkF m 0 #[.val (.ref a1), .val (.ref a2), .val (.int (0 : Int32)), .val (.int (0 : Int32)), .val .null, .unset] [])) t → Steps p.tables e below (s₁.setTop (entryFrame m #[(.ref a1), (.ref a2), (.int (0 : Int32)), (.int (0 : Int32)), .null] 6)) t := fun t k => castTop (ef_3_4 m a1 a2 (0 : Int32) (0 : Int32)) k
  obtain ⟨T1, X1, e1, st1⟩ := initO X0 hx hZ hown (hw _ (List.mem_of_getElem? (i := 16) rfl)) (hw _ (List.mem_of_getElem? (i := 17) rfl)) (hw _ (List.mem_of_getElem? (i := 18) rfl)) e0 (g := (mkF m 1 #[.val (.ref a1), .val (.ref a2), .val (.int (0 : Int32)), .val (.int (0 : Int32)), .val .null, .unset] [(.ref a1)])) rfl (by rw [hml]; rfl) rfl (hb hby d3_1) (by decide) (W := 0) (by show 2 * 0 + _ ≤ _; exact Nat.le_of_eq rfl) (by decide)
  have sf2 : Safe Z own_EL s.vm h0 a1 := own_safeS hZ.alike Ea Fv
  obtain ⟨la3, T3, h3, k3, lb3, kk3, X3, e3, E3, S3, hk3, hZ3, hown3, A3, Fc3, Fv3, V3, -, -, R3q, L3, ne3, st3⟩ := ldcCH (s := s) (vm0 := s.vm) (EL := own_EL) X1 hx hZ hown (hw _ (List.mem_of_getElem? (i := 19) rfl)) wS e1 hS0 hk0 hEL (List.mem_of_getElem? (i := 0) rfl) hC (vs := []) (z := (0 : Int32)) ⟨fun c h => by simp at h, rfl⟩ (by decide) rfl (g := (mkF m 9 #[.val (.ref a1), .val (.ref a2), .val (.int (0 : Int32)), .val (.int (0 : Int32)), .val .null, .unset] [(.ref a1)])) rfl (hb hby d3_9) (n := 0) (by decide) (by decide) (by decide) (by decide)
  have f4 := Ea.ext E3
  have f5 := Fc.ext E3
  have f6 := Fv.ext E3
  have O3 := O0.ext E3
  have K3 : Keep h0 h3 [a1] := (Keep.refl h0 [a1]).ext E3
  have sf7 := R3q.safe Ea.lt sf2
  have R3 : CHr Z own_EL s.vm h0 T3.vm h3 := (CHr.refl hC).trans R3q
  have C3 := R3q.1
  obtain ⟨T8, X8, e8, st8⟩ := getF X3 hx hZ3 hown3 (host := "") (Or.inl (hw _ (List.mem_of_getElem? (i := 25) rfl))) Via.refl e3 Fv3 (g := (mkF m 11 #[.val (.ref a1), .val (.ref a2), .val (.int (0 : Int32)), .val (.int (0 : Int32)), .val .null, .unset] [(.ref la3), (.ref a1)])) rfl rfl (hb hby d3_11)
  obtain ⟨T9, h9, X9, e9, W9, st9⟩ := putF X8 hx hZ3 hown3 (host := "") (Or.inl (hw _ (List.mem_of_getElem? (i := 25) rfl))) Via.refl e8 f6 f4 (Or.inr ⟨(hw _ (List.mem_of_getElem? (i := 21) rfl)), rfl, hnm⟩) (hw _ (List.mem_of_getElem? (i := 7) rfl)) (ty := (.array .byte)) (by decide) rfl rfl (g := (mkF m 14 #[.val (.ref a1), .val (.ref a2), .val (.int (0 : Int32)), .val (.int (0 : Int32)), .val .null, .unset] [(.ref lb3), (.ref a1)])) rfl rfl (hb hby d3_14)
  have f10 := f4.wr W9
  have f11 := f5.other W9 (Or.inr (slot_ne (Or.inr (hw _ (List.mem_of_getElem? (i := 22) rfl))) (Or.inr (hw _ (List.mem_of_getElem? (i := 21) rfl))) (by decide) (t := .byte) (t' := (.array .byte)) (by decide) (by decide)))
  have f12 := A3.wr W9
  have f13 := Fc3.other W9 (Or.inl (Ne.symm (ne3 a1 sf7).1))
  have f14 := Fv3.other W9 (Or.inl (Ne.symm (ne3 a1 sf7).1))
  have f15 := V3.other W9 (Ne.symm (ne3 a1 sf7).2)
  have O9 := O3.wr W9 ga
  have K9 : Keep h0 h9 [a1] := K3.wr W9 (Or.inl (List.mem_of_getElem? (i := 0) rfl))
  have N9 := Fr.snoc X9 N0 ga
  have sf16 := Safe.wr W9 sf7 C3 sf7
  have C9 : CHv Z own_EL T3.vm h9 := C3.wr W9 sf7
  have R9 : CHr Z own_EL s.vm h0 T3.vm h9 := R3.trans (CHr.wr W9 sf7 C3)
  have hk9 := Nat.le_trans hk3 (Keep.of_wr W9).1
  have f17 := f6.same W9
  obtain ⟨T18, X18, e18, st18⟩ := getF X9 hx hZ3 hown3 (host := "") (Or.inl (hw _ (List.mem_of_getElem? (i := 26) rfl))) Via.refl e9 f13 (g := (mkF m 20 #[.val (.ref a1), .val (.ref a2), .val (.int (0 : Int32)), .val (.int (0 : Int32)), .val .null, .unset] [(.ref la3), (.ref a1)])) rfl rfl (hb hby d3_20)
  obtain ⟨T19, h19, X19, e19, W19, st19⟩ := putFN X18 hx hZ3 hown3 (hw _ (List.mem_of_getElem? (i := 26) rfl)) Via.refl e18 f11 f10 (Or.inr ⟨(hw _ (List.mem_of_getElem? (i := 22) rfl)), rfl, hnm⟩) (hw _ (List.mem_of_getElem? (i := 7) rfl)) (ty := .byte) (v' := (.int ((0 : Int32).toInt8.toInt32))) (by decide) rfl (fits_nar_byte _) (g := (mkF m 23 #[.val (.ref a1), .val (.ref a2), .val (.int (0 : Int32)), .val (.int (0 : Int32)), .val .null, .unset] [(.int (0 : Int32)), (.ref a1)])) rfl rfl (hb hby d3_23)
  have f20 := f10.wr W19
  have f21 := f17.other W19 (Or.inr (slot_ne (Or.inr (hw _ (List.mem_of_getElem? (i := 21) rfl))) (Or.inr (hw _ (List.mem_of_getElem? (i := 22) rfl))) (by decide) (t := (.array .byte)) (t' := .byte) (by decide) (by decide)))
  have f22 := f12.wr W19
  have f23 := f13.other W19 (Or.inl (Ne.symm (ne3 a1 sf7).1))
  have f24 := f14.other W19 (Or.inl (Ne.symm (ne3 a1 sf7).1))
  have f25 := f15.other W19 (Ne.symm (ne3 a1 sf7).2)
  have O19 := O9.wr W19 ga
  have K19 : Keep h0 h19 [a1] := K9.wr W19 (Or.inl (List.mem_of_getElem? (i := 0) rfl))
  have N19 := Fr.snoc X19 N9 ga
  have sf26 := Safe.wr W19 sf16 C9 sf16
  have C19 : CHv Z own_EL T3.vm h19 := C9.wr W19 sf16
  have R19 : CHr Z own_EL s.vm h0 T3.vm h19 := R9.trans (CHr.wr W19 sf16 C9)
  have hk19 := Nat.le_trans hk9 (Keep.of_wr W19).1
  have f27 := f11.same W19
  obtain ⟨fs, hr, hrun, hended, hRW⟩ := X19.leaveW S3 (by rw [e19]; exact hk19) (v := none) (fun _ => rfl)
  refine ⟨_, _, pre0 _ ?_, hrun, hended, _, _, rfl, ?_, ?_, hRW.1, hRW.2.1, hRW.2.2.1, hRW.2.2.2.mono (by decide) (by decide)⟩
  · show Steps p.tables e below (s₁.setTop (mkF m 0 #[.val (.ref a1), .val (.ref a2), .val (.int (0 : Int32)), .val (.int (0 : Int32)), .val .null, .unset] [])) _
    refine XS.aloadN X0.here hx rfl (hb hby d3_0) rfl rfl ?_
    show Steps p.tables e below (s₁.setTop (mkF m 1 #[.val (.ref a1), .val (.ref a2), .val (.int (0 : Int32)), .val (.int (0 : Int32)), .val .null, .unset] [(.ref a1)])) _
    refine st1 _ ?_
    show Steps p.tables e below (T1.setTop (mkF m 4 #[.val (.ref a1), .val (.ref a2), .val (.int (0 : Int32)), .val (.int (0 : Int32)), .val .null, .unset] [])) _
    refine XS.iloadN X1.here hx rfl (hb hby d3_4) rfl ?_
    refine XS.ifNo X1.here hx rfl (hb hby d3_5) rfl ((if0 _ _).trans (teq (by decide : (0 : Int32) = (0 : Int32))).2) ?_
    refine XS.aloadN X1.here hx rfl (hb hby d3_8) rfl rfl ?_
    show Steps p.tables e below (T1.setTop (mkF m 9 #[.val (.ref a1), .val (.ref a2), .val (.int (0 : Int32)), .val (.int (0 : Int32)), .val .null, .unset] [(.ref a1)])) _
    refine st3 _ ?_
    show Steps p.tables e below (T3.setTop (mkF m 11 #[.val (.ref a1), .val (.ref a2), .val (.int (0 : Int32)), .val (.int (0 : Int32)), .val .null, .unset] [(.ref la3), (.ref a1)])) _
    refine st8 _ ?_
    show Steps p.tables e below (T8.setTop (mkF m 14 #[.val (.ref a1), .val (.ref a2), .val (.int (0 : Int32)), .val (.int (0 : Int32)), .val .null, .unset] [(.ref lb3), (.ref a1)])) _
    refine st9 _ ?_
    show Steps p.tables e below (T9.setTop (mkF m 17 #[.val (.ref a1), .val (.ref a2), .val (.int (0 : Int32)), .val (.int (0 : Int32)), .val .null, .unset] [])) _
    refine XS.aloadN X9.here hx rfl (hb hby d3_17) rfl rfl ?_
    show Steps p.tables e below (T9.setTop (mkF m 18 #[.val (.ref a1), .val (.ref a2), .val (.int (0 : Int32)), .val (.int (0 : Int32)), .val .null, .unset] [(.ref a1)])) _
    refine (ldcAgain (s := s) (vm0 := T3.vm) X9 hx hZ3 hown3 (hw _ (List.mem_of_getElem? (i := 19) rfl)) L3 (g := (mkF m 18 #[.val (.ref a1), .val (.ref a2), .val (.int (0 : Int32)), .val (.int (0 : Int32)), .val .null, .unset] [(.ref a1)])) rfl (hb hby d3_18)) _ ?_
    show Steps p.tables e below (T9.setTop (mkF m 20 #[.val (.ref a1), .val (.ref a2), .val (.int (0 : Int32)), .val (.int (0 : Int32)), .val .null, .unset] [(.ref la3), (.ref a1)])) _
    refine st18 _ ?_
    show Steps p.tables e below (T18.setTop (mkF m 23 #[.val (.ref a1), .val (.ref a2), .val (.int (0 : Int32)), .val (.int (0 : Int32)), .val .null, .unset] [(.int (0 : Int32)), (.ref a1)])) _
    refine st19 _ ?_
    show Steps p.tables e below (T19.setTop (mkF m 26 #[.val (.ref a1), .val (.ref a2), .val (.int (0 : Int32)), .val (.int (0 : Int32)), .val .null, .unset] [])) _
    exact X19.returnOut hx Bd.returns (hb hby d3_26) hr
  · show own_Qk (none) [a1] h0 n0 _ T19.heap _
    rw [e19]
    exact ⟨rfl, N19, K19⟩
  · show CHr Z own_EL s.vm s.heap T19.vm T19.heap
    rw [hh, e19]
    exact R19.trans (CHv.at (s := s) (vm0 := T3.vm) X19 hZ3 hEL C19)
set_option maxRecDepth 65536 in
set_option maxHeartbeats 40000000 in
theorem r_s0 (l : Launch) (Z : State) (a0 : Array Value) (hw : ∀ d ∈ tables_1, d.before a0 Z = true) (ws : List Jvm.Cond) (s_L1 s_L4 s_L3 s_L5 s_L2 : Addr) (cs1 : Int32) (h0 : Heap) (n0 : Nat) (O0 : Old Z n0 h0) (G : own_Ctx Z Z.heap s_L1 s_L4 s_L3 s_L5 s_L2 cs1) (hEL : EW Z a0 own_EL) (wS : ∀ a ∈ Bundle.stringAtoms, a.before a0 Z = true) (a1 a2 : Addr) (k2 : ClassId) (Ea : Exa Z h0 a1 "java/lang/String") (ga : n0 ≤ a1) (Fc : Fld Z h0 a1 "java/lang/String" "coder" "B" (.int (0 : Int32))) (Fv : Fld Z h0 a1 "java/lang/String" "value" "[B" .null) (Va : Arv Z h0 a2 k2 .char (0 : Int32) [] (.int (0 : Int32))) (hne : a2 ≠ a1) :
    MetFree l (⟨"java/lang/String", "<init>", "([C)V"⟩ : MethodName) (head1 (Jvm.Cond.code (⟨"java/lang/String", "<init>", "([C)V"⟩ : MethodName) jdk_42_method_3_code 2 none :: ws) ({ frames := 2, cells := 2, slots := 4, locals := 29 } : Room)) (fun a U => a = #[(.ref a1), (.ref a2)] ∧ Z.Warmed39 U.vm ∧ U.heap = h0 ∧ CHv Z own_EL U.vm h0) (fun _ _ _ _ _ => True) (fun _ U o U' => ∃ v L, o = .returned v ∧ own_Qk (none) [a1] h0 n0 v U'.heap L ∧ CHr Z own_EL U.vm U.heap U'.vm U'.heap ∧ ReturnedEndW U o U' L ({ frames := 2, cells := 2, slots := 4, locals := 29 } : Room).cells ({ frames := 2, cells := 2, slots := 4, locals := 29 } : Room).slots) := by
  have G0 := G
  obtain ⟨S_L1, E_L1, S_L4, E_L4, S_L3, E_L3, S_L5, E_L5, S_L2, E_L2, S_CS, N_CS⟩ := G
  refine MetFree.of_bodySF (plainFor_of_name pn_2) hisR ?_
  intro p e s m args below meth c s₁ Bd hml0 hP hK
  obtain ⟨rfl, hZ, hh, hC⟩ := hP
  have hx := Bd.exec
  have hby := Bd.bytes
  have hml : c.maxLocals = 2 := hml0
  have hown : s.vm.findClass "java/lang/String" = some m.cls := findClass_of_methodNamed Bd.named
  have hnm := (name_of_methodNamed Bd.named Bd.method).1
  have X0 : Stand p l e ({ frames := 2, cells := 2, slots := 4, locals := 29 } : Room) (s.setVm s.vm) m #[(.ref a1), (.ref a2)] below meth c s₁ [] 0 0 := Stand.of_body Bd
  have e0 : s₁.heap = h0 := by rw [← hh, Bd.state]; rfl
  have N0 := Fr.nil n0
  have hS0 : s.Since s.vm h0.size := State.WarmedH.since (State.WarmedH.refl s) _
  have hk0 : h0.size ≤ h0.size := Nat.le_refl _
  have pre0 : ∀ t, Steps p.tables e below (s₁.setTop (mkF m 0 #[.val (.ref a1), .val (.ref a2)] [])) t → Steps p.tables e below (s₁.setTop (entryFrame m #[(.ref a1), (.ref a2)] 2)) t := fun t k => castTop (ef_2_5 m a1 a2) k
  have vc1 := Va
  obtain ⟨cl1, Ar1, qk1, S1, Nn1, Hs1, Gf1⟩ := vc1
  obtain ⟨_, _, ⟨T2, L2, k2, n2⟩, -, X2, S2a, z2a, ⟨Lc2, hQ2, l2, y2, z2, R2q⟩, st2⟩ := X0.specialBackS hx (y := (⟨"java/lang/String", "<init>", "([CIILjava/lang/Void;)V"⟩ : MethodName)) rfl hown (mvT hZ (hw _ (List.mem_of_getElem? (i := 12) rfl))) (mvT hZ (hw _ (List.mem_of_getElem? (i := 13) rfl))) (mvT hZ (hw _ (List.mem_of_getElem? (i := 15) rfl))) (by decide) (backOfSH (s := s) (vm0 := s.vm) (EL := own_EL) (W := 0) (r_sv0 l Z a0 hw [] s_L1 s_L4 s_L3 s_L5 s_L2 cs1 h0 n0 O0 G0 hEL wS a1 a2 Ea ga Fc Fv) hZ (hw _ (List.mem_of_getElem? (i := 15) rfl)) (hw _ (List.mem_of_getElem? (i := 8) rfl)) (by decide) (by decide) hEL hC) (g := (mkF m 6 #[.val (.ref a1), .val (.ref a2)] [.null, (.int (0 : Int32)), (.int (0 : Int32)), (.ref a2), (.ref a1)])) rfl (by rw [hml]; rfl) (Steps.refl _) (a := a1) (argsL := [(.ref a2), (.int (0 : Int32)), (.int (0 : Int32)), .null]) (rest := []) (lenOf pd_3 rfl) rfl (by show 2 * 0 + _ ≤ _; exact Nat.le_of_eq rfl) (hb hby d2_6) (fun _ _ => ⟨rfl, e0, (by decide : 0 + 2 ≤ _), (by decide : 0 + 4 ≤ _)⟩)
  dsimp only [Pt.U, Pt.locs, Pt.cells, Pt.slots] at X2 S2a z2a l2 y2 z2 st2 hQ2 R2q
  subst l2 y2 z2
  have X2 : Stand p l e ({ frames := 2, cells := 2, slots := 4, locals := 29 } : Room) (s.setVm T2.vm) m #[(.ref a1), (.ref a2)] below meth c T2 _ _ _ := X2
  have S2f : s.Since T2.vm T2.heap.size := foldS (T := s₁) hS0 (by rw [e0]; exact hk0) S2a z2a
  have hZ2 : Z.Warmed39 T2.vm := State.Warmed39.trans (t := s.setVm s.vm) hZ S2a.1
  have hown2 : (s.setVm T2.vm).vm.findClass "java/lang/String" = some m.cls := by rw [show (s.setVm T2.vm).vm = T2.vm from rfl, S2a.1.alike.findClass]; exact hown
  obtain ⟨rfl, N2q, Kq2⟩ := hQ2
  have N2 := Fr.app N0 N2q
  have f3 := Ea.keep Kq2
  have f4 := Va.keep Kq2 (fun q => (List.mem_cons.mp q).elim hne (fun q => nomatch q))
  have O2 := O0.keep Kq2 (allS ga all0)
  have K2 : Keep h0 T2.heap [a1] := (Keep.refl h0 [a1]).trans Kq2 (allS (Or.inl (List.mem_of_getElem? (i := 0) rfl)) all0)
  have R2 : CHr Z own_EL s.vm h0 T2.vm T2.heap := (CHr.refl hC).trans R2q
  have C2 := R2q.1
  obtain ⟨fs, hr, hrun, hended, hRW⟩ := X2.leaveW S2f (Nat.le_refl _) (v := none) (fun _ => rfl)
  refine ⟨_, _, pre0 _ ?_, hrun, hended, _, _, rfl, ?_, ?_, hRW.1, hRW.2.1, hRW.2.2.1, hRW.2.2.2.mono (by decide) (by decide)⟩
  · show Steps p.tables e below (s₁.setTop (mkF m 0 #[.val (.ref a1), .val (.ref a2)] [])) _
    refine XS.aloadN X0.here hx rfl (hb hby d2_0) rfl rfl ?_
    refine XS.aloadN X0.here hx rfl (hb hby d2_1) rfl rfl ?_
    refine XS.iconst X0.here hx rfl (hb hby d2_2) ?_
    refine XS.aloadN X0.here hx rfl (hb hby d2_3) rfl rfl ?_
    show Steps p.tables e below (s₁.setTop (mkF m 4 #[.val (.ref a1), .val (.ref a2)] [(.ref a2), (.int (0 : Int32)), (.ref a2), (.ref a1)])) _
    refine X0.arraylength hx (by rw [e0]; exact Ar1.1) (State.isArrayOf_alike hZ.alike Ar1.2.1) (g := (mkF m 4 #[.val (.ref a1), .val (.ref a2)] [(.ref a2), (.int (0 : Int32)), (.ref a2), (.ref a1)])) rfl rfl (hb hby d2_4) _ ?_
    rw [len_of S1 Nn1]
    show Steps p.tables e below (s₁.setTop (mkF m 5 #[.val (.ref a1), .val (.ref a2)] [(.int (0 : Int32)), (.int (0 : Int32)), (.ref a2), (.ref a1)])) _
    refine XS.aconstNull X0.here hx rfl (hb hby d2_5) ?_
    show Steps p.tables e below (s₁.setTop (mkF m 6 #[.val (.ref a1), .val (.ref a2)] [.null, (.int (0 : Int32)), (.int (0 : Int32)), (.ref a2), (.ref a1)])) _
    refine st2.trans ?_
    show Steps p.tables e below (T2.setTop (mkF m 9 #[.val (.ref a1), .val (.ref a2)] [])) _
    exact X2.returnOut hx Bd.returns (hb hby d2_9) hr
  · show own_Qk (none) [a1] h0 n0 _ T2.heap _
    exact ⟨rfl, N2, K2⟩
  · show CHr Z own_EL s.vm s.heap T2.vm T2.heap
    rw [hh]
    exact R2.trans (CHv.at (s := s) (vm0 := T2.vm) X2 hZ2 hEL C2)
theorem own_ch (y : Int32) : ¬ ((255 : Int32) < nar .char ((y &&& (255 : Int32)).toUInt32.toUInt16.toUInt32.toInt32)) := by
  rw [i2c_mask]
  show ¬ ((255 : Int32) < (y &&& (255 : Int32)).toUInt32.toUInt16.toUInt32.toInt32)
  rw [i2c_mask, Int32.lt_iff_toInt_lt]
  have h := c_and y (255 : Int32) (by decide)
  have z : (255 : Int32).toInt = 255 := rfl
  omega
def own_Qa0 (Z : State) (a1 : Addr) (h0 : Heap) (n0 : Nat) (v : Option Value) (h : Heap) (L : List Loc) : Prop := v = none ∧ Fr n0 L ∧ Keep h0 h [a1] ∧ (Fld Z h a1 "com/example/pending_actions/pendingactions/policy/Assessment" "tier" "Lcom/example/pending_actions/pendingactions/policy/RiskTier;" .null) ∧ (Fld Z h a1 "com/example/pending_actions/pendingactions/policy/Assessment" "decider" "Ljava/lang/String;" .null)
theorem d5_0 : decode prog_13_method_1_code 0 = .ok (.aload_n 0, 1) := by decide +kernel
theorem d5_1 : decode prog_13_method_1_code 1 = .ok (.invokespecial 1, 3) := by decide +kernel
theorem d5_4 : decode prog_13_method_1_code 4 = .ok (.aload_n 0, 1) := by decide +kernel
theorem d5_5 : decode prog_13_method_1_code 5 = .ok (.aload_n 1, 1) := by decide +kernel
theorem d5_6 : decode prog_13_method_1_code 6 = .ok (.putfield 7, 3) := by decide +kernel
theorem d5_9 : decode prog_13_method_1_code 9 = .ok (.aload_n 0, 1) := by decide +kernel
theorem d5_10 : decode prog_13_method_1_code 10 = .ok (.aload_n 2, 1) := by decide +kernel
theorem d5_11 : decode prog_13_method_1_code 11 = .ok (.putfield 13, 3) := by decide +kernel
theorem d5_14 : decode prog_13_method_1_code 14 = .ok (.aload_n 0, 1) := by decide +kernel
theorem d5_15 : decode prog_13_method_1_code 15 = .ok (.aload_n 3, 1) := by decide +kernel
theorem d5_16 : decode prog_13_method_1_code 16 = .ok (.putfield 17, 3) := by decide +kernel
theorem d5_19 : decode prog_13_method_1_code 19 = .ok (.return_, 1) := by decide +kernel
theorem ef_5_6 (m : MethodId) (x0 : Addr) : entryFrame m #[(.ref x0), .null, .null, .null] 4 = mkF m 0 #[.val (.ref x0), .val .null, .val .null, .val .null] [] := by first | (simp [entryFrame, mkF, argsToLocals, Value.category]; done) | rfl
theorem pn_3 : plainName "com/example/pending_actions/pendingactions/policy/Assessment" = true := by first | (simp [plainName, overriddenIn]; done) | decide +kernel
set_option maxRecDepth 65536 in
set_option maxHeartbeats 40000000 in
theorem r_ai0 (l : Launch) (Z : State) (a0 : Array Value) (hw : ∀ d ∈ tables_1, d.before a0 Z = true) (ws : List Jvm.Cond) (s_L1 s_L4 s_L3 s_L5 s_L2 : Addr) (cs1 : Int32) (h0 : Heap) (n0 : Nat) (O0 : Old Z n0 h0) (G : own_Ctx Z Z.heap s_L1 s_L4 s_L3 s_L5 s_L2 cs1) (a1 : Addr) (Ea : Exa Z h0 a1 "com/example/pending_actions/pendingactions/policy/Assessment") (ga : n0 ≤ a1) (F_tier : Fld Z h0 a1 "com/example/pending_actions/pendingactions/policy/Assessment" "tier" "Lcom/example/pending_actions/pendingactions/policy/RiskTier;" .null) (F_decider : Fld Z h0 a1 "com/example/pending_actions/pendingactions/policy/Assessment" "decider" "Ljava/lang/String;" .null) (F_policyVersion : Fld Z h0 a1 "com/example/pending_actions/pendingactions/policy/Assessment" "policyVersion" "Ljava/lang/String;" .null) :
    MetFree l (⟨"com/example/pending_actions/pendingactions/policy/Assessment", "<init>", "(Lcom/example/pending_actions/pendingactions/policy/RiskTier;Ljava/lang/String;Ljava/lang/String;)V"⟩ : MethodName) (head1 (Jvm.Cond.code (⟨"com/example/pending_actions/pendingactions/policy/Assessment", "<init>", "(Lcom/example/pending_actions/pendingactions/policy/RiskTier;Ljava/lang/String;Ljava/lang/String;)V"⟩ : MethodName) prog_13_method_1_code 4 none :: ws) ({ frames := 1, cells := 0, slots := 0, locals := 12 } : Room)) (fun a U => a = #[(.ref a1), .null, .null, .null] ∧ Z.Warmed39 U.vm ∧ U.heap = h0) (fun _ _ _ _ _ => True) (fun _ U o U' => ∃ v L, o = .returned v ∧ own_Qa0 Z a1  h0 n0 v U'.heap L ∧ FrameEnd U o U' L ({ frames := 1, cells := 0, slots := 0, locals := 12 } : Room).cells ({ frames := 1, cells := 0, slots := 0, locals := 12 } : Room).slots) := by
  have G0 := G
  obtain ⟨S_L1, E_L1, S_L4, E_L4, S_L3, E_L3, S_L5, E_L5, S_L2, E_L2, S_CS, N_CS⟩ := G
  refine MetFree.of_bodySF (plainFor_of_name pn_3) hisR ?_
  intro p e s m args below meth c s₁ Bd hml0 hP hK
  obtain ⟨rfl, hZ, hh⟩ := hP
  have hx := Bd.exec
  have hby := Bd.bytes
  have hml : c.maxLocals = 4 := hml0
  have hown : s.vm.findClass "com/example/pending_actions/pendingactions/policy/Assessment" = some m.cls := findClass_of_methodNamed Bd.named
  have hnm := (name_of_methodNamed Bd.named Bd.method).1
  have X0 : Stand p l e ({ frames := 1, cells := 0, slots := 0, locals := 12 } : Room) s m #[(.ref a1), .null, .null, .null] below meth c s₁ [] 0 0 := Stand.of_body Bd
  have e0 : s₁.heap = h0 := by rw [← hh, Bd.state]; rfl
  have N0 := Fr.nil n0
  have pre0 : ∀ t, Steps p.tables e below (s₁.setTop (mkF m 0 #[.val (.ref a1), .val .null, .val .null, .val .null] [])) t → Steps p.tables e below (s₁.setTop (entryFrame m #[(.ref a1), .null, .null, .null] 4)) t := fun t k => castTop (ef_5_6 m a1) k
  obtain ⟨T1, X1, e1, st1⟩ := initO X0 hx hZ hown (hw _ (List.mem_of_getElem? (i := 33) rfl)) (hw _ (List.mem_of_getElem? (i := 17) rfl)) (hw _ (List.mem_of_getElem? (i := 18) rfl)) e0 (g := (mkF m 1 #[.val (.ref a1), .val .null, .val .null, .val .null] [(.ref a1)])) rfl (by rw [hml]; rfl) rfl (hb hby d5_1) (by decide) (W := 0) (by show 2 * 0 + _ ≤ _; exact Nat.le_of_eq rfl) (by decide)
  obtain ⟨T2, h2, X2, e2, W2, st2⟩ := putF X1 hx hZ hown (host := "") (Or.inl (hw _ (List.mem_of_getElem? (i := 34) rfl))) Via.refl e1 F_tier Ea (Or.inr ⟨(hw _ (List.mem_of_getElem? (i := 35) rfl)), rfl, hnm⟩) (hw _ (List.mem_of_getElem? (i := 28) rfl)) (ty := (.object "com/example/pending_actions/pendingactions/policy/RiskTier")) (by decide) rfl rfl (g := (mkF m 6 #[.val (.ref a1), .val .null, .val .null, .val .null] [.null, (.ref a1)])) rfl rfl (hb hby d5_6)
  have f3 := Ea.wr W2
  have f4 := F_decider.other W2 (Or.inr (slot_ne (Or.inr (hw _ (List.mem_of_getElem? (i := 37) rfl))) (Or.inr (hw _ (List.mem_of_getElem? (i := 35) rfl))) (by decide) (t := (.object "java/lang/String")) (t' := (.object "com/example/pending_actions/pendingactions/policy/RiskTier")) (by decide) (by decide)))
  have f5 := F_policyVersion.other W2 (Or.inr (slot_ne (Or.inr (hw _ (List.mem_of_getElem? (i := 39) rfl))) (Or.inr (hw _ (List.mem_of_getElem? (i := 35) rfl))) (by decide) (t := (.object "java/lang/String")) (t' := (.object "com/example/pending_actions/pendingactions/policy/RiskTier")) (by decide) (by decide)))
  have O2 := O0.wr W2 ga
  have K2 : Keep h0 h2 [a1] := (Keep.refl h0 [a1]).wr W2 (Or.inl (List.mem_of_getElem? (i := 0) rfl))
  have N2 := Fr.snoc X2 N0 ga
  have f6 := F_tier.same W2
  obtain ⟨T7, h7, X7, e7, W7, st7⟩ := putF X2 hx hZ hown (host := "") (Or.inl (hw _ (List.mem_of_getElem? (i := 36) rfl))) Via.refl e2 f4 f3 (Or.inr ⟨(hw _ (List.mem_of_getElem? (i := 37) rfl)), rfl, hnm⟩) (hw _ (List.mem_of_getElem? (i := 28) rfl)) (ty := (.object "java/lang/String")) (by decide) rfl rfl (g := (mkF m 11 #[.val (.ref a1), .val .null, .val .null, .val .null] [.null, (.ref a1)])) rfl rfl (hb hby d5_11)
  have f8 := f3.wr W7
  have f9 := f6.other W7 (Or.inr (slot_ne (Or.inr (hw _ (List.mem_of_getElem? (i := 35) rfl))) (Or.inr (hw _ (List.mem_of_getElem? (i := 37) rfl))) (by decide) (t := (.object "com/example/pending_actions/pendingactions/policy/RiskTier")) (t' := (.object "java/lang/String")) (by decide) (by decide)))
  have f10 := f5.other W7 (Or.inr (slot_ne (Or.inr (hw _ (List.mem_of_getElem? (i := 39) rfl))) (Or.inr (hw _ (List.mem_of_getElem? (i := 37) rfl))) (by decide) (t := (.object "java/lang/String")) (t' := (.object "java/lang/String")) (by decide) (by decide)))
  have O7 := O2.wr W7 ga
  have K7 : Keep h0 h7 [a1] := K2.wr W7 (Or.inl (List.mem_of_getElem? (i := 0) rfl))
  have N7 := Fr.snoc X7 N2 ga
  have f11 := f4.same W7
  obtain ⟨T12, h12, X12, e12, W12, st12⟩ := putF X7 hx hZ hown (host := "") (Or.inl (hw _ (List.mem_of_getElem? (i := 38) rfl))) Via.refl e7 f10 f8 (Or.inr ⟨(hw _ (List.mem_of_getElem? (i := 39) rfl)), rfl, hnm⟩) (hw _ (List.mem_of_getElem? (i := 28) rfl)) (ty := (.object "java/lang/String")) (by decide) rfl rfl (g := (mkF m 16 #[.val (.ref a1), .val .null, .val .null, .val .null] [.null, (.ref a1)])) rfl rfl (hb hby d5_16)
  have f13 := f8.wr W12
  have f14 := f9.other W12 (Or.inr (slot_ne (Or.inr (hw _ (List.mem_of_getElem? (i := 35) rfl))) (Or.inr (hw _ (List.mem_of_getElem? (i := 39) rfl))) (by decide) (t := (.object "com/example/pending_actions/pendingactions/policy/RiskTier")) (t' := (.object "java/lang/String")) (by decide) (by decide)))
  have f15 := f11.other W12 (Or.inr (slot_ne (Or.inr (hw _ (List.mem_of_getElem? (i := 37) rfl))) (Or.inr (hw _ (List.mem_of_getElem? (i := 39) rfl))) (by decide) (t := (.object "java/lang/String")) (t' := (.object "java/lang/String")) (by decide) (by decide)))
  have O12 := O7.wr W12 ga
  have K12 : Keep h0 h12 [a1] := K7.wr W12 (Or.inl (List.mem_of_getElem? (i := 0) rfl))
  have N12 := Fr.snoc X12 N7 ga
  have f16 := f10.same W12
  obtain ⟨fs, hr, hrun, hended, hW, hsame⟩ := X12.leave (v := none) (fun _ => rfl)
  refine ⟨_, _, pre0 _ ?_, hrun, hended, _, _, rfl, ?_, ⟨_, rfl⟩, hW, hsame.mono (by decide) (by decide)⟩
  · show Steps p.tables e below (s₁.setTop (mkF m 0 #[.val (.ref a1), .val .null, .val .null, .val .null] [])) _
    refine XS.aloadN X0.here hx rfl (hb hby d5_0) rfl rfl ?_
    show Steps p.tables e below (s₁.setTop (mkF m 1 #[.val (.ref a1), .val .null, .val .null, .val .null] [(.ref a1)])) _
    refine st1 _ ?_
    show Steps p.tables e below (T1.setTop (mkF m 4 #[.val (.ref a1), .val .null, .val .null, .val .null] [])) _
    refine XS.aloadN X1.here hx rfl (hb hby d5_4) rfl rfl ?_
    refine XS.aloadN X1.here hx rfl (hb hby d5_5) rfl rfl ?_
    show Steps p.tables e below (T1.setTop (mkF m 6 #[.val (.ref a1), .val .null, .val .null, .val .null] [.null, (.ref a1)])) _
    refine st2 _ ?_
    show Steps p.tables e below (T2.setTop (mkF m 9 #[.val (.ref a1), .val .null, .val .null, .val .null] [])) _
    refine XS.aloadN X2.here hx rfl (hb hby d5_9) rfl rfl ?_
    refine XS.aloadN X2.here hx rfl (hb hby d5_10) rfl rfl ?_
    show Steps p.tables e below (T2.setTop (mkF m 11 #[.val (.ref a1), .val .null, .val .null, .val .null] [.null, (.ref a1)])) _
    refine st7 _ ?_
    show Steps p.tables e below (T7.setTop (mkF m 14 #[.val (.ref a1), .val .null, .val .null, .val .null] [])) _
    refine XS.aloadN X7.here hx rfl (hb hby d5_14) rfl rfl ?_
    refine XS.aloadN X7.here hx rfl (hb hby d5_15) rfl rfl ?_
    show Steps p.tables e below (T7.setTop (mkF m 16 #[.val (.ref a1), .val .null, .val .null, .val .null] [.null, (.ref a1)])) _
    refine st12 _ ?_
    show Steps p.tables e below (T12.setTop (mkF m 19 #[.val (.ref a1), .val .null, .val .null, .val .null] [])) _
    exact X12.returnOut hx Bd.returns (hb hby d5_19) hr
  · show own_Qa0 Z a1  h0 n0 _ T12.heap _
    rw [e12]
    exact ⟨rfl, N12, K12, f14, f15⟩
def own_Qa1 (Z : State) (a1 x0_ : Addr) (h0 : Heap) (n0 : Nat) (v : Option Value) (h : Heap) (L : List Loc) : Prop := v = none ∧ Fr n0 L ∧ Keep h0 h [a1] ∧ (Fld Z h a1 "com/example/pending_actions/pendingactions/policy/Assessment" "tier" "Lcom/example/pending_actions/pendingactions/policy/RiskTier;" (.ref x0_)) ∧ (Fld Z h a1 "com/example/pending_actions/pendingactions/policy/Assessment" "decider" "Ljava/lang/String;" .null)
theorem ef_5_7 (m : MethodId) (x0 : Addr) (x1 : Addr) : entryFrame m #[(.ref x0), (.ref x1), .null, .null] 4 = mkF m 0 #[.val (.ref x0), .val (.ref x1), .val .null, .val .null] [] := by first | (simp [entryFrame, mkF, argsToLocals, Value.category]; done) | rfl
set_option maxRecDepth 65536 in
set_option maxHeartbeats 40000000 in
theorem r_ai1 (l : Launch) (Z : State) (a0 : Array Value) (hw : ∀ d ∈ tables_1, d.before a0 Z = true) (ws : List Jvm.Cond) (s_L1 s_L4 s_L3 s_L5 s_L2 : Addr) (cs1 : Int32) (h0 : Heap) (n0 : Nat) (O0 : Old Z n0 h0) (G : own_Ctx Z Z.heap s_L1 s_L4 s_L3 s_L5 s_L2 cs1) (a1 x0_ : Addr) (Ea : Exa Z h0 a1 "com/example/pending_actions/pendingactions/policy/Assessment") (ga : n0 ≤ a1) (F_tier : Fld Z h0 a1 "com/example/pending_actions/pendingactions/policy/Assessment" "tier" "Lcom/example/pending_actions/pendingactions/policy/RiskTier;" .null) (F_decider : Fld Z h0 a1 "com/example/pending_actions/pendingactions/policy/Assessment" "decider" "Ljava/lang/String;" .null) (F_policyVersion : Fld Z h0 a1 "com/example/pending_actions/pendingactions/policy/Assessment" "policyVersion" "Ljava/lang/String;" .null) :
    MetFree l (⟨"com/example/pending_actions/pendingactions/policy/Assessment", "<init>", "(Lcom/example/pending_actions/pendingactions/policy/RiskTier;Ljava/lang/String;Ljava/lang/String;)V"⟩ : MethodName) (head1 (Jvm.Cond.code (⟨"com/example/pending_actions/pendingactions/policy/Assessment", "<init>", "(Lcom/example/pending_actions/pendingactions/policy/RiskTier;Ljava/lang/String;Ljava/lang/String;)V"⟩ : MethodName) prog_13_method_1_code 4 none :: ws) ({ frames := 1, cells := 0, slots := 0, locals := 12 } : Room)) (fun a U => a = #[(.ref a1), (.ref x0_), .null, .null] ∧ Z.Warmed39 U.vm ∧ U.heap = h0) (fun _ _ _ _ _ => True) (fun _ U o U' => ∃ v L, o = .returned v ∧ own_Qa1 Z a1 x0_ h0 n0 v U'.heap L ∧ FrameEnd U o U' L ({ frames := 1, cells := 0, slots := 0, locals := 12 } : Room).cells ({ frames := 1, cells := 0, slots := 0, locals := 12 } : Room).slots) := by
  have G0 := G
  obtain ⟨S_L1, E_L1, S_L4, E_L4, S_L3, E_L3, S_L5, E_L5, S_L2, E_L2, S_CS, N_CS⟩ := G
  refine MetFree.of_bodySF (plainFor_of_name pn_3) hisR ?_
  intro p e s m args below meth c s₁ Bd hml0 hP hK
  obtain ⟨rfl, hZ, hh⟩ := hP
  have hx := Bd.exec
  have hby := Bd.bytes
  have hml : c.maxLocals = 4 := hml0
  have hown : s.vm.findClass "com/example/pending_actions/pendingactions/policy/Assessment" = some m.cls := findClass_of_methodNamed Bd.named
  have hnm := (name_of_methodNamed Bd.named Bd.method).1
  have X0 : Stand p l e ({ frames := 1, cells := 0, slots := 0, locals := 12 } : Room) s m #[(.ref a1), (.ref x0_), .null, .null] below meth c s₁ [] 0 0 := Stand.of_body Bd
  have e0 : s₁.heap = h0 := by rw [← hh, Bd.state]; rfl
  have N0 := Fr.nil n0
  have pre0 : ∀ t, Steps p.tables e below (s₁.setTop (mkF m 0 #[.val (.ref a1), .val (.ref x0_), .val .null, .val .null] [])) t → Steps p.tables e below (s₁.setTop (entryFrame m #[(.ref a1), (.ref x0_), .null, .null] 4)) t := fun t k => castTop (ef_5_7 m a1 x0_) k
  obtain ⟨T1, X1, e1, st1⟩ := initO X0 hx hZ hown (hw _ (List.mem_of_getElem? (i := 33) rfl)) (hw _ (List.mem_of_getElem? (i := 17) rfl)) (hw _ (List.mem_of_getElem? (i := 18) rfl)) e0 (g := (mkF m 1 #[.val (.ref a1), .val (.ref x0_), .val .null, .val .null] [(.ref a1)])) rfl (by rw [hml]; rfl) rfl (hb hby d5_1) (by decide) (W := 0) (by show 2 * 0 + _ ≤ _; exact Nat.le_of_eq rfl) (by decide)
  obtain ⟨T2, h2, X2, e2, W2, st2⟩ := putF X1 hx hZ hown (host := "") (Or.inl (hw _ (List.mem_of_getElem? (i := 34) rfl))) Via.refl e1 F_tier Ea (Or.inr ⟨(hw _ (List.mem_of_getElem? (i := 35) rfl)), rfl, hnm⟩) (hw _ (List.mem_of_getElem? (i := 28) rfl)) (ty := (.object "com/example/pending_actions/pendingactions/policy/RiskTier")) (by decide) rfl rfl (g := (mkF m 6 #[.val (.ref a1), .val (.ref x0_), .val .null, .val .null] [(.ref x0_), (.ref a1)])) rfl rfl (hb hby d5_6)
  have f3 := Ea.wr W2
  have f4 := F_decider.other W2 (Or.inr (slot_ne (Or.inr (hw _ (List.mem_of_getElem? (i := 37) rfl))) (Or.inr (hw _ (List.mem_of_getElem? (i := 35) rfl))) (by decide) (t := (.object "java/lang/String")) (t' := (.object "com/example/pending_actions/pendingactions/policy/RiskTier")) (by decide) (by decide)))
  have f5 := F_policyVersion.other W2 (Or.inr (slot_ne (Or.inr (hw _ (List.mem_of_getElem? (i := 39) rfl))) (Or.inr (hw _ (List.mem_of_getElem? (i := 35) rfl))) (by decide) (t := (.object "java/lang/String")) (t' := (.object "com/example/pending_actions/pendingactions/policy/RiskTier")) (by decide) (by decide)))
  have O2 := O0.wr W2 ga
  have K2 : Keep h0 h2 [a1] := (Keep.refl h0 [a1]).wr W2 (Or.inl (List.mem_of_getElem? (i := 0) rfl))
  have N2 := Fr.snoc X2 N0 ga
  have f6 := F_tier.same W2
  obtain ⟨T7, h7, X7, e7, W7, st7⟩ := putF X2 hx hZ hown (host := "") (Or.inl (hw _ (List.mem_of_getElem? (i := 36) rfl))) Via.refl e2 f4 f3 (Or.inr ⟨(hw _ (List.mem_of_getElem? (i := 37) rfl)), rfl, hnm⟩) (hw _ (List.mem_of_getElem? (i := 28) rfl)) (ty := (.object "java/lang/String")) (by decide) rfl rfl (g := (mkF m 11 #[.val (.ref a1), .val (.ref x0_), .val .null, .val .null] [.null, (.ref a1)])) rfl rfl (hb hby d5_11)
  have f8 := f3.wr W7
  have f9 := f6.other W7 (Or.inr (slot_ne (Or.inr (hw _ (List.mem_of_getElem? (i := 35) rfl))) (Or.inr (hw _ (List.mem_of_getElem? (i := 37) rfl))) (by decide) (t := (.object "com/example/pending_actions/pendingactions/policy/RiskTier")) (t' := (.object "java/lang/String")) (by decide) (by decide)))
  have f10 := f5.other W7 (Or.inr (slot_ne (Or.inr (hw _ (List.mem_of_getElem? (i := 39) rfl))) (Or.inr (hw _ (List.mem_of_getElem? (i := 37) rfl))) (by decide) (t := (.object "java/lang/String")) (t' := (.object "java/lang/String")) (by decide) (by decide)))
  have O7 := O2.wr W7 ga
  have K7 : Keep h0 h7 [a1] := K2.wr W7 (Or.inl (List.mem_of_getElem? (i := 0) rfl))
  have N7 := Fr.snoc X7 N2 ga
  have f11 := f4.same W7
  obtain ⟨T12, h12, X12, e12, W12, st12⟩ := putF X7 hx hZ hown (host := "") (Or.inl (hw _ (List.mem_of_getElem? (i := 38) rfl))) Via.refl e7 f10 f8 (Or.inr ⟨(hw _ (List.mem_of_getElem? (i := 39) rfl)), rfl, hnm⟩) (hw _ (List.mem_of_getElem? (i := 28) rfl)) (ty := (.object "java/lang/String")) (by decide) rfl rfl (g := (mkF m 16 #[.val (.ref a1), .val (.ref x0_), .val .null, .val .null] [.null, (.ref a1)])) rfl rfl (hb hby d5_16)
  have f13 := f8.wr W12
  have f14 := f9.other W12 (Or.inr (slot_ne (Or.inr (hw _ (List.mem_of_getElem? (i := 35) rfl))) (Or.inr (hw _ (List.mem_of_getElem? (i := 39) rfl))) (by decide) (t := (.object "com/example/pending_actions/pendingactions/policy/RiskTier")) (t' := (.object "java/lang/String")) (by decide) (by decide)))
  have f15 := f11.other W12 (Or.inr (slot_ne (Or.inr (hw _ (List.mem_of_getElem? (i := 37) rfl))) (Or.inr (hw _ (List.mem_of_getElem? (i := 39) rfl))) (by decide) (t := (.object "java/lang/String")) (t' := (.object "java/lang/String")) (by decide) (by decide)))
  have O12 := O7.wr W12 ga
  have K12 : Keep h0 h12 [a1] := K7.wr W12 (Or.inl (List.mem_of_getElem? (i := 0) rfl))
  have N12 := Fr.snoc X12 N7 ga
  have f16 := f10.same W12
  obtain ⟨fs, hr, hrun, hended, hW, hsame⟩ := X12.leave (v := none) (fun _ => rfl)
  refine ⟨_, _, pre0 _ ?_, hrun, hended, _, _, rfl, ?_, ⟨_, rfl⟩, hW, hsame.mono (by decide) (by decide)⟩
  · show Steps p.tables e below (s₁.setTop (mkF m 0 #[.val (.ref a1), .val (.ref x0_), .val .null, .val .null] [])) _
    refine XS.aloadN X0.here hx rfl (hb hby d5_0) rfl rfl ?_
    show Steps p.tables e below (s₁.setTop (mkF m 1 #[.val (.ref a1), .val (.ref x0_), .val .null, .val .null] [(.ref a1)])) _
    refine st1 _ ?_
    show Steps p.tables e below (T1.setTop (mkF m 4 #[.val (.ref a1), .val (.ref x0_), .val .null, .val .null] [])) _
    refine XS.aloadN X1.here hx rfl (hb hby d5_4) rfl rfl ?_
    refine XS.aloadN X1.here hx rfl (hb hby d5_5) rfl rfl ?_
    show Steps p.tables e below (T1.setTop (mkF m 6 #[.val (.ref a1), .val (.ref x0_), .val .null, .val .null] [(.ref x0_), (.ref a1)])) _
    refine st2 _ ?_
    show Steps p.tables e below (T2.setTop (mkF m 9 #[.val (.ref a1), .val (.ref x0_), .val .null, .val .null] [])) _
    refine XS.aloadN X2.here hx rfl (hb hby d5_9) rfl rfl ?_
    refine XS.aloadN X2.here hx rfl (hb hby d5_10) rfl rfl ?_
    show Steps p.tables e below (T2.setTop (mkF m 11 #[.val (.ref a1), .val (.ref x0_), .val .null, .val .null] [.null, (.ref a1)])) _
    refine st7 _ ?_
    show Steps p.tables e below (T7.setTop (mkF m 14 #[.val (.ref a1), .val (.ref x0_), .val .null, .val .null] [])) _
    refine XS.aloadN X7.here hx rfl (hb hby d5_14) rfl rfl ?_
    refine XS.aloadN X7.here hx rfl (hb hby d5_15) rfl rfl ?_
    show Steps p.tables e below (T7.setTop (mkF m 16 #[.val (.ref a1), .val (.ref x0_), .val .null, .val .null] [.null, (.ref a1)])) _
    refine st12 _ ?_
    show Steps p.tables e below (T12.setTop (mkF m 19 #[.val (.ref a1), .val (.ref x0_), .val .null, .val .null] [])) _
    exact X12.returnOut hx Bd.returns (hb hby d5_19) hr
  · show own_Qa1 Z a1 x0_ h0 n0 _ T12.heap _
    rw [e12]
    exact ⟨rfl, N12, K12, f14, f15⟩
def own_Qa2 (Z : State) (a1 x1_ : Addr) (h0 : Heap) (n0 : Nat) (v : Option Value) (h : Heap) (L : List Loc) : Prop := v = none ∧ Fr n0 L ∧ Keep h0 h [a1] ∧ (Fld Z h a1 "com/example/pending_actions/pendingactions/policy/Assessment" "tier" "Lcom/example/pending_actions/pendingactions/policy/RiskTier;" .null) ∧ (Fld Z h a1 "com/example/pending_actions/pendingactions/policy/Assessment" "decider" "Ljava/lang/String;" (.ref x1_))
theorem ef_5_8 (m : MethodId) (x0 : Addr) (x2 : Addr) : entryFrame m #[(.ref x0), .null, (.ref x2), .null] 4 = mkF m 0 #[.val (.ref x0), .val .null, .val (.ref x2), .val .null] [] := by first | (simp [entryFrame, mkF, argsToLocals, Value.category]; done) | rfl
set_option maxRecDepth 65536 in
set_option maxHeartbeats 40000000 in
theorem r_ai2 (l : Launch) (Z : State) (a0 : Array Value) (hw : ∀ d ∈ tables_1, d.before a0 Z = true) (ws : List Jvm.Cond) (s_L1 s_L4 s_L3 s_L5 s_L2 : Addr) (cs1 : Int32) (h0 : Heap) (n0 : Nat) (O0 : Old Z n0 h0) (G : own_Ctx Z Z.heap s_L1 s_L4 s_L3 s_L5 s_L2 cs1) (a1 x1_ : Addr) (Ea : Exa Z h0 a1 "com/example/pending_actions/pendingactions/policy/Assessment") (ga : n0 ≤ a1) (F_tier : Fld Z h0 a1 "com/example/pending_actions/pendingactions/policy/Assessment" "tier" "Lcom/example/pending_actions/pendingactions/policy/RiskTier;" .null) (F_decider : Fld Z h0 a1 "com/example/pending_actions/pendingactions/policy/Assessment" "decider" "Ljava/lang/String;" .null) (F_policyVersion : Fld Z h0 a1 "com/example/pending_actions/pendingactions/policy/Assessment" "policyVersion" "Ljava/lang/String;" .null) :
    MetFree l (⟨"com/example/pending_actions/pendingactions/policy/Assessment", "<init>", "(Lcom/example/pending_actions/pendingactions/policy/RiskTier;Ljava/lang/String;Ljava/lang/String;)V"⟩ : MethodName) (head1 (Jvm.Cond.code (⟨"com/example/pending_actions/pendingactions/policy/Assessment", "<init>", "(Lcom/example/pending_actions/pendingactions/policy/RiskTier;Ljava/lang/String;Ljava/lang/String;)V"⟩ : MethodName) prog_13_method_1_code 4 none :: ws) ({ frames := 1, cells := 0, slots := 0, locals := 12 } : Room)) (fun a U => a = #[(.ref a1), .null, (.ref x1_), .null] ∧ Z.Warmed39 U.vm ∧ U.heap = h0) (fun _ _ _ _ _ => True) (fun _ U o U' => ∃ v L, o = .returned v ∧ own_Qa2 Z a1 x1_ h0 n0 v U'.heap L ∧ FrameEnd U o U' L ({ frames := 1, cells := 0, slots := 0, locals := 12 } : Room).cells ({ frames := 1, cells := 0, slots := 0, locals := 12 } : Room).slots) := by
  have G0 := G
  obtain ⟨S_L1, E_L1, S_L4, E_L4, S_L3, E_L3, S_L5, E_L5, S_L2, E_L2, S_CS, N_CS⟩ := G
  refine MetFree.of_bodySF (plainFor_of_name pn_3) hisR ?_
  intro p e s m args below meth c s₁ Bd hml0 hP hK
  obtain ⟨rfl, hZ, hh⟩ := hP
  have hx := Bd.exec
  have hby := Bd.bytes
  have hml : c.maxLocals = 4 := hml0
  have hown : s.vm.findClass "com/example/pending_actions/pendingactions/policy/Assessment" = some m.cls := findClass_of_methodNamed Bd.named
  have hnm := (name_of_methodNamed Bd.named Bd.method).1
  have X0 : Stand p l e ({ frames := 1, cells := 0, slots := 0, locals := 12 } : Room) s m #[(.ref a1), .null, (.ref x1_), .null] below meth c s₁ [] 0 0 := Stand.of_body Bd
  have e0 : s₁.heap = h0 := by rw [← hh, Bd.state]; rfl
  have N0 := Fr.nil n0
  have pre0 : ∀ t, Steps p.tables e below (s₁.setTop (mkF m 0 #[.val (.ref a1), .val .null, .val (.ref x1_), .val .null] [])) t → Steps p.tables e below (s₁.setTop (entryFrame m #[(.ref a1), .null, (.ref x1_), .null] 4)) t := fun t k => castTop (ef_5_8 m a1 x1_) k
  obtain ⟨T1, X1, e1, st1⟩ := initO X0 hx hZ hown (hw _ (List.mem_of_getElem? (i := 33) rfl)) (hw _ (List.mem_of_getElem? (i := 17) rfl)) (hw _ (List.mem_of_getElem? (i := 18) rfl)) e0 (g := (mkF m 1 #[.val (.ref a1), .val .null, .val (.ref x1_), .val .null] [(.ref a1)])) rfl (by rw [hml]; rfl) rfl (hb hby d5_1) (by decide) (W := 0) (by show 2 * 0 + _ ≤ _; exact Nat.le_of_eq rfl) (by decide)
  obtain ⟨T2, h2, X2, e2, W2, st2⟩ := putF X1 hx hZ hown (host := "") (Or.inl (hw _ (List.mem_of_getElem? (i := 34) rfl))) Via.refl e1 F_tier Ea (Or.inr ⟨(hw _ (List.mem_of_getElem? (i := 35) rfl)), rfl, hnm⟩) (hw _ (List.mem_of_getElem? (i := 28) rfl)) (ty := (.object "com/example/pending_actions/pendingactions/policy/RiskTier")) (by decide) rfl rfl (g := (mkF m 6 #[.val (.ref a1), .val .null, .val (.ref x1_), .val .null] [.null, (.ref a1)])) rfl rfl (hb hby d5_6)
  have f3 := Ea.wr W2
  have f4 := F_decider.other W2 (Or.inr (slot_ne (Or.inr (hw _ (List.mem_of_getElem? (i := 37) rfl))) (Or.inr (hw _ (List.mem_of_getElem? (i := 35) rfl))) (by decide) (t := (.object "java/lang/String")) (t' := (.object "com/example/pending_actions/pendingactions/policy/RiskTier")) (by decide) (by decide)))
  have f5 := F_policyVersion.other W2 (Or.inr (slot_ne (Or.inr (hw _ (List.mem_of_getElem? (i := 39) rfl))) (Or.inr (hw _ (List.mem_of_getElem? (i := 35) rfl))) (by decide) (t := (.object "java/lang/String")) (t' := (.object "com/example/pending_actions/pendingactions/policy/RiskTier")) (by decide) (by decide)))
  have O2 := O0.wr W2 ga
  have K2 : Keep h0 h2 [a1] := (Keep.refl h0 [a1]).wr W2 (Or.inl (List.mem_of_getElem? (i := 0) rfl))
  have N2 := Fr.snoc X2 N0 ga
  have f6 := F_tier.same W2
  obtain ⟨T7, h7, X7, e7, W7, st7⟩ := putF X2 hx hZ hown (host := "") (Or.inl (hw _ (List.mem_of_getElem? (i := 36) rfl))) Via.refl e2 f4 f3 (Or.inr ⟨(hw _ (List.mem_of_getElem? (i := 37) rfl)), rfl, hnm⟩) (hw _ (List.mem_of_getElem? (i := 28) rfl)) (ty := (.object "java/lang/String")) (by decide) rfl rfl (g := (mkF m 11 #[.val (.ref a1), .val .null, .val (.ref x1_), .val .null] [(.ref x1_), (.ref a1)])) rfl rfl (hb hby d5_11)
  have f8 := f3.wr W7
  have f9 := f6.other W7 (Or.inr (slot_ne (Or.inr (hw _ (List.mem_of_getElem? (i := 35) rfl))) (Or.inr (hw _ (List.mem_of_getElem? (i := 37) rfl))) (by decide) (t := (.object "com/example/pending_actions/pendingactions/policy/RiskTier")) (t' := (.object "java/lang/String")) (by decide) (by decide)))
  have f10 := f5.other W7 (Or.inr (slot_ne (Or.inr (hw _ (List.mem_of_getElem? (i := 39) rfl))) (Or.inr (hw _ (List.mem_of_getElem? (i := 37) rfl))) (by decide) (t := (.object "java/lang/String")) (t' := (.object "java/lang/String")) (by decide) (by decide)))
  have O7 := O2.wr W7 ga
  have K7 : Keep h0 h7 [a1] := K2.wr W7 (Or.inl (List.mem_of_getElem? (i := 0) rfl))
  have N7 := Fr.snoc X7 N2 ga
  have f11 := f4.same W7
  obtain ⟨T12, h12, X12, e12, W12, st12⟩ := putF X7 hx hZ hown (host := "") (Or.inl (hw _ (List.mem_of_getElem? (i := 38) rfl))) Via.refl e7 f10 f8 (Or.inr ⟨(hw _ (List.mem_of_getElem? (i := 39) rfl)), rfl, hnm⟩) (hw _ (List.mem_of_getElem? (i := 28) rfl)) (ty := (.object "java/lang/String")) (by decide) rfl rfl (g := (mkF m 16 #[.val (.ref a1), .val .null, .val (.ref x1_), .val .null] [.null, (.ref a1)])) rfl rfl (hb hby d5_16)
  have f13 := f8.wr W12
  have f14 := f9.other W12 (Or.inr (slot_ne (Or.inr (hw _ (List.mem_of_getElem? (i := 35) rfl))) (Or.inr (hw _ (List.mem_of_getElem? (i := 39) rfl))) (by decide) (t := (.object "com/example/pending_actions/pendingactions/policy/RiskTier")) (t' := (.object "java/lang/String")) (by decide) (by decide)))
  have f15 := f11.other W12 (Or.inr (slot_ne (Or.inr (hw _ (List.mem_of_getElem? (i := 37) rfl))) (Or.inr (hw _ (List.mem_of_getElem? (i := 39) rfl))) (by decide) (t := (.object "java/lang/String")) (t' := (.object "java/lang/String")) (by decide) (by decide)))
  have O12 := O7.wr W12 ga
  have K12 : Keep h0 h12 [a1] := K7.wr W12 (Or.inl (List.mem_of_getElem? (i := 0) rfl))
  have N12 := Fr.snoc X12 N7 ga
  have f16 := f10.same W12
  obtain ⟨fs, hr, hrun, hended, hW, hsame⟩ := X12.leave (v := none) (fun _ => rfl)
  refine ⟨_, _, pre0 _ ?_, hrun, hended, _, _, rfl, ?_, ⟨_, rfl⟩, hW, hsame.mono (by decide) (by decide)⟩
  · show Steps p.tables e below (s₁.setTop (mkF m 0 #[.val (.ref a1), .val .null, .val (.ref x1_), .val .null] [])) _
    refine XS.aloadN X0.here hx rfl (hb hby d5_0) rfl rfl ?_
    show Steps p.tables e below (s₁.setTop (mkF m 1 #[.val (.ref a1), .val .null, .val (.ref x1_), .val .null] [(.ref a1)])) _
    refine st1 _ ?_
    show Steps p.tables e below (T1.setTop (mkF m 4 #[.val (.ref a1), .val .null, .val (.ref x1_), .val .null] [])) _
    refine XS.aloadN X1.here hx rfl (hb hby d5_4) rfl rfl ?_
    refine XS.aloadN X1.here hx rfl (hb hby d5_5) rfl rfl ?_
    show Steps p.tables e below (T1.setTop (mkF m 6 #[.val (.ref a1), .val .null, .val (.ref x1_), .val .null] [.null, (.ref a1)])) _
    refine st2 _ ?_
    show Steps p.tables e below (T2.setTop (mkF m 9 #[.val (.ref a1), .val .null, .val (.ref x1_), .val .null] [])) _
    refine XS.aloadN X2.here hx rfl (hb hby d5_9) rfl rfl ?_
    refine XS.aloadN X2.here hx rfl (hb hby d5_10) rfl rfl ?_
    show Steps p.tables e below (T2.setTop (mkF m 11 #[.val (.ref a1), .val .null, .val (.ref x1_), .val .null] [(.ref x1_), (.ref a1)])) _
    refine st7 _ ?_
    show Steps p.tables e below (T7.setTop (mkF m 14 #[.val (.ref a1), .val .null, .val (.ref x1_), .val .null] [])) _
    refine XS.aloadN X7.here hx rfl (hb hby d5_14) rfl rfl ?_
    refine XS.aloadN X7.here hx rfl (hb hby d5_15) rfl rfl ?_
    show Steps p.tables e below (T7.setTop (mkF m 16 #[.val (.ref a1), .val .null, .val (.ref x1_), .val .null] [.null, (.ref a1)])) _
    refine st12 _ ?_
    show Steps p.tables e below (T12.setTop (mkF m 19 #[.val (.ref a1), .val .null, .val (.ref x1_), .val .null] [])) _
    exact X12.returnOut hx Bd.returns (hb hby d5_19) hr
  · show own_Qa2 Z a1 x1_ h0 n0 _ T12.heap _
    rw [e12]
    exact ⟨rfl, N12, K12, f14, f15⟩
def own_Qa3 (Z : State) (a1 x0_ x1_ : Addr) (h0 : Heap) (n0 : Nat) (v : Option Value) (h : Heap) (L : List Loc) : Prop := v = none ∧ Fr n0 L ∧ Keep h0 h [a1] ∧ (Fld Z h a1 "com/example/pending_actions/pendingactions/policy/Assessment" "tier" "Lcom/example/pending_actions/pendingactions/policy/RiskTier;" (.ref x0_)) ∧ (Fld Z h a1 "com/example/pending_actions/pendingactions/policy/Assessment" "decider" "Ljava/lang/String;" (.ref x1_))
theorem ef_5_9 (m : MethodId) (x0 : Addr) (x1 : Addr) (x2 : Addr) : entryFrame m #[(.ref x0), (.ref x1), (.ref x2), .null] 4 = mkF m 0 #[.val (.ref x0), .val (.ref x1), .val (.ref x2), .val .null] [] := by first | (simp [entryFrame, mkF, argsToLocals, Value.category]; done) | rfl
set_option maxRecDepth 65536 in
set_option maxHeartbeats 40000000 in
theorem r_ai3 (l : Launch) (Z : State) (a0 : Array Value) (hw : ∀ d ∈ tables_1, d.before a0 Z = true) (ws : List Jvm.Cond) (s_L1 s_L4 s_L3 s_L5 s_L2 : Addr) (cs1 : Int32) (h0 : Heap) (n0 : Nat) (O0 : Old Z n0 h0) (G : own_Ctx Z Z.heap s_L1 s_L4 s_L3 s_L5 s_L2 cs1) (a1 x0_ x1_ : Addr) (Ea : Exa Z h0 a1 "com/example/pending_actions/pendingactions/policy/Assessment") (ga : n0 ≤ a1) (F_tier : Fld Z h0 a1 "com/example/pending_actions/pendingactions/policy/Assessment" "tier" "Lcom/example/pending_actions/pendingactions/policy/RiskTier;" .null) (F_decider : Fld Z h0 a1 "com/example/pending_actions/pendingactions/policy/Assessment" "decider" "Ljava/lang/String;" .null) (F_policyVersion : Fld Z h0 a1 "com/example/pending_actions/pendingactions/policy/Assessment" "policyVersion" "Ljava/lang/String;" .null) :
    MetFree l (⟨"com/example/pending_actions/pendingactions/policy/Assessment", "<init>", "(Lcom/example/pending_actions/pendingactions/policy/RiskTier;Ljava/lang/String;Ljava/lang/String;)V"⟩ : MethodName) (head1 (Jvm.Cond.code (⟨"com/example/pending_actions/pendingactions/policy/Assessment", "<init>", "(Lcom/example/pending_actions/pendingactions/policy/RiskTier;Ljava/lang/String;Ljava/lang/String;)V"⟩ : MethodName) prog_13_method_1_code 4 none :: ws) ({ frames := 1, cells := 0, slots := 0, locals := 12 } : Room)) (fun a U => a = #[(.ref a1), (.ref x0_), (.ref x1_), .null] ∧ Z.Warmed39 U.vm ∧ U.heap = h0) (fun _ _ _ _ _ => True) (fun _ U o U' => ∃ v L, o = .returned v ∧ own_Qa3 Z a1 x0_ x1_ h0 n0 v U'.heap L ∧ FrameEnd U o U' L ({ frames := 1, cells := 0, slots := 0, locals := 12 } : Room).cells ({ frames := 1, cells := 0, slots := 0, locals := 12 } : Room).slots) := by
  have G0 := G
  obtain ⟨S_L1, E_L1, S_L4, E_L4, S_L3, E_L3, S_L5, E_L5, S_L2, E_L2, S_CS, N_CS⟩ := G
  refine MetFree.of_bodySF (plainFor_of_name pn_3) hisR ?_
  intro p e s m args below meth c s₁ Bd hml0 hP hK
  obtain ⟨rfl, hZ, hh⟩ := hP
  have hx := Bd.exec
  have hby := Bd.bytes
  have hml : c.maxLocals = 4 := hml0
  have hown : s.vm.findClass "com/example/pending_actions/pendingactions/policy/Assessment" = some m.cls := findClass_of_methodNamed Bd.named
  have hnm := (name_of_methodNamed Bd.named Bd.method).1
  have X0 : Stand p l e ({ frames := 1, cells := 0, slots := 0, locals := 12 } : Room) s m #[(.ref a1), (.ref x0_), (.ref x1_), .null] below meth c s₁ [] 0 0 := Stand.of_body Bd
  have e0 : s₁.heap = h0 := by rw [← hh, Bd.state]; rfl
  have N0 := Fr.nil n0
  have pre0 : ∀ t, Steps p.tables e below (s₁.setTop (mkF m 0 #[.val (.ref a1), .val (.ref x0_), .val (.ref x1_), .val .null] [])) t → Steps p.tables e below (s₁.setTop (entryFrame m #[(.ref a1), (.ref x0_), (.ref x1_), .null] 4)) t := fun t k => castTop (ef_5_9 m a1 x0_ x1_) k
  obtain ⟨T1, X1, e1, st1⟩ := initO X0 hx hZ hown (hw _ (List.mem_of_getElem? (i := 33) rfl)) (hw _ (List.mem_of_getElem? (i := 17) rfl)) (hw _ (List.mem_of_getElem? (i := 18) rfl)) e0 (g := (mkF m 1 #[.val (.ref a1), .val (.ref x0_), .val (.ref x1_), .val .null] [(.ref a1)])) rfl (by rw [hml]; rfl) rfl (hb hby d5_1) (by decide) (W := 0) (by show 2 * 0 + _ ≤ _; exact Nat.le_of_eq rfl) (by decide)
  obtain ⟨T2, h2, X2, e2, W2, st2⟩ := putF X1 hx hZ hown (host := "") (Or.inl (hw _ (List.mem_of_getElem? (i := 34) rfl))) Via.refl e1 F_tier Ea (Or.inr ⟨(hw _ (List.mem_of_getElem? (i := 35) rfl)), rfl, hnm⟩) (hw _ (List.mem_of_getElem? (i := 28) rfl)) (ty := (.object "com/example/pending_actions/pendingactions/policy/RiskTier")) (by decide) rfl rfl (g := (mkF m 6 #[.val (.ref a1), .val (.ref x0_), .val (.ref x1_), .val .null] [(.ref x0_), (.ref a1)])) rfl rfl (hb hby d5_6)
  have f3 := Ea.wr W2
  have f4 := F_decider.other W2 (Or.inr (slot_ne (Or.inr (hw _ (List.mem_of_getElem? (i := 37) rfl))) (Or.inr (hw _ (List.mem_of_getElem? (i := 35) rfl))) (by decide) (t := (.object "java/lang/String")) (t' := (.object "com/example/pending_actions/pendingactions/policy/RiskTier")) (by decide) (by decide)))
  have f5 := F_policyVersion.other W2 (Or.inr (slot_ne (Or.inr (hw _ (List.mem_of_getElem? (i := 39) rfl))) (Or.inr (hw _ (List.mem_of_getElem? (i := 35) rfl))) (by decide) (t := (.object "java/lang/String")) (t' := (.object "com/example/pending_actions/pendingactions/policy/RiskTier")) (by decide) (by decide)))
  have O2 := O0.wr W2 ga
  have K2 : Keep h0 h2 [a1] := (Keep.refl h0 [a1]).wr W2 (Or.inl (List.mem_of_getElem? (i := 0) rfl))
  have N2 := Fr.snoc X2 N0 ga
  have f6 := F_tier.same W2
  obtain ⟨T7, h7, X7, e7, W7, st7⟩ := putF X2 hx hZ hown (host := "") (Or.inl (hw _ (List.mem_of_getElem? (i := 36) rfl))) Via.refl e2 f4 f3 (Or.inr ⟨(hw _ (List.mem_of_getElem? (i := 37) rfl)), rfl, hnm⟩) (hw _ (List.mem_of_getElem? (i := 28) rfl)) (ty := (.object "java/lang/String")) (by decide) rfl rfl (g := (mkF m 11 #[.val (.ref a1), .val (.ref x0_), .val (.ref x1_), .val .null] [(.ref x1_), (.ref a1)])) rfl rfl (hb hby d5_11)
  have f8 := f3.wr W7
  have f9 := f6.other W7 (Or.inr (slot_ne (Or.inr (hw _ (List.mem_of_getElem? (i := 35) rfl))) (Or.inr (hw _ (List.mem_of_getElem? (i := 37) rfl))) (by decide) (t := (.object "com/example/pending_actions/pendingactions/policy/RiskTier")) (t' := (.object "java/lang/String")) (by decide) (by decide)))
  have f10 := f5.other W7 (Or.inr (slot_ne (Or.inr (hw _ (List.mem_of_getElem? (i := 39) rfl))) (Or.inr (hw _ (List.mem_of_getElem? (i := 37) rfl))) (by decide) (t := (.object "java/lang/String")) (t' := (.object "java/lang/String")) (by decide) (by decide)))
  have O7 := O2.wr W7 ga
  have K7 : Keep h0 h7 [a1] := K2.wr W7 (Or.inl (List.mem_of_getElem? (i := 0) rfl))
  have N7 := Fr.snoc X7 N2 ga
  have f11 := f4.same W7
  obtain ⟨T12, h12, X12, e12, W12, st12⟩ := putF X7 hx hZ hown (host := "") (Or.inl (hw _ (List.mem_of_getElem? (i := 38) rfl))) Via.refl e7 f10 f8 (Or.inr ⟨(hw _ (List.mem_of_getElem? (i := 39) rfl)), rfl, hnm⟩) (hw _ (List.mem_of_getElem? (i := 28) rfl)) (ty := (.object "java/lang/String")) (by decide) rfl rfl (g := (mkF m 16 #[.val (.ref a1), .val (.ref x0_), .val (.ref x1_), .val .null] [.null, (.ref a1)])) rfl rfl (hb hby d5_16)
  have f13 := f8.wr W12
  have f14 := f9.other W12 (Or.inr (slot_ne (Or.inr (hw _ (List.mem_of_getElem? (i := 35) rfl))) (Or.inr (hw _ (List.mem_of_getElem? (i := 39) rfl))) (by decide) (t := (.object "com/example/pending_actions/pendingactions/policy/RiskTier")) (t' := (.object "java/lang/String")) (by decide) (by decide)))
  have f15 := f11.other W12 (Or.inr (slot_ne (Or.inr (hw _ (List.mem_of_getElem? (i := 37) rfl))) (Or.inr (hw _ (List.mem_of_getElem? (i := 39) rfl))) (by decide) (t := (.object "java/lang/String")) (t' := (.object "java/lang/String")) (by decide) (by decide)))
  have O12 := O7.wr W12 ga
  have K12 : Keep h0 h12 [a1] := K7.wr W12 (Or.inl (List.mem_of_getElem? (i := 0) rfl))
  have N12 := Fr.snoc X12 N7 ga
  have f16 := f10.same W12
  obtain ⟨fs, hr, hrun, hended, hW, hsame⟩ := X12.leave (v := none) (fun _ => rfl)
  refine ⟨_, _, pre0 _ ?_, hrun, hended, _, _, rfl, ?_, ⟨_, rfl⟩, hW, hsame.mono (by decide) (by decide)⟩
  · show Steps p.tables e below (s₁.setTop (mkF m 0 #[.val (.ref a1), .val (.ref x0_), .val (.ref x1_), .val .null] [])) _
    refine XS.aloadN X0.here hx rfl (hb hby d5_0) rfl rfl ?_
    show Steps p.tables e below (s₁.setTop (mkF m 1 #[.val (.ref a1), .val (.ref x0_), .val (.ref x1_), .val .null] [(.ref a1)])) _
    refine st1 _ ?_
    show Steps p.tables e below (T1.setTop (mkF m 4 #[.val (.ref a1), .val (.ref x0_), .val (.ref x1_), .val .null] [])) _
    refine XS.aloadN X1.here hx rfl (hb hby d5_4) rfl rfl ?_
    refine XS.aloadN X1.here hx rfl (hb hby d5_5) rfl rfl ?_
    show Steps p.tables e below (T1.setTop (mkF m 6 #[.val (.ref a1), .val (.ref x0_), .val (.ref x1_), .val .null] [(.ref x0_), (.ref a1)])) _
    refine st2 _ ?_
    show Steps p.tables e below (T2.setTop (mkF m 9 #[.val (.ref a1), .val (.ref x0_), .val (.ref x1_), .val .null] [])) _
    refine XS.aloadN X2.here hx rfl (hb hby d5_9) rfl rfl ?_
    refine XS.aloadN X2.here hx rfl (hb hby d5_10) rfl rfl ?_
    show Steps p.tables e below (T2.setTop (mkF m 11 #[.val (.ref a1), .val (.ref x0_), .val (.ref x1_), .val .null] [(.ref x1_), (.ref a1)])) _
    refine st7 _ ?_
    show Steps p.tables e below (T7.setTop (mkF m 14 #[.val (.ref a1), .val (.ref x0_), .val (.ref x1_), .val .null] [])) _
    refine XS.aloadN X7.here hx rfl (hb hby d5_14) rfl rfl ?_
    refine XS.aloadN X7.here hx rfl (hb hby d5_15) rfl rfl ?_
    show Steps p.tables e below (T7.setTop (mkF m 16 #[.val (.ref a1), .val (.ref x0_), .val (.ref x1_), .val .null] [.null, (.ref a1)])) _
    refine st12 _ ?_
    show Steps p.tables e below (T12.setTop (mkF m 19 #[.val (.ref a1), .val (.ref x0_), .val (.ref x1_), .val .null] [])) _
    exact X12.returnOut hx Bd.returns (hb hby d5_19) hr
  · show own_Qa3 Z a1 x0_ x1_ h0 n0 _ T12.heap _
    rw [e12]
    exact ⟨rfl, N12, K12, f14, f15⟩
def own_Qa4 (Z : State) (a1 x2_ : Addr) (h0 : Heap) (n0 : Nat) (v : Option Value) (h : Heap) (L : List Loc) : Prop := v = none ∧ Fr n0 L ∧ Keep h0 h [a1] ∧ (Fld Z h a1 "com/example/pending_actions/pendingactions/policy/Assessment" "tier" "Lcom/example/pending_actions/pendingactions/policy/RiskTier;" .null) ∧ (Fld Z h a1 "com/example/pending_actions/pendingactions/policy/Assessment" "decider" "Ljava/lang/String;" .null)
theorem ef_5_10 (m : MethodId) (x0 : Addr) (x3 : Addr) : entryFrame m #[(.ref x0), .null, .null, (.ref x3)] 4 = mkF m 0 #[.val (.ref x0), .val .null, .val .null, .val (.ref x3)] [] := by first | (simp [entryFrame, mkF, argsToLocals, Value.category]; done) | rfl
set_option maxRecDepth 65536 in
set_option maxHeartbeats 40000000 in
theorem r_ai4 (l : Launch) (Z : State) (a0 : Array Value) (hw : ∀ d ∈ tables_1, d.before a0 Z = true) (ws : List Jvm.Cond) (s_L1 s_L4 s_L3 s_L5 s_L2 : Addr) (cs1 : Int32) (h0 : Heap) (n0 : Nat) (O0 : Old Z n0 h0) (G : own_Ctx Z Z.heap s_L1 s_L4 s_L3 s_L5 s_L2 cs1) (a1 x2_ : Addr) (Ea : Exa Z h0 a1 "com/example/pending_actions/pendingactions/policy/Assessment") (ga : n0 ≤ a1) (F_tier : Fld Z h0 a1 "com/example/pending_actions/pendingactions/policy/Assessment" "tier" "Lcom/example/pending_actions/pendingactions/policy/RiskTier;" .null) (F_decider : Fld Z h0 a1 "com/example/pending_actions/pendingactions/policy/Assessment" "decider" "Ljava/lang/String;" .null) (F_policyVersion : Fld Z h0 a1 "com/example/pending_actions/pendingactions/policy/Assessment" "policyVersion" "Ljava/lang/String;" .null) :
    MetFree l (⟨"com/example/pending_actions/pendingactions/policy/Assessment", "<init>", "(Lcom/example/pending_actions/pendingactions/policy/RiskTier;Ljava/lang/String;Ljava/lang/String;)V"⟩ : MethodName) (head1 (Jvm.Cond.code (⟨"com/example/pending_actions/pendingactions/policy/Assessment", "<init>", "(Lcom/example/pending_actions/pendingactions/policy/RiskTier;Ljava/lang/String;Ljava/lang/String;)V"⟩ : MethodName) prog_13_method_1_code 4 none :: ws) ({ frames := 1, cells := 0, slots := 0, locals := 12 } : Room)) (fun a U => a = #[(.ref a1), .null, .null, (.ref x2_)] ∧ Z.Warmed39 U.vm ∧ U.heap = h0) (fun _ _ _ _ _ => True) (fun _ U o U' => ∃ v L, o = .returned v ∧ own_Qa4 Z a1 x2_ h0 n0 v U'.heap L ∧ FrameEnd U o U' L ({ frames := 1, cells := 0, slots := 0, locals := 12 } : Room).cells ({ frames := 1, cells := 0, slots := 0, locals := 12 } : Room).slots) := by
  have G0 := G
  obtain ⟨S_L1, E_L1, S_L4, E_L4, S_L3, E_L3, S_L5, E_L5, S_L2, E_L2, S_CS, N_CS⟩ := G
  refine MetFree.of_bodySF (plainFor_of_name pn_3) hisR ?_
  intro p e s m args below meth c s₁ Bd hml0 hP hK
  obtain ⟨rfl, hZ, hh⟩ := hP
  have hx := Bd.exec
  have hby := Bd.bytes
  have hml : c.maxLocals = 4 := hml0
  have hown : s.vm.findClass "com/example/pending_actions/pendingactions/policy/Assessment" = some m.cls := findClass_of_methodNamed Bd.named
  have hnm := (name_of_methodNamed Bd.named Bd.method).1
  have X0 : Stand p l e ({ frames := 1, cells := 0, slots := 0, locals := 12 } : Room) s m #[(.ref a1), .null, .null, (.ref x2_)] below meth c s₁ [] 0 0 := Stand.of_body Bd
  have e0 : s₁.heap = h0 := by rw [← hh, Bd.state]; rfl
  have N0 := Fr.nil n0
  have pre0 : ∀ t, Steps p.tables e below (s₁.setTop (mkF m 0 #[.val (.ref a1), .val .null, .val .null, .val (.ref x2_)] [])) t → Steps p.tables e below (s₁.setTop (entryFrame m #[(.ref a1), .null, .null, (.ref x2_)] 4)) t := fun t k => castTop (ef_5_10 m a1 x2_) k
  obtain ⟨T1, X1, e1, st1⟩ := initO X0 hx hZ hown (hw _ (List.mem_of_getElem? (i := 33) rfl)) (hw _ (List.mem_of_getElem? (i := 17) rfl)) (hw _ (List.mem_of_getElem? (i := 18) rfl)) e0 (g := (mkF m 1 #[.val (.ref a1), .val .null, .val .null, .val (.ref x2_)] [(.ref a1)])) rfl (by rw [hml]; rfl) rfl (hb hby d5_1) (by decide) (W := 0) (by show 2 * 0 + _ ≤ _; exact Nat.le_of_eq rfl) (by decide)
  obtain ⟨T2, h2, X2, e2, W2, st2⟩ := putF X1 hx hZ hown (host := "") (Or.inl (hw _ (List.mem_of_getElem? (i := 34) rfl))) Via.refl e1 F_tier Ea (Or.inr ⟨(hw _ (List.mem_of_getElem? (i := 35) rfl)), rfl, hnm⟩) (hw _ (List.mem_of_getElem? (i := 28) rfl)) (ty := (.object "com/example/pending_actions/pendingactions/policy/RiskTier")) (by decide) rfl rfl (g := (mkF m 6 #[.val (.ref a1), .val .null, .val .null, .val (.ref x2_)] [.null, (.ref a1)])) rfl rfl (hb hby d5_6)
  have f3 := Ea.wr W2
  have f4 := F_decider.other W2 (Or.inr (slot_ne (Or.inr (hw _ (List.mem_of_getElem? (i := 37) rfl))) (Or.inr (hw _ (List.mem_of_getElem? (i := 35) rfl))) (by decide) (t := (.object "java/lang/String")) (t' := (.object "com/example/pending_actions/pendingactions/policy/RiskTier")) (by decide) (by decide)))
  have f5 := F_policyVersion.other W2 (Or.inr (slot_ne (Or.inr (hw _ (List.mem_of_getElem? (i := 39) rfl))) (Or.inr (hw _ (List.mem_of_getElem? (i := 35) rfl))) (by decide) (t := (.object "java/lang/String")) (t' := (.object "com/example/pending_actions/pendingactions/policy/RiskTier")) (by decide) (by decide)))
  have O2 := O0.wr W2 ga
  have K2 : Keep h0 h2 [a1] := (Keep.refl h0 [a1]).wr W2 (Or.inl (List.mem_of_getElem? (i := 0) rfl))
  have N2 := Fr.snoc X2 N0 ga
  have f6 := F_tier.same W2
  obtain ⟨T7, h7, X7, e7, W7, st7⟩ := putF X2 hx hZ hown (host := "") (Or.inl (hw _ (List.mem_of_getElem? (i := 36) rfl))) Via.refl e2 f4 f3 (Or.inr ⟨(hw _ (List.mem_of_getElem? (i := 37) rfl)), rfl, hnm⟩) (hw _ (List.mem_of_getElem? (i := 28) rfl)) (ty := (.object "java/lang/String")) (by decide) rfl rfl (g := (mkF m 11 #[.val (.ref a1), .val .null, .val .null, .val (.ref x2_)] [.null, (.ref a1)])) rfl rfl (hb hby d5_11)
  have f8 := f3.wr W7
  have f9 := f6.other W7 (Or.inr (slot_ne (Or.inr (hw _ (List.mem_of_getElem? (i := 35) rfl))) (Or.inr (hw _ (List.mem_of_getElem? (i := 37) rfl))) (by decide) (t := (.object "com/example/pending_actions/pendingactions/policy/RiskTier")) (t' := (.object "java/lang/String")) (by decide) (by decide)))
  have f10 := f5.other W7 (Or.inr (slot_ne (Or.inr (hw _ (List.mem_of_getElem? (i := 39) rfl))) (Or.inr (hw _ (List.mem_of_getElem? (i := 37) rfl))) (by decide) (t := (.object "java/lang/String")) (t' := (.object "java/lang/String")) (by decide) (by decide)))
  have O7 := O2.wr W7 ga
  have K7 : Keep h0 h7 [a1] := K2.wr W7 (Or.inl (List.mem_of_getElem? (i := 0) rfl))
  have N7 := Fr.snoc X7 N2 ga
  have f11 := f4.same W7
  obtain ⟨T12, h12, X12, e12, W12, st12⟩ := putF X7 hx hZ hown (host := "") (Or.inl (hw _ (List.mem_of_getElem? (i := 38) rfl))) Via.refl e7 f10 f8 (Or.inr ⟨(hw _ (List.mem_of_getElem? (i := 39) rfl)), rfl, hnm⟩) (hw _ (List.mem_of_getElem? (i := 28) rfl)) (ty := (.object "java/lang/String")) (by decide) rfl rfl (g := (mkF m 16 #[.val (.ref a1), .val .null, .val .null, .val (.ref x2_)] [(.ref x2_), (.ref a1)])) rfl rfl (hb hby d5_16)
  have f13 := f8.wr W12
  have f14 := f9.other W12 (Or.inr (slot_ne (Or.inr (hw _ (List.mem_of_getElem? (i := 35) rfl))) (Or.inr (hw _ (List.mem_of_getElem? (i := 39) rfl))) (by decide) (t := (.object "com/example/pending_actions/pendingactions/policy/RiskTier")) (t' := (.object "java/lang/String")) (by decide) (by decide)))
  have f15 := f11.other W12 (Or.inr (slot_ne (Or.inr (hw _ (List.mem_of_getElem? (i := 37) rfl))) (Or.inr (hw _ (List.mem_of_getElem? (i := 39) rfl))) (by decide) (t := (.object "java/lang/String")) (t' := (.object "java/lang/String")) (by decide) (by decide)))
  have O12 := O7.wr W12 ga
  have K12 : Keep h0 h12 [a1] := K7.wr W12 (Or.inl (List.mem_of_getElem? (i := 0) rfl))
  have N12 := Fr.snoc X12 N7 ga
  have f16 := f10.same W12
  obtain ⟨fs, hr, hrun, hended, hW, hsame⟩ := X12.leave (v := none) (fun _ => rfl)
  refine ⟨_, _, pre0 _ ?_, hrun, hended, _, _, rfl, ?_, ⟨_, rfl⟩, hW, hsame.mono (by decide) (by decide)⟩
  · show Steps p.tables e below (s₁.setTop (mkF m 0 #[.val (.ref a1), .val .null, .val .null, .val (.ref x2_)] [])) _
    refine XS.aloadN X0.here hx rfl (hb hby d5_0) rfl rfl ?_
    show Steps p.tables e below (s₁.setTop (mkF m 1 #[.val (.ref a1), .val .null, .val .null, .val (.ref x2_)] [(.ref a1)])) _
    refine st1 _ ?_
    show Steps p.tables e below (T1.setTop (mkF m 4 #[.val (.ref a1), .val .null, .val .null, .val (.ref x2_)] [])) _
    refine XS.aloadN X1.here hx rfl (hb hby d5_4) rfl rfl ?_
    refine XS.aloadN X1.here hx rfl (hb hby d5_5) rfl rfl ?_
    show Steps p.tables e below (T1.setTop (mkF m 6 #[.val (.ref a1), .val .null, .val .null, .val (.ref x2_)] [.null, (.ref a1)])) _
    refine st2 _ ?_
    show Steps p.tables e below (T2.setTop (mkF m 9 #[.val (.ref a1), .val .null, .val .null, .val (.ref x2_)] [])) _
    refine XS.aloadN X2.here hx rfl (hb hby d5_9) rfl rfl ?_
    refine XS.aloadN X2.here hx rfl (hb hby d5_10) rfl rfl ?_
    show Steps p.tables e below (T2.setTop (mkF m 11 #[.val (.ref a1), .val .null, .val .null, .val (.ref x2_)] [.null, (.ref a1)])) _
    refine st7 _ ?_
    show Steps p.tables e below (T7.setTop (mkF m 14 #[.val (.ref a1), .val .null, .val .null, .val (.ref x2_)] [])) _
    refine XS.aloadN X7.here hx rfl (hb hby d5_14) rfl rfl ?_
    refine XS.aloadN X7.here hx rfl (hb hby d5_15) rfl rfl ?_
    show Steps p.tables e below (T7.setTop (mkF m 16 #[.val (.ref a1), .val .null, .val .null, .val (.ref x2_)] [(.ref x2_), (.ref a1)])) _
    refine st12 _ ?_
    show Steps p.tables e below (T12.setTop (mkF m 19 #[.val (.ref a1), .val .null, .val .null, .val (.ref x2_)] [])) _
    exact X12.returnOut hx Bd.returns (hb hby d5_19) hr
  · show own_Qa4 Z a1 x2_ h0 n0 _ T12.heap _
    rw [e12]
    exact ⟨rfl, N12, K12, f14, f15⟩
def own_Qa5 (Z : State) (a1 x0_ x2_ : Addr) (h0 : Heap) (n0 : Nat) (v : Option Value) (h : Heap) (L : List Loc) : Prop := v = none ∧ Fr n0 L ∧ Keep h0 h [a1] ∧ (Fld Z h a1 "com/example/pending_actions/pendingactions/policy/Assessment" "tier" "Lcom/example/pending_actions/pendingactions/policy/RiskTier;" (.ref x0_)) ∧ (Fld Z h a1 "com/example/pending_actions/pendingactions/policy/Assessment" "decider" "Ljava/lang/String;" .null)
theorem ef_5_11 (m : MethodId) (x0 : Addr) (x1 : Addr) (x3 : Addr) : entryFrame m #[(.ref x0), (.ref x1), .null, (.ref x3)] 4 = mkF m 0 #[.val (.ref x0), .val (.ref x1), .val .null, .val (.ref x3)] [] := by first | (simp [entryFrame, mkF, argsToLocals, Value.category]; done) | rfl
set_option maxRecDepth 65536 in
set_option maxHeartbeats 40000000 in
theorem r_ai5 (l : Launch) (Z : State) (a0 : Array Value) (hw : ∀ d ∈ tables_1, d.before a0 Z = true) (ws : List Jvm.Cond) (s_L1 s_L4 s_L3 s_L5 s_L2 : Addr) (cs1 : Int32) (h0 : Heap) (n0 : Nat) (O0 : Old Z n0 h0) (G : own_Ctx Z Z.heap s_L1 s_L4 s_L3 s_L5 s_L2 cs1) (a1 x0_ x2_ : Addr) (Ea : Exa Z h0 a1 "com/example/pending_actions/pendingactions/policy/Assessment") (ga : n0 ≤ a1) (F_tier : Fld Z h0 a1 "com/example/pending_actions/pendingactions/policy/Assessment" "tier" "Lcom/example/pending_actions/pendingactions/policy/RiskTier;" .null) (F_decider : Fld Z h0 a1 "com/example/pending_actions/pendingactions/policy/Assessment" "decider" "Ljava/lang/String;" .null) (F_policyVersion : Fld Z h0 a1 "com/example/pending_actions/pendingactions/policy/Assessment" "policyVersion" "Ljava/lang/String;" .null) :
    MetFree l (⟨"com/example/pending_actions/pendingactions/policy/Assessment", "<init>", "(Lcom/example/pending_actions/pendingactions/policy/RiskTier;Ljava/lang/String;Ljava/lang/String;)V"⟩ : MethodName) (head1 (Jvm.Cond.code (⟨"com/example/pending_actions/pendingactions/policy/Assessment", "<init>", "(Lcom/example/pending_actions/pendingactions/policy/RiskTier;Ljava/lang/String;Ljava/lang/String;)V"⟩ : MethodName) prog_13_method_1_code 4 none :: ws) ({ frames := 1, cells := 0, slots := 0, locals := 12 } : Room)) (fun a U => a = #[(.ref a1), (.ref x0_), .null, (.ref x2_)] ∧ Z.Warmed39 U.vm ∧ U.heap = h0) (fun _ _ _ _ _ => True) (fun _ U o U' => ∃ v L, o = .returned v ∧ own_Qa5 Z a1 x0_ x2_ h0 n0 v U'.heap L ∧ FrameEnd U o U' L ({ frames := 1, cells := 0, slots := 0, locals := 12 } : Room).cells ({ frames := 1, cells := 0, slots := 0, locals := 12 } : Room).slots) := by
  have G0 := G
  obtain ⟨S_L1, E_L1, S_L4, E_L4, S_L3, E_L3, S_L5, E_L5, S_L2, E_L2, S_CS, N_CS⟩ := G
  refine MetFree.of_bodySF (plainFor_of_name pn_3) hisR ?_
  intro p e s m args below meth c s₁ Bd hml0 hP hK
  obtain ⟨rfl, hZ, hh⟩ := hP
  have hx := Bd.exec
  have hby := Bd.bytes
  have hml : c.maxLocals = 4 := hml0
  have hown : s.vm.findClass "com/example/pending_actions/pendingactions/policy/Assessment" = some m.cls := findClass_of_methodNamed Bd.named
  have hnm := (name_of_methodNamed Bd.named Bd.method).1
  have X0 : Stand p l e ({ frames := 1, cells := 0, slots := 0, locals := 12 } : Room) s m #[(.ref a1), (.ref x0_), .null, (.ref x2_)] below meth c s₁ [] 0 0 := Stand.of_body Bd
  have e0 : s₁.heap = h0 := by rw [← hh, Bd.state]; rfl
  have N0 := Fr.nil n0
  have pre0 : ∀ t, Steps p.tables e below (s₁.setTop (mkF m 0 #[.val (.ref a1), .val (.ref x0_), .val .null, .val (.ref x2_)] [])) t → Steps p.tables e below (s₁.setTop (entryFrame m #[(.ref a1), (.ref x0_), .null, (.ref x2_)] 4)) t := fun t k => castTop (ef_5_11 m a1 x0_ x2_) k
  obtain ⟨T1, X1, e1, st1⟩ := initO X0 hx hZ hown (hw _ (List.mem_of_getElem? (i := 33) rfl)) (hw _ (List.mem_of_getElem? (i := 17) rfl)) (hw _ (List.mem_of_getElem? (i := 18) rfl)) e0 (g := (mkF m 1 #[.val (.ref a1), .val (.ref x0_), .val .null, .val (.ref x2_)] [(.ref a1)])) rfl (by rw [hml]; rfl) rfl (hb hby d5_1) (by decide) (W := 0) (by show 2 * 0 + _ ≤ _; exact Nat.le_of_eq rfl) (by decide)
  obtain ⟨T2, h2, X2, e2, W2, st2⟩ := putF X1 hx hZ hown (host := "") (Or.inl (hw _ (List.mem_of_getElem? (i := 34) rfl))) Via.refl e1 F_tier Ea (Or.inr ⟨(hw _ (List.mem_of_getElem? (i := 35) rfl)), rfl, hnm⟩) (hw _ (List.mem_of_getElem? (i := 28) rfl)) (ty := (.object "com/example/pending_actions/pendingactions/policy/RiskTier")) (by decide) rfl rfl (g := (mkF m 6 #[.val (.ref a1), .val (.ref x0_), .val .null, .val (.ref x2_)] [(.ref x0_), (.ref a1)])) rfl rfl (hb hby d5_6)
  have f3 := Ea.wr W2
  have f4 := F_decider.other W2 (Or.inr (slot_ne (Or.inr (hw _ (List.mem_of_getElem? (i := 37) rfl))) (Or.inr (hw _ (List.mem_of_getElem? (i := 35) rfl))) (by decide) (t := (.object "java/lang/String")) (t' := (.object "com/example/pending_actions/pendingactions/policy/RiskTier")) (by decide) (by decide)))
  have f5 := F_policyVersion.other W2 (Or.inr (slot_ne (Or.inr (hw _ (List.mem_of_getElem? (i := 39) rfl))) (Or.inr (hw _ (List.mem_of_getElem? (i := 35) rfl))) (by decide) (t := (.object "java/lang/String")) (t' := (.object "com/example/pending_actions/pendingactions/policy/RiskTier")) (by decide) (by decide)))
  have O2 := O0.wr W2 ga
  have K2 : Keep h0 h2 [a1] := (Keep.refl h0 [a1]).wr W2 (Or.inl (List.mem_of_getElem? (i := 0) rfl))
  have N2 := Fr.snoc X2 N0 ga
  have f6 := F_tier.same W2
  obtain ⟨T7, h7, X7, e7, W7, st7⟩ := putF X2 hx hZ hown (host := "") (Or.inl (hw _ (List.mem_of_getElem? (i := 36) rfl))) Via.refl e2 f4 f3 (Or.inr ⟨(hw _ (List.mem_of_getElem? (i := 37) rfl)), rfl, hnm⟩) (hw _ (List.mem_of_getElem? (i := 28) rfl)) (ty := (.object "java/lang/String")) (by decide) rfl rfl (g := (mkF m 11 #[.val (.ref a1), .val (.ref x0_), .val .null, .val (.ref x2_)] [.null, (.ref a1)])) rfl rfl (hb hby d5_11)
  have f8 := f3.wr W7
  have f9 := f6.other W7 (Or.inr (slot_ne (Or.inr (hw _ (List.mem_of_getElem? (i := 35) rfl))) (Or.inr (hw _ (List.mem_of_getElem? (i := 37) rfl))) (by decide) (t := (.object "com/example/pending_actions/pendingactions/policy/RiskTier")) (t' := (.object "java/lang/String")) (by decide) (by decide)))
  have f10 := f5.other W7 (Or.inr (slot_ne (Or.inr (hw _ (List.mem_of_getElem? (i := 39) rfl))) (Or.inr (hw _ (List.mem_of_getElem? (i := 37) rfl))) (by decide) (t := (.object "java/lang/String")) (t' := (.object "java/lang/String")) (by decide) (by decide)))
  have O7 := O2.wr W7 ga
  have K7 : Keep h0 h7 [a1] := K2.wr W7 (Or.inl (List.mem_of_getElem? (i := 0) rfl))
  have N7 := Fr.snoc X7 N2 ga
  have f11 := f4.same W7
  obtain ⟨T12, h12, X12, e12, W12, st12⟩ := putF X7 hx hZ hown (host := "") (Or.inl (hw _ (List.mem_of_getElem? (i := 38) rfl))) Via.refl e7 f10 f8 (Or.inr ⟨(hw _ (List.mem_of_getElem? (i := 39) rfl)), rfl, hnm⟩) (hw _ (List.mem_of_getElem? (i := 28) rfl)) (ty := (.object "java/lang/String")) (by decide) rfl rfl (g := (mkF m 16 #[.val (.ref a1), .val (.ref x0_), .val .null, .val (.ref x2_)] [(.ref x2_), (.ref a1)])) rfl rfl (hb hby d5_16)
  have f13 := f8.wr W12
  have f14 := f9.other W12 (Or.inr (slot_ne (Or.inr (hw _ (List.mem_of_getElem? (i := 35) rfl))) (Or.inr (hw _ (List.mem_of_getElem? (i := 39) rfl))) (by decide) (t := (.object "com/example/pending_actions/pendingactions/policy/RiskTier")) (t' := (.object "java/lang/String")) (by decide) (by decide)))
  have f15 := f11.other W12 (Or.inr (slot_ne (Or.inr (hw _ (List.mem_of_getElem? (i := 37) rfl))) (Or.inr (hw _ (List.mem_of_getElem? (i := 39) rfl))) (by decide) (t := (.object "java/lang/String")) (t' := (.object "java/lang/String")) (by decide) (by decide)))
  have O12 := O7.wr W12 ga
  have K12 : Keep h0 h12 [a1] := K7.wr W12 (Or.inl (List.mem_of_getElem? (i := 0) rfl))
  have N12 := Fr.snoc X12 N7 ga
  have f16 := f10.same W12
  obtain ⟨fs, hr, hrun, hended, hW, hsame⟩ := X12.leave (v := none) (fun _ => rfl)
  refine ⟨_, _, pre0 _ ?_, hrun, hended, _, _, rfl, ?_, ⟨_, rfl⟩, hW, hsame.mono (by decide) (by decide)⟩
  · show Steps p.tables e below (s₁.setTop (mkF m 0 #[.val (.ref a1), .val (.ref x0_), .val .null, .val (.ref x2_)] [])) _
    refine XS.aloadN X0.here hx rfl (hb hby d5_0) rfl rfl ?_
    show Steps p.tables e below (s₁.setTop (mkF m 1 #[.val (.ref a1), .val (.ref x0_), .val .null, .val (.ref x2_)] [(.ref a1)])) _
    refine st1 _ ?_
    show Steps p.tables e below (T1.setTop (mkF m 4 #[.val (.ref a1), .val (.ref x0_), .val .null, .val (.ref x2_)] [])) _
    refine XS.aloadN X1.here hx rfl (hb hby d5_4) rfl rfl ?_
    refine XS.aloadN X1.here hx rfl (hb hby d5_5) rfl rfl ?_
    show Steps p.tables e below (T1.setTop (mkF m 6 #[.val (.ref a1), .val (.ref x0_), .val .null, .val (.ref x2_)] [(.ref x0_), (.ref a1)])) _
    refine st2 _ ?_
    show Steps p.tables e below (T2.setTop (mkF m 9 #[.val (.ref a1), .val (.ref x0_), .val .null, .val (.ref x2_)] [])) _
    refine XS.aloadN X2.here hx rfl (hb hby d5_9) rfl rfl ?_
    refine XS.aloadN X2.here hx rfl (hb hby d5_10) rfl rfl ?_
    show Steps p.tables e below (T2.setTop (mkF m 11 #[.val (.ref a1), .val (.ref x0_), .val .null, .val (.ref x2_)] [.null, (.ref a1)])) _
    refine st7 _ ?_
    show Steps p.tables e below (T7.setTop (mkF m 14 #[.val (.ref a1), .val (.ref x0_), .val .null, .val (.ref x2_)] [])) _
    refine XS.aloadN X7.here hx rfl (hb hby d5_14) rfl rfl ?_
    refine XS.aloadN X7.here hx rfl (hb hby d5_15) rfl rfl ?_
    show Steps p.tables e below (T7.setTop (mkF m 16 #[.val (.ref a1), .val (.ref x0_), .val .null, .val (.ref x2_)] [(.ref x2_), (.ref a1)])) _
    refine st12 _ ?_
    show Steps p.tables e below (T12.setTop (mkF m 19 #[.val (.ref a1), .val (.ref x0_), .val .null, .val (.ref x2_)] [])) _
    exact X12.returnOut hx Bd.returns (hb hby d5_19) hr
  · show own_Qa5 Z a1 x0_ x2_ h0 n0 _ T12.heap _
    rw [e12]
    exact ⟨rfl, N12, K12, f14, f15⟩
def own_Qa6 (Z : State) (a1 x1_ x2_ : Addr) (h0 : Heap) (n0 : Nat) (v : Option Value) (h : Heap) (L : List Loc) : Prop := v = none ∧ Fr n0 L ∧ Keep h0 h [a1] ∧ (Fld Z h a1 "com/example/pending_actions/pendingactions/policy/Assessment" "tier" "Lcom/example/pending_actions/pendingactions/policy/RiskTier;" .null) ∧ (Fld Z h a1 "com/example/pending_actions/pendingactions/policy/Assessment" "decider" "Ljava/lang/String;" (.ref x1_))
theorem ef_5_12 (m : MethodId) (x0 : Addr) (x2 : Addr) (x3 : Addr) : entryFrame m #[(.ref x0), .null, (.ref x2), (.ref x3)] 4 = mkF m 0 #[.val (.ref x0), .val .null, .val (.ref x2), .val (.ref x3)] [] := by first | (simp [entryFrame, mkF, argsToLocals, Value.category]; done) | rfl
set_option maxRecDepth 65536 in
set_option maxHeartbeats 40000000 in
theorem r_ai6 (l : Launch) (Z : State) (a0 : Array Value) (hw : ∀ d ∈ tables_1, d.before a0 Z = true) (ws : List Jvm.Cond) (s_L1 s_L4 s_L3 s_L5 s_L2 : Addr) (cs1 : Int32) (h0 : Heap) (n0 : Nat) (O0 : Old Z n0 h0) (G : own_Ctx Z Z.heap s_L1 s_L4 s_L3 s_L5 s_L2 cs1) (a1 x1_ x2_ : Addr) (Ea : Exa Z h0 a1 "com/example/pending_actions/pendingactions/policy/Assessment") (ga : n0 ≤ a1) (F_tier : Fld Z h0 a1 "com/example/pending_actions/pendingactions/policy/Assessment" "tier" "Lcom/example/pending_actions/pendingactions/policy/RiskTier;" .null) (F_decider : Fld Z h0 a1 "com/example/pending_actions/pendingactions/policy/Assessment" "decider" "Ljava/lang/String;" .null) (F_policyVersion : Fld Z h0 a1 "com/example/pending_actions/pendingactions/policy/Assessment" "policyVersion" "Ljava/lang/String;" .null) :
    MetFree l (⟨"com/example/pending_actions/pendingactions/policy/Assessment", "<init>", "(Lcom/example/pending_actions/pendingactions/policy/RiskTier;Ljava/lang/String;Ljava/lang/String;)V"⟩ : MethodName) (head1 (Jvm.Cond.code (⟨"com/example/pending_actions/pendingactions/policy/Assessment", "<init>", "(Lcom/example/pending_actions/pendingactions/policy/RiskTier;Ljava/lang/String;Ljava/lang/String;)V"⟩ : MethodName) prog_13_method_1_code 4 none :: ws) ({ frames := 1, cells := 0, slots := 0, locals := 12 } : Room)) (fun a U => a = #[(.ref a1), .null, (.ref x1_), (.ref x2_)] ∧ Z.Warmed39 U.vm ∧ U.heap = h0) (fun _ _ _ _ _ => True) (fun _ U o U' => ∃ v L, o = .returned v ∧ own_Qa6 Z a1 x1_ x2_ h0 n0 v U'.heap L ∧ FrameEnd U o U' L ({ frames := 1, cells := 0, slots := 0, locals := 12 } : Room).cells ({ frames := 1, cells := 0, slots := 0, locals := 12 } : Room).slots) := by
  have G0 := G
  obtain ⟨S_L1, E_L1, S_L4, E_L4, S_L3, E_L3, S_L5, E_L5, S_L2, E_L2, S_CS, N_CS⟩ := G
  refine MetFree.of_bodySF (plainFor_of_name pn_3) hisR ?_
  intro p e s m args below meth c s₁ Bd hml0 hP hK
  obtain ⟨rfl, hZ, hh⟩ := hP
  have hx := Bd.exec
  have hby := Bd.bytes
  have hml : c.maxLocals = 4 := hml0
  have hown : s.vm.findClass "com/example/pending_actions/pendingactions/policy/Assessment" = some m.cls := findClass_of_methodNamed Bd.named
  have hnm := (name_of_methodNamed Bd.named Bd.method).1
  have X0 : Stand p l e ({ frames := 1, cells := 0, slots := 0, locals := 12 } : Room) s m #[(.ref a1), .null, (.ref x1_), (.ref x2_)] below meth c s₁ [] 0 0 := Stand.of_body Bd
  have e0 : s₁.heap = h0 := by rw [← hh, Bd.state]; rfl
  have N0 := Fr.nil n0
  have pre0 : ∀ t, Steps p.tables e below (s₁.setTop (mkF m 0 #[.val (.ref a1), .val .null, .val (.ref x1_), .val (.ref x2_)] [])) t → Steps p.tables e below (s₁.setTop (entryFrame m #[(.ref a1), .null, (.ref x1_), (.ref x2_)] 4)) t := fun t k => castTop (ef_5_12 m a1 x1_ x2_) k
  obtain ⟨T1, X1, e1, st1⟩ := initO X0 hx hZ hown (hw _ (List.mem_of_getElem? (i := 33) rfl)) (hw _ (List.mem_of_getElem? (i := 17) rfl)) (hw _ (List.mem_of_getElem? (i := 18) rfl)) e0 (g := (mkF m 1 #[.val (.ref a1), .val .null, .val (.ref x1_), .val (.ref x2_)] [(.ref a1)])) rfl (by rw [hml]; rfl) rfl (hb hby d5_1) (by decide) (W := 0) (by show 2 * 0 + _ ≤ _; exact Nat.le_of_eq rfl) (by decide)
  obtain ⟨T2, h2, X2, e2, W2, st2⟩ := putF X1 hx hZ hown (host := "") (Or.inl (hw _ (List.mem_of_getElem? (i := 34) rfl))) Via.refl e1 F_tier Ea (Or.inr ⟨(hw _ (List.mem_of_getElem? (i := 35) rfl)), rfl, hnm⟩) (hw _ (List.mem_of_getElem? (i := 28) rfl)) (ty := (.object "com/example/pending_actions/pendingactions/policy/RiskTier")) (by decide) rfl rfl (g := (mkF m 6 #[.val (.ref a1), .val .null, .val (.ref x1_), .val (.ref x2_)] [.null, (.ref a1)])) rfl rfl (hb hby d5_6)
  have f3 := Ea.wr W2
  have f4 := F_decider.other W2 (Or.inr (slot_ne (Or.inr (hw _ (List.mem_of_getElem? (i := 37) rfl))) (Or.inr (hw _ (List.mem_of_getElem? (i := 35) rfl))) (by decide) (t := (.object "java/lang/String")) (t' := (.object "com/example/pending_actions/pendingactions/policy/RiskTier")) (by decide) (by decide)))
  have f5 := F_policyVersion.other W2 (Or.inr (slot_ne (Or.inr (hw _ (List.mem_of_getElem? (i := 39) rfl))) (Or.inr (hw _ (List.mem_of_getElem? (i := 35) rfl))) (by decide) (t := (.object "java/lang/String")) (t' := (.object "com/example/pending_actions/pendingactions/policy/RiskTier")) (by decide) (by decide)))
  have O2 := O0.wr W2 ga
  have K2 : Keep h0 h2 [a1] := (Keep.refl h0 [a1]).wr W2 (Or.inl (List.mem_of_getElem? (i := 0) rfl))
  have N2 := Fr.snoc X2 N0 ga
  have f6 := F_tier.same W2
  obtain ⟨T7, h7, X7, e7, W7, st7⟩ := putF X2 hx hZ hown (host := "") (Or.inl (hw _ (List.mem_of_getElem? (i := 36) rfl))) Via.refl e2 f4 f3 (Or.inr ⟨(hw _ (List.mem_of_getElem? (i := 37) rfl)), rfl, hnm⟩) (hw _ (List.mem_of_getElem? (i := 28) rfl)) (ty := (.object "java/lang/String")) (by decide) rfl rfl (g := (mkF m 11 #[.val (.ref a1), .val .null, .val (.ref x1_), .val (.ref x2_)] [(.ref x1_), (.ref a1)])) rfl rfl (hb hby d5_11)
  have f8 := f3.wr W7
  have f9 := f6.other W7 (Or.inr (slot_ne (Or.inr (hw _ (List.mem_of_getElem? (i := 35) rfl))) (Or.inr (hw _ (List.mem_of_getElem? (i := 37) rfl))) (by decide) (t := (.object "com/example/pending_actions/pendingactions/policy/RiskTier")) (t' := (.object "java/lang/String")) (by decide) (by decide)))
  have f10 := f5.other W7 (Or.inr (slot_ne (Or.inr (hw _ (List.mem_of_getElem? (i := 39) rfl))) (Or.inr (hw _ (List.mem_of_getElem? (i := 37) rfl))) (by decide) (t := (.object "java/lang/String")) (t' := (.object "java/lang/String")) (by decide) (by decide)))
  have O7 := O2.wr W7 ga
  have K7 : Keep h0 h7 [a1] := K2.wr W7 (Or.inl (List.mem_of_getElem? (i := 0) rfl))
  have N7 := Fr.snoc X7 N2 ga
  have f11 := f4.same W7
  obtain ⟨T12, h12, X12, e12, W12, st12⟩ := putF X7 hx hZ hown (host := "") (Or.inl (hw _ (List.mem_of_getElem? (i := 38) rfl))) Via.refl e7 f10 f8 (Or.inr ⟨(hw _ (List.mem_of_getElem? (i := 39) rfl)), rfl, hnm⟩) (hw _ (List.mem_of_getElem? (i := 28) rfl)) (ty := (.object "java/lang/String")) (by decide) rfl rfl (g := (mkF m 16 #[.val (.ref a1), .val .null, .val (.ref x1_), .val (.ref x2_)] [(.ref x2_), (.ref a1)])) rfl rfl (hb hby d5_16)
  have f13 := f8.wr W12
  have f14 := f9.other W12 (Or.inr (slot_ne (Or.inr (hw _ (List.mem_of_getElem? (i := 35) rfl))) (Or.inr (hw _ (List.mem_of_getElem? (i := 39) rfl))) (by decide) (t := (.object "com/example/pending_actions/pendingactions/policy/RiskTier")) (t' := (.object "java/lang/String")) (by decide) (by decide)))
  have f15 := f11.other W12 (Or.inr (slot_ne (Or.inr (hw _ (List.mem_of_getElem? (i := 37) rfl))) (Or.inr (hw _ (List.mem_of_getElem? (i := 39) rfl))) (by decide) (t := (.object "java/lang/String")) (t' := (.object "java/lang/String")) (by decide) (by decide)))
  have O12 := O7.wr W12 ga
  have K12 : Keep h0 h12 [a1] := K7.wr W12 (Or.inl (List.mem_of_getElem? (i := 0) rfl))
  have N12 := Fr.snoc X12 N7 ga
  have f16 := f10.same W12
  obtain ⟨fs, hr, hrun, hended, hW, hsame⟩ := X12.leave (v := none) (fun _ => rfl)
  refine ⟨_, _, pre0 _ ?_, hrun, hended, _, _, rfl, ?_, ⟨_, rfl⟩, hW, hsame.mono (by decide) (by decide)⟩
  · show Steps p.tables e below (s₁.setTop (mkF m 0 #[.val (.ref a1), .val .null, .val (.ref x1_), .val (.ref x2_)] [])) _
    refine XS.aloadN X0.here hx rfl (hb hby d5_0) rfl rfl ?_
    show Steps p.tables e below (s₁.setTop (mkF m 1 #[.val (.ref a1), .val .null, .val (.ref x1_), .val (.ref x2_)] [(.ref a1)])) _
    refine st1 _ ?_
    show Steps p.tables e below (T1.setTop (mkF m 4 #[.val (.ref a1), .val .null, .val (.ref x1_), .val (.ref x2_)] [])) _
    refine XS.aloadN X1.here hx rfl (hb hby d5_4) rfl rfl ?_
    refine XS.aloadN X1.here hx rfl (hb hby d5_5) rfl rfl ?_
    show Steps p.tables e below (T1.setTop (mkF m 6 #[.val (.ref a1), .val .null, .val (.ref x1_), .val (.ref x2_)] [.null, (.ref a1)])) _
    refine st2 _ ?_
    show Steps p.tables e below (T2.setTop (mkF m 9 #[.val (.ref a1), .val .null, .val (.ref x1_), .val (.ref x2_)] [])) _
    refine XS.aloadN X2.here hx rfl (hb hby d5_9) rfl rfl ?_
    refine XS.aloadN X2.here hx rfl (hb hby d5_10) rfl rfl ?_
    show Steps p.tables e below (T2.setTop (mkF m 11 #[.val (.ref a1), .val .null, .val (.ref x1_), .val (.ref x2_)] [(.ref x1_), (.ref a1)])) _
    refine st7 _ ?_
    show Steps p.tables e below (T7.setTop (mkF m 14 #[.val (.ref a1), .val .null, .val (.ref x1_), .val (.ref x2_)] [])) _
    refine XS.aloadN X7.here hx rfl (hb hby d5_14) rfl rfl ?_
    refine XS.aloadN X7.here hx rfl (hb hby d5_15) rfl rfl ?_
    show Steps p.tables e below (T7.setTop (mkF m 16 #[.val (.ref a1), .val .null, .val (.ref x1_), .val (.ref x2_)] [(.ref x2_), (.ref a1)])) _
    refine st12 _ ?_
    show Steps p.tables e below (T12.setTop (mkF m 19 #[.val (.ref a1), .val .null, .val (.ref x1_), .val (.ref x2_)] [])) _
    exact X12.returnOut hx Bd.returns (hb hby d5_19) hr
  · show own_Qa6 Z a1 x1_ x2_ h0 n0 _ T12.heap _
    rw [e12]
    exact ⟨rfl, N12, K12, f14, f15⟩
def own_Qa7 (Z : State) (a1 x0_ x1_ x2_ : Addr) (h0 : Heap) (n0 : Nat) (v : Option Value) (h : Heap) (L : List Loc) : Prop := v = none ∧ Fr n0 L ∧ Keep h0 h [a1] ∧ (Fld Z h a1 "com/example/pending_actions/pendingactions/policy/Assessment" "tier" "Lcom/example/pending_actions/pendingactions/policy/RiskTier;" (.ref x0_)) ∧ (Fld Z h a1 "com/example/pending_actions/pendingactions/policy/Assessment" "decider" "Ljava/lang/String;" (.ref x1_))
theorem ef_5_13 (m : MethodId) (x0 : Addr) (x1 : Addr) (x2 : Addr) (x3 : Addr) : entryFrame m #[(.ref x0), (.ref x1), (.ref x2), (.ref x3)] 4 = mkF m 0 #[.val (.ref x0), .val (.ref x1), .val (.ref x2), .val (.ref x3)] [] := by first | (simp [entryFrame, mkF, argsToLocals, Value.category]; done) | rfl
set_option maxRecDepth 65536 in
set_option maxHeartbeats 40000000 in
theorem r_ai7 (l : Launch) (Z : State) (a0 : Array Value) (hw : ∀ d ∈ tables_1, d.before a0 Z = true) (ws : List Jvm.Cond) (s_L1 s_L4 s_L3 s_L5 s_L2 : Addr) (cs1 : Int32) (h0 : Heap) (n0 : Nat) (O0 : Old Z n0 h0) (G : own_Ctx Z Z.heap s_L1 s_L4 s_L3 s_L5 s_L2 cs1) (a1 x0_ x1_ x2_ : Addr) (Ea : Exa Z h0 a1 "com/example/pending_actions/pendingactions/policy/Assessment") (ga : n0 ≤ a1) (F_tier : Fld Z h0 a1 "com/example/pending_actions/pendingactions/policy/Assessment" "tier" "Lcom/example/pending_actions/pendingactions/policy/RiskTier;" .null) (F_decider : Fld Z h0 a1 "com/example/pending_actions/pendingactions/policy/Assessment" "decider" "Ljava/lang/String;" .null) (F_policyVersion : Fld Z h0 a1 "com/example/pending_actions/pendingactions/policy/Assessment" "policyVersion" "Ljava/lang/String;" .null) :
    MetFree l (⟨"com/example/pending_actions/pendingactions/policy/Assessment", "<init>", "(Lcom/example/pending_actions/pendingactions/policy/RiskTier;Ljava/lang/String;Ljava/lang/String;)V"⟩ : MethodName) (head1 (Jvm.Cond.code (⟨"com/example/pending_actions/pendingactions/policy/Assessment", "<init>", "(Lcom/example/pending_actions/pendingactions/policy/RiskTier;Ljava/lang/String;Ljava/lang/String;)V"⟩ : MethodName) prog_13_method_1_code 4 none :: ws) ({ frames := 1, cells := 0, slots := 0, locals := 12 } : Room)) (fun a U => a = #[(.ref a1), (.ref x0_), (.ref x1_), (.ref x2_)] ∧ Z.Warmed39 U.vm ∧ U.heap = h0) (fun _ _ _ _ _ => True) (fun _ U o U' => ∃ v L, o = .returned v ∧ own_Qa7 Z a1 x0_ x1_ x2_ h0 n0 v U'.heap L ∧ FrameEnd U o U' L ({ frames := 1, cells := 0, slots := 0, locals := 12 } : Room).cells ({ frames := 1, cells := 0, slots := 0, locals := 12 } : Room).slots) := by
  have G0 := G
  obtain ⟨S_L1, E_L1, S_L4, E_L4, S_L3, E_L3, S_L5, E_L5, S_L2, E_L2, S_CS, N_CS⟩ := G
  refine MetFree.of_bodySF (plainFor_of_name pn_3) hisR ?_
  intro p e s m args below meth c s₁ Bd hml0 hP hK
  obtain ⟨rfl, hZ, hh⟩ := hP
  have hx := Bd.exec
  have hby := Bd.bytes
  have hml : c.maxLocals = 4 := hml0
  have hown : s.vm.findClass "com/example/pending_actions/pendingactions/policy/Assessment" = some m.cls := findClass_of_methodNamed Bd.named
  have hnm := (name_of_methodNamed Bd.named Bd.method).1
  have X0 : Stand p l e ({ frames := 1, cells := 0, slots := 0, locals := 12 } : Room) s m #[(.ref a1), (.ref x0_), (.ref x1_), (.ref x2_)] below meth c s₁ [] 0 0 := Stand.of_body Bd
  have e0 : s₁.heap = h0 := by rw [← hh, Bd.state]; rfl
  have N0 := Fr.nil n0
  have pre0 : ∀ t, Steps p.tables e below (s₁.setTop (mkF m 0 #[.val (.ref a1), .val (.ref x0_), .val (.ref x1_), .val (.ref x2_)] [])) t → Steps p.tables e below (s₁.setTop (entryFrame m #[(.ref a1), (.ref x0_), (.ref x1_), (.ref x2_)] 4)) t := fun t k => castTop (ef_5_13 m a1 x0_ x1_ x2_) k
  obtain ⟨T1, X1, e1, st1⟩ := initO X0 hx hZ hown (hw _ (List.mem_of_getElem? (i := 33) rfl)) (hw _ (List.mem_of_getElem? (i := 17) rfl)) (hw _ (List.mem_of_getElem? (i := 18) rfl)) e0 (g := (mkF m 1 #[.val (.ref a1), .val (.ref x0_), .val (.ref x1_), .val (.ref x2_)] [(.ref a1)])) rfl (by rw [hml]; rfl) rfl (hb hby d5_1) (by decide) (W := 0) (by show 2 * 0 + _ ≤ _; exact Nat.le_of_eq rfl) (by decide)
  obtain ⟨T2, h2, X2, e2, W2, st2⟩ := putF X1 hx hZ hown (host := "") (Or.inl (hw _ (List.mem_of_getElem? (i := 34) rfl))) Via.refl e1 F_tier Ea (Or.inr ⟨(hw _ (List.mem_of_getElem? (i := 35) rfl)), rfl, hnm⟩) (hw _ (List.mem_of_getElem? (i := 28) rfl)) (ty := (.object "com/example/pending_actions/pendingactions/policy/RiskTier")) (by decide) rfl rfl (g := (mkF m 6 #[.val (.ref a1), .val (.ref x0_), .val (.ref x1_), .val (.ref x2_)] [(.ref x0_), (.ref a1)])) rfl rfl (hb hby d5_6)
  have f3 := Ea.wr W2
  have f4 := F_decider.other W2 (Or.inr (slot_ne (Or.inr (hw _ (List.mem_of_getElem? (i := 37) rfl))) (Or.inr (hw _ (List.mem_of_getElem? (i := 35) rfl))) (by decide) (t := (.object "java/lang/String")) (t' := (.object "com/example/pending_actions/pendingactions/policy/RiskTier")) (by decide) (by decide)))
  have f5 := F_policyVersion.other W2 (Or.inr (slot_ne (Or.inr (hw _ (List.mem_of_getElem? (i := 39) rfl))) (Or.inr (hw _ (List.mem_of_getElem? (i := 35) rfl))) (by decide) (t := (.object "java/lang/String")) (t' := (.object "com/example/pending_actions/pendingactions/policy/RiskTier")) (by decide) (by decide)))
  have O2 := O0.wr W2 ga
  have K2 : Keep h0 h2 [a1] := (Keep.refl h0 [a1]).wr W2 (Or.inl (List.mem_of_getElem? (i := 0) rfl))
  have N2 := Fr.snoc X2 N0 ga
  have f6 := F_tier.same W2
  obtain ⟨T7, h7, X7, e7, W7, st7⟩ := putF X2 hx hZ hown (host := "") (Or.inl (hw _ (List.mem_of_getElem? (i := 36) rfl))) Via.refl e2 f4 f3 (Or.inr ⟨(hw _ (List.mem_of_getElem? (i := 37) rfl)), rfl, hnm⟩) (hw _ (List.mem_of_getElem? (i := 28) rfl)) (ty := (.object "java/lang/String")) (by decide) rfl rfl (g := (mkF m 11 #[.val (.ref a1), .val (.ref x0_), .val (.ref x1_), .val (.ref x2_)] [(.ref x1_), (.ref a1)])) rfl rfl (hb hby d5_11)
  have f8 := f3.wr W7
  have f9 := f6.other W7 (Or.inr (slot_ne (Or.inr (hw _ (List.mem_of_getElem? (i := 35) rfl))) (Or.inr (hw _ (List.mem_of_getElem? (i := 37) rfl))) (by decide) (t := (.object "com/example/pending_actions/pendingactions/policy/RiskTier")) (t' := (.object "java/lang/String")) (by decide) (by decide)))
  have f10 := f5.other W7 (Or.inr (slot_ne (Or.inr (hw _ (List.mem_of_getElem? (i := 39) rfl))) (Or.inr (hw _ (List.mem_of_getElem? (i := 37) rfl))) (by decide) (t := (.object "java/lang/String")) (t' := (.object "java/lang/String")) (by decide) (by decide)))
  have O7 := O2.wr W7 ga
  have K7 : Keep h0 h7 [a1] := K2.wr W7 (Or.inl (List.mem_of_getElem? (i := 0) rfl))
  have N7 := Fr.snoc X7 N2 ga
  have f11 := f4.same W7
  obtain ⟨T12, h12, X12, e12, W12, st12⟩ := putF X7 hx hZ hown (host := "") (Or.inl (hw _ (List.mem_of_getElem? (i := 38) rfl))) Via.refl e7 f10 f8 (Or.inr ⟨(hw _ (List.mem_of_getElem? (i := 39) rfl)), rfl, hnm⟩) (hw _ (List.mem_of_getElem? (i := 28) rfl)) (ty := (.object "java/lang/String")) (by decide) rfl rfl (g := (mkF m 16 #[.val (.ref a1), .val (.ref x0_), .val (.ref x1_), .val (.ref x2_)] [(.ref x2_), (.ref a1)])) rfl rfl (hb hby d5_16)
  have f13 := f8.wr W12
  have f14 := f9.other W12 (Or.inr (slot_ne (Or.inr (hw _ (List.mem_of_getElem? (i := 35) rfl))) (Or.inr (hw _ (List.mem_of_getElem? (i := 39) rfl))) (by decide) (t := (.object "com/example/pending_actions/pendingactions/policy/RiskTier")) (t' := (.object "java/lang/String")) (by decide) (by decide)))
  have f15 := f11.other W12 (Or.inr (slot_ne (Or.inr (hw _ (List.mem_of_getElem? (i := 37) rfl))) (Or.inr (hw _ (List.mem_of_getElem? (i := 39) rfl))) (by decide) (t := (.object "java/lang/String")) (t' := (.object "java/lang/String")) (by decide) (by decide)))
  have O12 := O7.wr W12 ga
  have K12 : Keep h0 h12 [a1] := K7.wr W12 (Or.inl (List.mem_of_getElem? (i := 0) rfl))
  have N12 := Fr.snoc X12 N7 ga
  have f16 := f10.same W12
  obtain ⟨fs, hr, hrun, hended, hW, hsame⟩ := X12.leave (v := none) (fun _ => rfl)
  refine ⟨_, _, pre0 _ ?_, hrun, hended, _, _, rfl, ?_, ⟨_, rfl⟩, hW, hsame.mono (by decide) (by decide)⟩
  · show Steps p.tables e below (s₁.setTop (mkF m 0 #[.val (.ref a1), .val (.ref x0_), .val (.ref x1_), .val (.ref x2_)] [])) _
    refine XS.aloadN X0.here hx rfl (hb hby d5_0) rfl rfl ?_
    show Steps p.tables e below (s₁.setTop (mkF m 1 #[.val (.ref a1), .val (.ref x0_), .val (.ref x1_), .val (.ref x2_)] [(.ref a1)])) _
    refine st1 _ ?_
    show Steps p.tables e below (T1.setTop (mkF m 4 #[.val (.ref a1), .val (.ref x0_), .val (.ref x1_), .val (.ref x2_)] [])) _
    refine XS.aloadN X1.here hx rfl (hb hby d5_4) rfl rfl ?_
    refine XS.aloadN X1.here hx rfl (hb hby d5_5) rfl rfl ?_
    show Steps p.tables e below (T1.setTop (mkF m 6 #[.val (.ref a1), .val (.ref x0_), .val (.ref x1_), .val (.ref x2_)] [(.ref x0_), (.ref a1)])) _
    refine st2 _ ?_
    show Steps p.tables e below (T2.setTop (mkF m 9 #[.val (.ref a1), .val (.ref x0_), .val (.ref x1_), .val (.ref x2_)] [])) _
    refine XS.aloadN X2.here hx rfl (hb hby d5_9) rfl rfl ?_
    refine XS.aloadN X2.here hx rfl (hb hby d5_10) rfl rfl ?_
    show Steps p.tables e below (T2.setTop (mkF m 11 #[.val (.ref a1), .val (.ref x0_), .val (.ref x1_), .val (.ref x2_)] [(.ref x1_), (.ref a1)])) _
    refine st7 _ ?_
    show Steps p.tables e below (T7.setTop (mkF m 14 #[.val (.ref a1), .val (.ref x0_), .val (.ref x1_), .val (.ref x2_)] [])) _
    refine XS.aloadN X7.here hx rfl (hb hby d5_14) rfl rfl ?_
    refine XS.aloadN X7.here hx rfl (hb hby d5_15) rfl rfl ?_
    show Steps p.tables e below (T7.setTop (mkF m 16 #[.val (.ref a1), .val (.ref x0_), .val (.ref x1_), .val (.ref x2_)] [(.ref x2_), (.ref a1)])) _
    refine st12 _ ?_
    show Steps p.tables e below (T12.setTop (mkF m 19 #[.val (.ref a1), .val (.ref x0_), .val (.ref x1_), .val (.ref x2_)] [])) _
    exact X12.returnOut hx Bd.returns (hb hby d5_19) hr
  · show own_Qa7 Z a1 x0_ x1_ x2_ h0 n0 _ T12.heap _
    rw [e12]
    exact ⟨rfl, N12, K12, f14, f15⟩
theorem d6_0 : decode prog_13_method_4_code 0 = .ok (.aload_n 0, 1) := by decide +kernel
theorem d6_1 : decode prog_13_method_4_code 1 = .ok (.getfield 7, 3) := by decide +kernel
theorem d6_4 : decode prog_13_method_4_code 4 = .ok (.ifnull 14, 3) := by decide +kernel
theorem d6_18 : decode prog_13_method_4_code 18 = .ok (.iconst 0, 1) := by decide +kernel
theorem d6_19 : decode prog_13_method_4_code 19 = .ok (.ireturn, 1) := by decide +kernel
theorem ef_6_14 (m : MethodId) (x0 : Addr) : entryFrame m #[(.ref x0)] 1 = mkF m 0 #[.val (.ref x0)] [] := by first | (simp [entryFrame, mkF, argsToLocals, Value.category]; done) | rfl
set_option maxRecDepth 65536 in
set_option maxHeartbeats 40000000 in
theorem r_aa0 (l : Launch) (Z : State) (a0 : Array Value) (hw : ∀ d ∈ tables_1, d.before a0 Z = true) (ws : List Jvm.Cond) (s_L1 s_L4 s_L3 s_L5 s_L2 : Addr) (cs1 : Int32) (h0 : Heap) (n0 : Nat) (O0 : Old Z n0 h0) (G : own_Ctx Z Z.heap s_L1 s_L4 s_L3 s_L5 s_L2 cs1) (a1  : Addr) (F_tier : Fld Z h0 a1 "com/example/pending_actions/pendingactions/policy/Assessment" "tier" "Lcom/example/pending_actions/pendingactions/policy/RiskTier;" .null) (F_decider : Fld Z h0 a1 "com/example/pending_actions/pendingactions/policy/Assessment" "decider" "Ljava/lang/String;" .null) :
    MetFree l (⟨"com/example/pending_actions/pendingactions/policy/Assessment", "isAutoApproved", "()Z"⟩ : MethodName) (head1 (Jvm.Cond.code (⟨"com/example/pending_actions/pendingactions/policy/Assessment", "isAutoApproved", "()Z"⟩ : MethodName) prog_13_method_4_code 1 (some .boolean) :: ws) ({ frames := 0, cells := 0, slots := 0, locals := 0 } : Room)) (fun a U => a = #[(.ref a1)] ∧ Z.Warmed39 U.vm ∧ U.heap = h0) (fun _ _ _ _ _ => True) (fun _ U o U' => ∃ v L, o = .returned v ∧ own_Q (some (.int (0 : Int32))) h0 n0 v U'.heap L ∧ FrameEnd U o U' L ({ frames := 0, cells := 0, slots := 0, locals := 0 } : Room).cells ({ frames := 0, cells := 0, slots := 0, locals := 0 } : Room).slots) := by
  have G0 := G
  obtain ⟨S_L1, E_L1, S_L4, E_L4, S_L3, E_L3, S_L5, E_L5, S_L2, E_L2, S_CS, N_CS⟩ := G
  refine MetFree.of_bodySF (plainFor_of_name pn_3) hisR ?_
  intro p e s m args below meth c s₁ Bd hml0 hP hK
  obtain ⟨rfl, hZ, hh⟩ := hP
  have hx := Bd.exec
  have hby := Bd.bytes
  have hml : c.maxLocals = 1 := hml0
  have hown : s.vm.findClass "com/example/pending_actions/pendingactions/policy/Assessment" = some m.cls := findClass_of_methodNamed Bd.named
  have hnm := (name_of_methodNamed Bd.named Bd.method).1
  have X0 : Stand p l e ({ frames := 0, cells := 0, slots := 0, locals := 0 } : Room) s m #[(.ref a1)] below meth c s₁ [] 0 0 := Stand.of_body Bd
  have e0 : s₁.heap = h0 := by rw [← hh, Bd.state]; rfl
  have N0 := Fr.nil n0
  have pre0 : ∀ t, Steps p.tables e below (s₁.setTop (mkF m 0 #[.val (.ref a1)] [])) t → Steps p.tables e below (s₁.setTop (entryFrame m #[(.ref a1)] 1)) t := fun t k => castTop (ef_6_14 m a1) k
  obtain ⟨T1, X1, e1, st1⟩ := getF X0 hx hZ hown (host := "") (Or.inl (hw _ (List.mem_of_getElem? (i := 34) rfl))) Via.refl e0 F_tier (g := (mkF m 1 #[.val (.ref a1)] [(.ref a1)])) rfl rfl (hb hby d6_1)
  obtain ⟨fs, hr, hrun, hended, hW, hsame⟩ := X1.leave (v := some (.int (0 : Int32))) (fun h => by rw [Bd.returns] at h; cases h)
  refine ⟨_, _, pre0 _ ?_, hrun, hended, _, _, rfl, ?_, ⟨_, rfl⟩, hW, hsame.mono (by decide) (by decide)⟩
  · show Steps p.tables e below (s₁.setTop (mkF m 0 #[.val (.ref a1)] [])) _
    refine XS.aloadN X0.here hx rfl (hb hby d6_0) rfl rfl ?_
    show Steps p.tables e below (s₁.setTop (mkF m 1 #[.val (.ref a1)] [(.ref a1)])) _
    refine st1 _ ?_
    show Steps p.tables e below (T1.setTop (mkF m 4 #[.val (.ref a1)] [.null])) _
    refine XS.ifnullYes X1.here hx rfl (pc0 := 4) (pc' := 18) rfl (hb hby d6_4) rfl (by decide) (by decide) ?_
    refine XS.iconst X1.here hx rfl (hb hby d6_18) ?_
    show Steps p.tables e below (T1.setTop (mkF m 19 #[.val (.ref a1)] [(.int (0 : Int32))])) _
    exact retN X1 hx (t := .boolean) Bd.returns (by simp) (hb hby d6_19) hr
  · show own_Q (some (.int (0 : Int32))) h0 n0 _ T1.heap _
    rw [e1]
    exact ⟨rfl, N0, rfl⟩
theorem d6_7 : decode prog_13_method_4_code 7 = .ok (.aload_n 0, 1) := by decide +kernel
theorem d6_8 : decode prog_13_method_4_code 8 = .ok (.getfield 13, 3) := by decide +kernel
theorem d6_11 : decode prog_13_method_4_code 11 = .ok (.ifnull 7, 3) := by decide +kernel
set_option maxRecDepth 65536 in
set_option maxHeartbeats 40000000 in
theorem r_aa1 (l : Launch) (Z : State) (a0 : Array Value) (hw : ∀ d ∈ tables_1, d.before a0 Z = true) (ws : List Jvm.Cond) (s_L1 s_L4 s_L3 s_L5 s_L2 : Addr) (cs1 : Int32) (h0 : Heap) (n0 : Nat) (O0 : Old Z n0 h0) (G : own_Ctx Z Z.heap s_L1 s_L4 s_L3 s_L5 s_L2 cs1) (a1 x0_ : Addr) (F_tier : Fld Z h0 a1 "com/example/pending_actions/pendingactions/policy/Assessment" "tier" "Lcom/example/pending_actions/pendingactions/policy/RiskTier;" (.ref x0_)) (F_decider : Fld Z h0 a1 "com/example/pending_actions/pendingactions/policy/Assessment" "decider" "Ljava/lang/String;" .null) :
    MetFree l (⟨"com/example/pending_actions/pendingactions/policy/Assessment", "isAutoApproved", "()Z"⟩ : MethodName) (head1 (Jvm.Cond.code (⟨"com/example/pending_actions/pendingactions/policy/Assessment", "isAutoApproved", "()Z"⟩ : MethodName) prog_13_method_4_code 1 (some .boolean) :: ws) ({ frames := 0, cells := 0, slots := 0, locals := 0 } : Room)) (fun a U => a = #[(.ref a1)] ∧ Z.Warmed39 U.vm ∧ U.heap = h0) (fun _ _ _ _ _ => True) (fun _ U o U' => ∃ v L, o = .returned v ∧ own_Q (some (.int (0 : Int32))) h0 n0 v U'.heap L ∧ FrameEnd U o U' L ({ frames := 0, cells := 0, slots := 0, locals := 0 } : Room).cells ({ frames := 0, cells := 0, slots := 0, locals := 0 } : Room).slots) := by
  have G0 := G
  obtain ⟨S_L1, E_L1, S_L4, E_L4, S_L3, E_L3, S_L5, E_L5, S_L2, E_L2, S_CS, N_CS⟩ := G
  refine MetFree.of_bodySF (plainFor_of_name pn_3) hisR ?_
  intro p e s m args below meth c s₁ Bd hml0 hP hK
  obtain ⟨rfl, hZ, hh⟩ := hP
  have hx := Bd.exec
  have hby := Bd.bytes
  have hml : c.maxLocals = 1 := hml0
  have hown : s.vm.findClass "com/example/pending_actions/pendingactions/policy/Assessment" = some m.cls := findClass_of_methodNamed Bd.named
  have hnm := (name_of_methodNamed Bd.named Bd.method).1
  have X0 : Stand p l e ({ frames := 0, cells := 0, slots := 0, locals := 0 } : Room) s m #[(.ref a1)] below meth c s₁ [] 0 0 := Stand.of_body Bd
  have e0 : s₁.heap = h0 := by rw [← hh, Bd.state]; rfl
  have N0 := Fr.nil n0
  have pre0 : ∀ t, Steps p.tables e below (s₁.setTop (mkF m 0 #[.val (.ref a1)] [])) t → Steps p.tables e below (s₁.setTop (entryFrame m #[(.ref a1)] 1)) t := fun t k => castTop (ef_6_14 m a1) k
  obtain ⟨T1, X1, e1, st1⟩ := getF X0 hx hZ hown (host := "") (Or.inl (hw _ (List.mem_of_getElem? (i := 34) rfl))) Via.refl e0 F_tier (g := (mkF m 1 #[.val (.ref a1)] [(.ref a1)])) rfl rfl (hb hby d6_1)
  obtain ⟨T2, X2, e2, st2⟩ := getF X1 hx hZ hown (host := "") (Or.inl (hw _ (List.mem_of_getElem? (i := 36) rfl))) Via.refl e1 F_decider (g := (mkF m 8 #[.val (.ref a1)] [(.ref a1)])) rfl rfl (hb hby d6_8)
  obtain ⟨fs, hr, hrun, hended, hW, hsame⟩ := X2.leave (v := some (.int (0 : Int32))) (fun h => by rw [Bd.returns] at h; cases h)
  refine ⟨_, _, pre0 _ ?_, hrun, hended, _, _, rfl, ?_, ⟨_, rfl⟩, hW, hsame.mono (by decide) (by decide)⟩
  · show Steps p.tables e below (s₁.setTop (mkF m 0 #[.val (.ref a1)] [])) _
    refine XS.aloadN X0.here hx rfl (hb hby d6_0) rfl rfl ?_
    show Steps p.tables e below (s₁.setTop (mkF m 1 #[.val (.ref a1)] [(.ref a1)])) _
    refine st1 _ ?_
    show Steps p.tables e below (T1.setTop (mkF m 4 #[.val (.ref a1)] [(.ref x0_)])) _
    refine XS.ifnullNo X1.here hx rfl (hb hby d6_4) rfl ?_
    refine XS.aloadN X1.here hx rfl (hb hby d6_7) rfl rfl ?_
    show Steps p.tables e below (T1.setTop (mkF m 8 #[.val (.ref a1)] [(.ref a1)])) _
    refine st2 _ ?_
    show Steps p.tables e below (T2.setTop (mkF m 11 #[.val (.ref a1)] [.null])) _
    refine XS.ifnullYes X2.here hx rfl (pc0 := 11) (pc' := 18) rfl (hb hby d6_11) rfl (by decide) (by decide) ?_
    refine XS.iconst X2.here hx rfl (hb hby d6_18) ?_
    show Steps p.tables e below (T2.setTop (mkF m 19 #[.val (.ref a1)] [(.int (0 : Int32))])) _
    exact retN X2 hx (t := .boolean) Bd.returns (by simp) (hb hby d6_19) hr
  · show own_Q (some (.int (0 : Int32))) h0 n0 _ T2.heap _
    rw [e2]
    exact ⟨rfl, N0, rfl⟩
set_option maxRecDepth 65536 in
set_option maxHeartbeats 40000000 in
theorem r_aa2 (l : Launch) (Z : State) (a0 : Array Value) (hw : ∀ d ∈ tables_1, d.before a0 Z = true) (ws : List Jvm.Cond) (s_L1 s_L4 s_L3 s_L5 s_L2 : Addr) (cs1 : Int32) (h0 : Heap) (n0 : Nat) (O0 : Old Z n0 h0) (G : own_Ctx Z Z.heap s_L1 s_L4 s_L3 s_L5 s_L2 cs1) (a1 x1_ : Addr) (F_tier : Fld Z h0 a1 "com/example/pending_actions/pendingactions/policy/Assessment" "tier" "Lcom/example/pending_actions/pendingactions/policy/RiskTier;" .null) (F_decider : Fld Z h0 a1 "com/example/pending_actions/pendingactions/policy/Assessment" "decider" "Ljava/lang/String;" (.ref x1_)) :
    MetFree l (⟨"com/example/pending_actions/pendingactions/policy/Assessment", "isAutoApproved", "()Z"⟩ : MethodName) (head1 (Jvm.Cond.code (⟨"com/example/pending_actions/pendingactions/policy/Assessment", "isAutoApproved", "()Z"⟩ : MethodName) prog_13_method_4_code 1 (some .boolean) :: ws) ({ frames := 0, cells := 0, slots := 0, locals := 0 } : Room)) (fun a U => a = #[(.ref a1)] ∧ Z.Warmed39 U.vm ∧ U.heap = h0) (fun _ _ _ _ _ => True) (fun _ U o U' => ∃ v L, o = .returned v ∧ own_Q (some (.int (0 : Int32))) h0 n0 v U'.heap L ∧ FrameEnd U o U' L ({ frames := 0, cells := 0, slots := 0, locals := 0 } : Room).cells ({ frames := 0, cells := 0, slots := 0, locals := 0 } : Room).slots) := by
  have G0 := G
  obtain ⟨S_L1, E_L1, S_L4, E_L4, S_L3, E_L3, S_L5, E_L5, S_L2, E_L2, S_CS, N_CS⟩ := G
  refine MetFree.of_bodySF (plainFor_of_name pn_3) hisR ?_
  intro p e s m args below meth c s₁ Bd hml0 hP hK
  obtain ⟨rfl, hZ, hh⟩ := hP
  have hx := Bd.exec
  have hby := Bd.bytes
  have hml : c.maxLocals = 1 := hml0
  have hown : s.vm.findClass "com/example/pending_actions/pendingactions/policy/Assessment" = some m.cls := findClass_of_methodNamed Bd.named
  have hnm := (name_of_methodNamed Bd.named Bd.method).1
  have X0 : Stand p l e ({ frames := 0, cells := 0, slots := 0, locals := 0 } : Room) s m #[(.ref a1)] below meth c s₁ [] 0 0 := Stand.of_body Bd
  have e0 : s₁.heap = h0 := by rw [← hh, Bd.state]; rfl
  have N0 := Fr.nil n0
  have pre0 : ∀ t, Steps p.tables e below (s₁.setTop (mkF m 0 #[.val (.ref a1)] [])) t → Steps p.tables e below (s₁.setTop (entryFrame m #[(.ref a1)] 1)) t := fun t k => castTop (ef_6_14 m a1) k
  obtain ⟨T1, X1, e1, st1⟩ := getF X0 hx hZ hown (host := "") (Or.inl (hw _ (List.mem_of_getElem? (i := 34) rfl))) Via.refl e0 F_tier (g := (mkF m 1 #[.val (.ref a1)] [(.ref a1)])) rfl rfl (hb hby d6_1)
  obtain ⟨fs, hr, hrun, hended, hW, hsame⟩ := X1.leave (v := some (.int (0 : Int32))) (fun h => by rw [Bd.returns] at h; cases h)
  refine ⟨_, _, pre0 _ ?_, hrun, hended, _, _, rfl, ?_, ⟨_, rfl⟩, hW, hsame.mono (by decide) (by decide)⟩
  · show Steps p.tables e below (s₁.setTop (mkF m 0 #[.val (.ref a1)] [])) _
    refine XS.aloadN X0.here hx rfl (hb hby d6_0) rfl rfl ?_
    show Steps p.tables e below (s₁.setTop (mkF m 1 #[.val (.ref a1)] [(.ref a1)])) _
    refine st1 _ ?_
    show Steps p.tables e below (T1.setTop (mkF m 4 #[.val (.ref a1)] [.null])) _
    refine XS.ifnullYes X1.here hx rfl (pc0 := 4) (pc' := 18) rfl (hb hby d6_4) rfl (by decide) (by decide) ?_
    refine XS.iconst X1.here hx rfl (hb hby d6_18) ?_
    show Steps p.tables e below (T1.setTop (mkF m 19 #[.val (.ref a1)] [(.int (0 : Int32))])) _
    exact retN X1 hx (t := .boolean) Bd.returns (by simp) (hb hby d6_19) hr
  · show own_Q (some (.int (0 : Int32))) h0 n0 _ T1.heap _
    rw [e1]
    exact ⟨rfl, N0, rfl⟩
theorem d6_14 : decode prog_13_method_4_code 14 = .ok (.iconst 1, 1) := by decide +kernel
theorem d6_15 : decode prog_13_method_4_code 15 = .ok (.goto 4, 3) := by decide +kernel
set_option maxRecDepth 65536 in
set_option maxHeartbeats 40000000 in
theorem r_aa3 (l : Launch) (Z : State) (a0 : Array Value) (hw : ∀ d ∈ tables_1, d.before a0 Z = true) (ws : List Jvm.Cond) (s_L1 s_L4 s_L3 s_L5 s_L2 : Addr) (cs1 : Int32) (h0 : Heap) (n0 : Nat) (O0 : Old Z n0 h0) (G : own_Ctx Z Z.heap s_L1 s_L4 s_L3 s_L5 s_L2 cs1) (a1 x0_ x1_ : Addr) (F_tier : Fld Z h0 a1 "com/example/pending_actions/pendingactions/policy/Assessment" "tier" "Lcom/example/pending_actions/pendingactions/policy/RiskTier;" (.ref x0_)) (F_decider : Fld Z h0 a1 "com/example/pending_actions/pendingactions/policy/Assessment" "decider" "Ljava/lang/String;" (.ref x1_)) :
    MetFree l (⟨"com/example/pending_actions/pendingactions/policy/Assessment", "isAutoApproved", "()Z"⟩ : MethodName) (head1 (Jvm.Cond.code (⟨"com/example/pending_actions/pendingactions/policy/Assessment", "isAutoApproved", "()Z"⟩ : MethodName) prog_13_method_4_code 1 (some .boolean) :: ws) ({ frames := 0, cells := 0, slots := 0, locals := 0 } : Room)) (fun a U => a = #[(.ref a1)] ∧ Z.Warmed39 U.vm ∧ U.heap = h0) (fun _ _ _ _ _ => True) (fun _ U o U' => ∃ v L, o = .returned v ∧ own_Q (some (.int (1 : Int32))) h0 n0 v U'.heap L ∧ FrameEnd U o U' L ({ frames := 0, cells := 0, slots := 0, locals := 0 } : Room).cells ({ frames := 0, cells := 0, slots := 0, locals := 0 } : Room).slots) := by
  have G0 := G
  obtain ⟨S_L1, E_L1, S_L4, E_L4, S_L3, E_L3, S_L5, E_L5, S_L2, E_L2, S_CS, N_CS⟩ := G
  refine MetFree.of_bodySF (plainFor_of_name pn_3) hisR ?_
  intro p e s m args below meth c s₁ Bd hml0 hP hK
  obtain ⟨rfl, hZ, hh⟩ := hP
  have hx := Bd.exec
  have hby := Bd.bytes
  have hml : c.maxLocals = 1 := hml0
  have hown : s.vm.findClass "com/example/pending_actions/pendingactions/policy/Assessment" = some m.cls := findClass_of_methodNamed Bd.named
  have hnm := (name_of_methodNamed Bd.named Bd.method).1
  have X0 : Stand p l e ({ frames := 0, cells := 0, slots := 0, locals := 0 } : Room) s m #[(.ref a1)] below meth c s₁ [] 0 0 := Stand.of_body Bd
  have e0 : s₁.heap = h0 := by rw [← hh, Bd.state]; rfl
  have N0 := Fr.nil n0
  have pre0 : ∀ t, Steps p.tables e below (s₁.setTop (mkF m 0 #[.val (.ref a1)] [])) t → Steps p.tables e below (s₁.setTop (entryFrame m #[(.ref a1)] 1)) t := fun t k => castTop (ef_6_14 m a1) k
  obtain ⟨T1, X1, e1, st1⟩ := getF X0 hx hZ hown (host := "") (Or.inl (hw _ (List.mem_of_getElem? (i := 34) rfl))) Via.refl e0 F_tier (g := (mkF m 1 #[.val (.ref a1)] [(.ref a1)])) rfl rfl (hb hby d6_1)
  obtain ⟨T2, X2, e2, st2⟩ := getF X1 hx hZ hown (host := "") (Or.inl (hw _ (List.mem_of_getElem? (i := 36) rfl))) Via.refl e1 F_decider (g := (mkF m 8 #[.val (.ref a1)] [(.ref a1)])) rfl rfl (hb hby d6_8)
  obtain ⟨fs, hr, hrun, hended, hW, hsame⟩ := X2.leave (v := some (.int (1 : Int32))) (fun h => by rw [Bd.returns] at h; cases h)
  refine ⟨_, _, pre0 _ ?_, hrun, hended, _, _, rfl, ?_, ⟨_, rfl⟩, hW, hsame.mono (by decide) (by decide)⟩
  · show Steps p.tables e below (s₁.setTop (mkF m 0 #[.val (.ref a1)] [])) _
    refine XS.aloadN X0.here hx rfl (hb hby d6_0) rfl rfl ?_
    show Steps p.tables e below (s₁.setTop (mkF m 1 #[.val (.ref a1)] [(.ref a1)])) _
    refine st1 _ ?_
    show Steps p.tables e below (T1.setTop (mkF m 4 #[.val (.ref a1)] [(.ref x0_)])) _
    refine XS.ifnullNo X1.here hx rfl (hb hby d6_4) rfl ?_
    refine XS.aloadN X1.here hx rfl (hb hby d6_7) rfl rfl ?_
    show Steps p.tables e below (T1.setTop (mkF m 8 #[.val (.ref a1)] [(.ref a1)])) _
    refine st2 _ ?_
    show Steps p.tables e below (T2.setTop (mkF m 11 #[.val (.ref a1)] [(.ref x1_)])) _
    refine XS.ifnullNo X2.here hx rfl (hb hby d6_11) rfl ?_
    refine XS.iconst X2.here hx rfl (hb hby d6_14) ?_
    refine XS.goto X2.here hx rfl (pc0 := 15) (pc' := 19) rfl (hb hby d6_15) (by decide) (by decide) ?_
    show Steps p.tables e below (T2.setTop (mkF m 19 #[.val (.ref a1)] [(.int (1 : Int32))])) _
    exact retN X2 hx (t := .boolean) Bd.returns (by simp) (hb hby d6_19) hr
  · show own_Q (some (.int (1 : Int32))) h0 n0 _ T2.heap _
    rw [e2]
    exact ⟨rfl, N0, rfl⟩
theorem own_mod6 (p : Int32) : (p &&& (2147483647 : Int32)) % (6 : Int32) = (0 : Int32) ∨ (p &&& (2147483647 : Int32)) % (6 : Int32) = (1 : Int32) ∨ (p &&& (2147483647 : Int32)) % (6 : Int32) = (2 : Int32) ∨ (p &&& (2147483647 : Int32)) % (6 : Int32) = (3 : Int32) ∨ (p &&& (2147483647 : Int32)) % (6 : Int32) = (4 : Int32) ∨ (p &&& (2147483647 : Int32)) % (6 : Int32) = (5 : Int32) := by
  have h1 := c_and p (2147483647 : Int32) (by decide)
  have h2 := (c_irem (p &&& (2147483647 : Int32)) (6 : Int32) 6 rfl).1 h1.1
  have h3 : ((p &&& (2147483647 : Int32)) % (6 : Int32)).toInt = 0 ∨ ((p &&& (2147483647 : Int32)) % (6 : Int32)).toInt = 1 ∨ ((p &&& (2147483647 : Int32)) % (6 : Int32)).toInt = 2 ∨ ((p &&& (2147483647 : Int32)) % (6 : Int32)).toInt = 3 ∨ ((p &&& (2147483647 : Int32)) % (6 : Int32)).toInt = 4 ∨ ((p &&& (2147483647 : Int32)) % (6 : Int32)).toInt = 5 := by omega
  rcases h3 with h | h | h | h | h | h
  · exact Or.inl (Int32.toInt_inj.mp (h.trans rfl))
  · exact Or.inr (Or.inl (Int32.toInt_inj.mp (h.trans rfl)))
  · exact Or.inr (Or.inr (Or.inl (Int32.toInt_inj.mp (h.trans rfl))))
  · exact Or.inr (Or.inr (Or.inr (Or.inl (Int32.toInt_inj.mp (h.trans rfl)))))
  · exact Or.inr (Or.inr (Or.inr (Or.inr (Or.inl (Int32.toInt_inj.mp (h.trans rfl))))))
  · exact Or.inr (Or.inr (Or.inr (Or.inr (Or.inr ((Int32.toInt_inj.mp (h.trans rfl)))))))
theorem own_mod (p : Int32) : (p &&& (2147483647 : Int32)) % (6 : Int32) = (0 : Int32) ∨ ((p &&& (2147483647 : Int32)) % (6 : Int32) = (1 : Int32) ∨ (p &&& (2147483647 : Int32)) % (6 : Int32) = (2 : Int32) ∨ (p &&& (2147483647 : Int32)) % (6 : Int32) = (3 : Int32) ∨ (p &&& (2147483647 : Int32)) % (6 : Int32) = (4 : Int32) ∨ (p &&& (2147483647 : Int32)) % (6 : Int32) = (5 : Int32)) := own_mod6 p
theorem pd_4 : parseMethodDescriptor "(I)Lcom/example/pending_actions/pendingactions/policy/RiskTier;" = some ⟨[.int], some (.object "com/example/pending_actions/pendingactions/policy/RiskTier")⟩ := by decide +kernel
theorem pd_5 : parseMethodDescriptor "([C)V" = some ⟨[(.array .char)], none⟩ := by decide +kernel
theorem pd_6 : parseMethodDescriptor "(Lcom/example/pending_actions/pendingactions/policy/RiskTier;Ljava/lang/String;Ljava/lang/String;)V" = some ⟨[(.object "com/example/pending_actions/pendingactions/policy/RiskTier"), (.object "java/lang/String"), (.object "java/lang/String")], none⟩ := by decide +kernel
theorem pd_7 : parseMethodDescriptor "()Z" = some ⟨[], some .boolean⟩ := by decide +kernel
theorem ef_0_15 (m : MethodId) (x0 : Int32) (x1 : Int32) (x2 : Int32) (x3 : Int32) : entryFrame m #[(.int x0), (.int x1), (.int x2), (.int x3)] maxLocals = mkF m 0 #[.val (.int x0), .val (.int x1), .val (.int x2), .val (.int x3), .unset, .unset, .unset, .unset, .unset, .unset, .unset, .unset, .unset, .unset, .unset] [] := by first | (simp [entryFrame, mkF, argsToLocals, Value.category, maxLocals]; done) | rfl
set_option maxRecDepth 65536 in
set_option maxHeartbeats 40000000 in
theorem r_law0 (l : Launch) (Z : State) (a0 : Array Value) (hw : ∀ d ∈ tables_1, d.before a0 Z = true) (ws : List Jvm.Cond) (s_L1 s_L4 s_L3 s_L5 s_L2 : Addr) (cs1 : Int32) (h0 : Heap) (n0 : Nat) (O0 : Old Z n0 h0) (G : own_Ctx Z Z.heap s_L1 s_L4 s_L3 s_L5 s_L2 cs1) (hEL : EW Z a0 own_EL) (wS : ∀ a ∈ Bundle.stringAtoms, a.before a0 Z = true) (p1 p2 p3 p4 : Int32) (hk : (p1 &&& (2147483647 : Int32)) % (6 : Int32) = (0 : Int32)) (hf0_ : (p2 &&& (1 : Int32)) = (0 : Int32)) (hf1_ : (p2 &&& (2 : Int32)) = (0 : Int32)) (hf2_ : (p2 &&& (4 : Int32)) = (0 : Int32)) :
    MetFree l x (head1 (Jvm.Cond.code x code maxLocals ret :: ws) room_1) (fun a U => a = #[(.int p1), (.int p2), (.int p3), (.int p4)] ∧ Z.Warmed39 U.vm ∧ U.heap = h0 ∧ CHv Z own_EL U.vm h0) (fun _ _ _ _ _ => True) (fun _ U o U' => ∃ v L, o = .returned v ∧ own_Qk (some (.int (1 : Int32))) [] h0 n0 v U'.heap L ∧ CHr Z own_EL U.vm U.heap U'.vm U'.heap ∧ ReturnedEndW U o U' L 24 1152) := by
  have G0 := G
  obtain ⟨S_L1, E_L1, S_L4, E_L4, S_L3, E_L3, S_L5, E_L5, S_L2, E_L2, S_CS, N_CS⟩ := G
  refine MetFree.of_bodySF (plainFor_of_name pn_0) hisR ?_
  intro p e s m args below meth c s₁ Bd hml0 hP hK
  obtain ⟨rfl, hZ, hh, hC⟩ := hP
  have hx := Bd.exec
  have hby := Bd.bytes
  have hml : c.maxLocals = 15 := hml0
  have hown : s.vm.findClass "com/example/pending_actions/pendingactions/policy/AssessmentIsAutoApprovedPinLaw" = some m.cls := findClass_of_methodNamed Bd.named
  have hnm := (name_of_methodNamed Bd.named Bd.method).1
  have X0 : Stand p l e room_1 (s.setVm s.vm) m #[(.int p1), (.int p2), (.int p3), (.int p4)] below meth c s₁ [] 0 0 := Stand.of_body Bd
  have e0 : s₁.heap = h0 := by rw [← hh, Bd.state]; rfl
  have N0 := Fr.nil n0
  have hS0 : s.Since s.vm h0.size := State.WarmedH.since (State.WarmedH.refl s) _
  have hk0 : h0.size ≤ h0.size := Nat.le_refl _
  have pre0 : ∀ t, Steps p.tables e below (s₁.setTop (mkF m 0 #[.val (.int p1), .val (.int p2), .val (.int p3), .val (.int p4), .unset, .unset, .unset, .unset, .unset, .unset, .unset, .unset, .unset, .unset, .unset] [])) t → Steps p.tables e below (s₁.setTop (entryFrame m #[(.int p1), (.int p2), (.int p3), (.int p4)] maxLocals)) t := fun t k => castTop (ef_0_15 m p1 p2 p3 p4) k
  obtain ⟨_, _, ⟨T1, L1, k1, n1⟩, -, X1, ⟨Lc1, hQ1, l1, y1, z1⟩, st1⟩ := Jvm.LawKit.callS X0 hx (y := (⟨"com/example/pending_actions/pendingactions/policy/AssessmentIsAutoApprovedPinLaw", "pick", "(I)Lcom/example/pending_actions/pendingactions/policy/RiskTier;"⟩ : MethodName)) hown (mvT hZ (hw _ (List.mem_of_getElem? (i := 1) rfl))) (mvT hZ (hw _ (List.mem_of_getElem? (i := 2) rfl))) (mvT hZ (hw _ (List.mem_of_getElem? (i := 3) rfl))) (mvT hZ (hw _ (List.mem_of_getElem? (i := 4) rfl))) (by decide) (backOf (W := 0) (r_tier_0 l Z a0 hw [] s_L1 s_L4 s_L3 s_L5 s_L2 cs1 h0 n0 O0 G0) hZ (hw _ (List.mem_of_getElem? (i := 4) rfl)) (hw _ (List.mem_of_getElem? (i := 3) rfl)) (by decide) (by decide)) (g := (mkF m 11 #[.val (.int p1), .val (.int p2), .val (.int p3), .val (.int p4), .val (.int (0 : Int32)), .unset, .unset, .unset, .unset, .unset, .unset, .unset, .unset, .unset, .unset] [(.int (0 : Int32))])) rfl (by rw [hml]; rfl) (argsL := [(.int (0 : Int32))]) (rest := []) (lenOf pd_4 rfl) rfl (by show 2 * 0 + _ ≤ _; exact Nat.le_of_eq rfl) (hb hby at_11) (fun _ _ => ⟨rfl, e0, (by decide : 0 + 0 ≤ _), (by decide : 0 + 0 ≤ _)⟩)
  dsimp only [Pt.U, Pt.locs, Pt.cells, Pt.slots] at X1 l1 y1 z1 st1 hQ1
  subst l1 y1 z1
  obtain ⟨rfl, N1q, e1⟩ := hQ1
  have N1 := Fr.app N0 N1q
  obtain ⟨T2, h2, k2, X2, e2, E2, A2, st2⟩ := newP X1 hx hZ (hw _ (List.mem_of_getElem? (i := 5) rfl)) e1 (g := (mkF m 56 #[.val (.int p1), .val (.int p2), .val (.int p3), .val (.int p4), .val (.int (0 : Int32)), .val .null, .val (.int (0 : Int32)), .val (.int (0 : Int32)), .val (.int (0 : Int32)), .unset, .unset, .unset, .unset, .unset, .unset] [(.int (2 : Int32))])) rfl (hb hby at_56) rfl (by decide) (cap := 2) (by decide) (by decide) (by decide) (by decide)
  obtain ⟨b2, g2⟩ : ∃ z, z = h0.size := ⟨_, rfl⟩
  have ne_s_L1_b2 : s_L1 ≠ b2 := Nat.ne_of_lt (Nat.lt_of_lt_of_le (E_L1.ext O0.2).lt (Nat.le_of_eq g2.symm))
  have ne_s_L4_b2 : s_L4 ≠ b2 := Nat.ne_of_lt (Nat.lt_of_lt_of_le (E_L4.ext O0.2).lt (Nat.le_of_eq g2.symm))
  have ne_s_L3_b2 : s_L3 ≠ b2 := Nat.ne_of_lt (Nat.lt_of_lt_of_le (E_L3.ext O0.2).lt (Nat.le_of_eq g2.symm))
  have ne_s_L5_b2 : s_L5 ≠ b2 := Nat.ne_of_lt (Nat.lt_of_lt_of_le (E_L5.ext O0.2).lt (Nat.le_of_eq g2.symm))
  have ne_s_L2_b2 : s_L2 ≠ b2 := Nat.ne_of_lt (Nat.lt_of_lt_of_le (E_L2.ext O0.2).lt (Nat.le_of_eq g2.symm))
  have g_b2 : n0 ≤ b2 := Nat.le_trans (O0.1 ▸ O0.2.1) (Nat.le_of_eq g2.symm)
  have sz_b2 : h0.size ≤ b2 := Nat.le_trans (Keep.refl h0 []).1 (Nat.le_of_eq g2.symm)
  have sn2 : Safe Z own_EL s.vm h0 b2 := Safe.new (Nat.le_of_eq g2.symm)
  rw [← g2] at A2 st2
  have O2 := O0.ext E2
  have K2 : Keep h0 h2 [] := (Keep.refl h0 []).ext E2
  have sf3 := Safe.ext E2 hC sn2
  have C2 : CHv Z own_EL s.vm h2 := hC.ext E2
  have R2 : CHr Z own_EL s.vm h0 s.vm h2 := (CHr.refl hC).trans (CHr.ext E2 hC)
  have hk2 := Nat.le_trans hk0 E2.1
  have V2 : Arv Z h2 b2 k2 .char (2 : Int32) [(.int (0 : Int32)), (.int (0 : Int32))] (.int (0 : Int32)) := (Arv.new A2 (by decide)).pad (pad_rep [] (.int (0 : Int32)) 2)
  have vc4 := V2
  obtain ⟨cl4, Ar4, qk4, S4, Nn4, Hs4, Gf4⟩ := vc4
  have hin4 : ¬ ((0 : Int32) < 0 ∨ cl4.slots.size ≤ ((0 : Int32)).toNatClampNeg) := inb_of S4 ⟨by decide, by decide⟩
  obtain ⟨T5, h5, X5, e5, W5, st5⟩ := stC X2 hx hZ e2 Ar4 (j := (0 : Int32)) hin4 (g := (mkF m 69 #[.val (.int p1), .val (.int p2), .val (.int p3), .val (.int p4), .val (.int (0 : Int32)), .val .null, .val (.int (0 : Int32)), .val (.int (0 : Int32)), .val (.int (0 : Int32)), .val (.ref b2), .unset, .unset, .unset, .unset, .unset] [(.int ((p3 &&& (255 : Int32)).toUInt32.toUInt16.toUInt32.toInt32)), (.int (0 : Int32)), (.ref b2)])) rfl rfl (hb hby at_69)
  have O5 := O2.wr W5 g_b2
  have K5 : Keep h0 h5 [] := K2.wr W5 (Or.inr sz_b2)
  have N5 := Fr.snoc X5 N1 g_b2
  have sf6 := Safe.wr W5 sf3 C2 sf3
  have C5 : CHv Z own_EL s.vm h5 := C2.wr W5 sf3
  have R5 : CHr Z own_EL s.vm h0 s.vm h5 := R2.trans (CHr.wr W5 sf3 C2)
  have hk5 := Nat.le_trans hk2 (Keep.of_wr W5).1
  have f7 : Arv Z h5 b2 k2 .char (2 : Int32) [(.int (nar .char ((p3 &&& (255 : Int32)).toUInt32.toUInt16.toUInt32.toInt32))), (.int (0 : Int32))] (.int (0 : Int32)) := Arv.set Ar4 qk4 S4 Nn4 Hs4 Gf4 (fits_nar_char _) W5 0 rfl (Nat.le_of_ble_eq_true rfl)
  have vc8 := f7
  obtain ⟨cl8, Ar8, qk8, S8, Nn8, Hs8, Gf8⟩ := vc8
  have hin8 : ¬ ((1 : Int32) < 0 ∨ cl8.slots.size ≤ ((1 : Int32)).toNatClampNeg) := inb_of S8 ⟨by decide, by decide⟩
  obtain ⟨T9, h9, X9, e9, W9, st9⟩ := stC X5 hx hZ e5 Ar8 (j := (1 : Int32)) hin8 (g := (mkF m 79 #[.val (.int p1), .val (.int p2), .val (.int p3), .val (.int p4), .val (.int (0 : Int32)), .val .null, .val (.int (0 : Int32)), .val (.int (0 : Int32)), .val (.int (0 : Int32)), .val (.ref b2), .unset, .unset, .unset, .unset, .unset] [(.int ((p4 &&& (255 : Int32)).toUInt32.toUInt16.toUInt32.toInt32)), (.int (1 : Int32)), (.ref b2)])) rfl rfl (hb hby at_79)
  have O9 := O5.wr W9 g_b2
  have K9 : Keep h0 h9 [] := K5.wr W9 (Or.inr sz_b2)
  have N9 := Fr.snoc X9 N5 g_b2
  have sf10 := Safe.wr W9 sf6 C5 sf6
  have C9 : CHv Z own_EL s.vm h9 := C5.wr W9 sf6
  have R9 : CHr Z own_EL s.vm h0 s.vm h9 := R5.trans (CHr.wr W9 sf6 C5)
  have hk9 := Nat.le_trans hk5 (Keep.of_wr W9).1
  have f11 : Arv Z h9 b2 k2 .char (2 : Int32) [(.int (nar .char ((p3 &&& (255 : Int32)).toUInt32.toUInt16.toUInt32.toInt32))), (.int (nar .char ((p4 &&& (255 : Int32)).toUInt32.toUInt16.toUInt32.toInt32)))] (.int (0 : Int32)) := Arv.set Ar8 qk8 S8 Nn8 Hs8 Gf8 (fits_nar_char _) W9 1 rfl (Nat.le_of_ble_eq_true rfl)
  obtain ⟨T12, h12, X12, e12, E12, A12, D12, -, st12⟩ := newO X9 hx hZ hown (hw _ (List.mem_of_getElem? (i := 6) rfl)) (hw _ (List.mem_of_getElem? (i := 7) rfl)) (hw _ (List.mem_of_getElem? (i := 8) rfl)) e9 (g := (mkF m 98 #[.val (.int p1), .val (.int p2), .val (.int p3), .val (.int p4), .val (.int (0 : Int32)), .val .null, .val (.int (0 : Int32)), .val (.int (0 : Int32)), .val (.int (0 : Int32)), .val (.ref b2), .unset, .unset, .unset, .unset, .unset] [])) rfl (hb hby at_98) (by decide) (by decide)
  obtain ⟨b12, g12⟩ : ∃ z, z = h9.size := ⟨_, rfl⟩
  have ne_b2_b12 : b2 ≠ b12 := Nat.ne_of_lt (Nat.lt_of_lt_of_le f11.lt (Nat.le_of_eq g12.symm))
  have ne_s_L1_b12 : s_L1 ≠ b12 := Nat.ne_of_lt (Nat.lt_of_lt_of_le (E_L1.ext O9.2).lt (Nat.le_of_eq g12.symm))
  have ne_s_L4_b12 : s_L4 ≠ b12 := Nat.ne_of_lt (Nat.lt_of_lt_of_le (E_L4.ext O9.2).lt (Nat.le_of_eq g12.symm))
  have ne_s_L3_b12 : s_L3 ≠ b12 := Nat.ne_of_lt (Nat.lt_of_lt_of_le (E_L3.ext O9.2).lt (Nat.le_of_eq g12.symm))
  have ne_s_L5_b12 : s_L5 ≠ b12 := Nat.ne_of_lt (Nat.lt_of_lt_of_le (E_L5.ext O9.2).lt (Nat.le_of_eq g12.symm))
  have ne_s_L2_b12 : s_L2 ≠ b12 := Nat.ne_of_lt (Nat.lt_of_lt_of_le (E_L2.ext O9.2).lt (Nat.le_of_eq g12.symm))
  have g_b12 : n0 ≤ b12 := Nat.le_trans (O9.1 ▸ O9.2.1) (Nat.le_of_eq g12.symm)
  have sz_b12 : h0.size ≤ b12 := Nat.le_trans K9.1 (Nat.le_of_eq g12.symm)
  have sn12 : Safe Z own_EL s.vm h9 b12 := Safe.new (Nat.le_of_eq g12.symm)
  rw [← g12] at A12 D12 st12
  have f13 := f11.ext E12
  have O12 := O9.ext E12
  have K12 : Keep h0 h12 [] := K9.ext E12
  have sf14 := Safe.ext E12 C9 sf10
  have sf15 := Safe.ext E12 C9 sn12
  have C12 : CHv Z own_EL s.vm h12 := C9.ext E12
  have R12 : CHr Z own_EL s.vm h0 s.vm h12 := R9.trans (CHr.ext E12 C9)
  have hk12 := Nat.le_trans hk9 E12.1
  have F12_21 : Fld Z h12 b12 "java/lang/String" "value" "[B" .null := D12 (Or.inr (hw _ (List.mem_of_getElem? (i := 21) rfl))) (ty := (.array .byte)) (by decide)
  have F12_22 : Fld Z h12 b12 "java/lang/String" "coder" "B" (.int (0 : Int32)) := D12 (Or.inr (hw _ (List.mem_of_getElem? (i := 22) rfl))) (ty := .byte) (by decide)
  obtain ⟨LL16, X16, N16⟩ : ∃ LL, Stand p l e room_1 (s.setVm s.vm) m #[(.int p1), (.int p2), (.int p3), (.int p4)] below meth c T12 LL 2 6 ∧ Fr n0 LL := ⟨_, X12, N9⟩
  obtain ⟨_, _, ⟨T17, L17, k17, n17⟩, -, X17, ⟨Lc17, hQ17, l17, y17, z17⟩, st17⟩ := X16.specialBack hx (y := (⟨"java/lang/String", "<init>", "([C)V"⟩ : MethodName)) rfl hown (mvT hZ (hw _ (List.mem_of_getElem? (i := 9) rfl))) (mvT hZ (hw _ (List.mem_of_getElem? (i := 10) rfl))) (mvT hZ (hw _ (List.mem_of_getElem? (i := 11) rfl))) (by decide) (backOf (W := 1) (r_s2 l Z a0 hw [] s_L1 s_L4 s_L3 s_L5 s_L2 cs1 h12 n0 O12 G0 b12 b2 k2 (nar .char ((p3 &&& (255 : Int32)).toUInt32.toUInt16.toUInt32.toInt32)) (nar .char ((p4 &&& (255 : Int32)).toUInt32.toUInt16.toUInt32.toInt32)) A12 g_b12 F12_22 F12_21 f13 (own_ch _) (own_ch _) ne_b2_b12) hZ (hw _ (List.mem_of_getElem? (i := 11) rfl)) (hw _ (List.mem_of_getElem? (i := 8) rfl)) (by decide) (by decide)) (g := (mkF m 104 #[.val (.int p1), .val (.int p2), .val (.int p3), .val (.int p4), .val (.int (0 : Int32)), .val .null, .val (.int (0 : Int32)), .val (.int (0 : Int32)), .val (.int (0 : Int32)), .val (.ref b2), .unset, .unset, .unset, .unset, .unset] [(.ref b2), (.ref b12), (.ref b12)])) rfl (by rw [hml]; rfl) (Steps.refl _) (a := b12) (argsL := [(.ref b2)]) (rest := [(.ref b12)]) (lenOf pd_5 rfl) rfl (by show 2 * 0 + _ ≤ _; exact Nat.le_of_eq rfl) (hb hby at_104) (fun _ _ => ⟨rfl, e12, (by decide : 2 + 1 ≤ _), (by decide : 6 + 2 ≤ _)⟩)
  dsimp only [Pt.U, Pt.locs, Pt.cells, Pt.slots] at X17 l17 y17 z17 st17 hQ17
  subst l17 y17 z17
  obtain ⟨rfl, N17q, Kq17⟩ := hQ17
  have N17 := Fr.app N16 N17q
  have f18 := f13.keep Kq17 (fun q => (List.mem_cons.mp q).elim ne_b2_b12 (fun q => nomatch q))
  have f19 := A12.keep Kq17
  have O17 := O12.keep Kq17 (allS g_b12 all0)
  have K17 : Keep h0 T17.heap [] := K12.trans Kq17 (allS (Or.inr sz_b12) all0)
  have sf20 := Safe.keep Kq17 (sfS sf15 sf0) C12 sf14
  have sf21 := Safe.keep Kq17 (sfS sf15 sf0) C12 sf15
  have C17 : CHv Z own_EL s.vm T17.heap := C12.keep Kq17 (sfS sf15 sf0)
  have R17 : CHr Z own_EL s.vm h0 s.vm T17.heap := R12.trans (CHr.keep Kq17 (sfS sf15 sf0) C12)
  have hk17 := Nat.le_trans hk12 Kq17.1
  obtain ⟨T22, h22, X22, e22, E22, A22, D22, -, st22⟩ := newO X17 hx hZ hown (hw _ (List.mem_of_getElem? (i := 27) rfl)) (hw _ (List.mem_of_getElem? (i := 28) rfl)) (hw _ (List.mem_of_getElem? (i := 29) rfl)) rfl (g := (mkF m 142 #[.val (.int p1), .val (.int p2), .val (.int p3), .val (.int p4), .val (.int (0 : Int32)), .val .null, .val (.int (0 : Int32)), .val (.int (0 : Int32)), .val (.int (0 : Int32)), .val (.ref b2), .val (.ref b12), .val .null, .val .null, .unset, .unset] [])) rfl (hb hby at_142) (by decide) (by decide)
  obtain ⟨b22, g22⟩ : ∃ z, z = T17.heap.size := ⟨_, rfl⟩
  have ne_b2_b22 : b2 ≠ b22 := Nat.ne_of_lt (Nat.lt_of_lt_of_le f18.lt (Nat.le_of_eq g22.symm))
  have ne_b12_b22 : b12 ≠ b22 := Nat.ne_of_lt (Nat.lt_of_lt_of_le f19.lt (Nat.le_of_eq g22.symm))
  have ne_s_L1_b22 : s_L1 ≠ b22 := Nat.ne_of_lt (Nat.lt_of_lt_of_le (E_L1.ext O17.2).lt (Nat.le_of_eq g22.symm))
  have ne_s_L4_b22 : s_L4 ≠ b22 := Nat.ne_of_lt (Nat.lt_of_lt_of_le (E_L4.ext O17.2).lt (Nat.le_of_eq g22.symm))
  have ne_s_L3_b22 : s_L3 ≠ b22 := Nat.ne_of_lt (Nat.lt_of_lt_of_le (E_L3.ext O17.2).lt (Nat.le_of_eq g22.symm))
  have ne_s_L5_b22 : s_L5 ≠ b22 := Nat.ne_of_lt (Nat.lt_of_lt_of_le (E_L5.ext O17.2).lt (Nat.le_of_eq g22.symm))
  have ne_s_L2_b22 : s_L2 ≠ b22 := Nat.ne_of_lt (Nat.lt_of_lt_of_le (E_L2.ext O17.2).lt (Nat.le_of_eq g22.symm))
  have g_b22 : n0 ≤ b22 := Nat.le_trans (O17.1 ▸ O17.2.1) (Nat.le_of_eq g22.symm)
  have sz_b22 : h0.size ≤ b22 := Nat.le_trans K17.1 (Nat.le_of_eq g22.symm)
  have sn22 : Safe Z own_EL s.vm T17.heap b22 := Safe.new (Nat.le_of_eq g22.symm)
  rw [← g22] at A22 D22 st22
  have f23 := f18.ext E22
  have f24 := f19.ext E22
  have O22 := O17.ext E22
  have K22 : Keep h0 h22 [] := K17.ext E22
  have sf25 := Safe.ext E22 C17 sf20
  have sf26 := Safe.ext E22 C17 sf21
  have sf27 := Safe.ext E22 C17 sn22
  have C22 : CHv Z own_EL s.vm h22 := C17.ext E22
  have R22 : CHr Z own_EL s.vm h0 s.vm h22 := R17.trans (CHr.ext E22 C17)
  have hk22 := Nat.le_trans hk17 E22.1
  have F22_35 : Fld Z h22 b22 "com/example/pending_actions/pendingactions/policy/Assessment" "tier" "Lcom/example/pending_actions/pendingactions/policy/RiskTier;" .null := D22 (Or.inr (hw _ (List.mem_of_getElem? (i := 35) rfl))) (ty := (.object "com/example/pending_actions/pendingactions/policy/RiskTier")) (by decide)
  have F22_37 : Fld Z h22 b22 "com/example/pending_actions/pendingactions/policy/Assessment" "decider" "Ljava/lang/String;" .null := D22 (Or.inr (hw _ (List.mem_of_getElem? (i := 37) rfl))) (ty := (.object "java/lang/String")) (by decide)
  have F22_39 : Fld Z h22 b22 "com/example/pending_actions/pendingactions/policy/Assessment" "policyVersion" "Ljava/lang/String;" .null := D22 (Or.inr (hw _ (List.mem_of_getElem? (i := 39) rfl))) (ty := (.object "java/lang/String")) (by decide)
  obtain ⟨_, _, ⟨T28, L28, k28, n28⟩, -, X28, ⟨Lc28, hQ28, l28, y28, z28⟩, st28⟩ := X22.specialBack hx (y := (⟨"com/example/pending_actions/pendingactions/policy/Assessment", "<init>", "(Lcom/example/pending_actions/pendingactions/policy/RiskTier;Ljava/lang/String;Ljava/lang/String;)V"⟩ : MethodName)) rfl hown (mvT hZ (hw _ (List.mem_of_getElem? (i := 30) rfl))) (mvT hZ (hw _ (List.mem_of_getElem? (i := 31) rfl))) (mvT hZ (hw _ (List.mem_of_getElem? (i := 32) rfl))) (by decide) (backOf (W := 1) (r_ai0 l Z a0 hw [] s_L1 s_L4 s_L3 s_L5 s_L2 cs1 h22 n0 O22 G0 b22  A22 g_b22 F22_35 F22_37 F22_39) hZ (hw _ (List.mem_of_getElem? (i := 32) rfl)) (hw _ (List.mem_of_getElem? (i := 29) rfl)) (by decide) (by decide)) (g := (mkF m 152 #[.val (.int p1), .val (.int p2), .val (.int p3), .val (.int p4), .val (.int (0 : Int32)), .val .null, .val (.int (0 : Int32)), .val (.int (0 : Int32)), .val (.int (0 : Int32)), .val (.ref b2), .val (.ref b12), .val .null, .val .null, .unset, .unset] [.null, .null, .null, (.ref b22), (.ref b22)])) rfl (by rw [hml]; rfl) (Steps.refl _) (a := b22) (argsL := [.null, .null, .null]) (rest := [(.ref b22)]) (lenOf pd_6 rfl) rfl (by show 2 * 0 + _ ≤ _; exact Nat.le_of_eq rfl) (hb hby at_152) (fun _ _ => ⟨rfl, e22, (by decide : 4 + 0 ≤ _), (by decide : 11 + 0 ≤ _)⟩)
  dsimp only [Pt.U, Pt.locs, Pt.cells, Pt.slots] at X28 l28 y28 z28 st28 hQ28
  subst l28 y28 z28
  obtain ⟨rfl, N28q, Kq28, Ft28, Fd28⟩ := hQ28
  have N28 := Fr.app N17 N28q
  have f29 := f23.keep Kq28 (fun q => (List.mem_cons.mp q).elim ne_b2_b22 (fun q => nomatch q))
  have f30 := f24.keep Kq28
  have f31 := A22.keep Kq28
  have O28 := O22.keep Kq28 (allS g_b22 all0)
  have K28 : Keep h0 T28.heap [] := K22.trans Kq28 (allS (Or.inr sz_b22) all0)
  have sf32 := Safe.keep Kq28 (sfS sf27 sf0) C22 sf25
  have sf33 := Safe.keep Kq28 (sfS sf27 sf0) C22 sf26
  have sf34 := Safe.keep Kq28 (sfS sf27 sf0) C22 sf27
  have C28 : CHv Z own_EL s.vm T28.heap := C22.keep Kq28 (sfS sf27 sf0)
  have R28 : CHr Z own_EL s.vm h0 s.vm T28.heap := R22.trans (CHr.keep Kq28 (sfS sf27 sf0) C22)
  have hk28 := Nat.le_trans hk22 Kq28.1
  obtain ⟨cq35, kq35, q35a, q35b, q35c⟩ := isOf hZ rfl f31
  obtain ⟨_, _, ⟨T35, L35, k35, n35⟩, -, X35, ⟨Lc35, hQ35, l35, y35, z35⟩, st35⟩ := X28.virtualBack hx (y := (⟨"com/example/pending_actions/pendingactions/policy/Assessment", "isAutoApproved", "()Z"⟩ : MethodName)) (z := (⟨"com/example/pending_actions/pendingactions/policy/Assessment", "isAutoApproved", "()Z"⟩ : MethodName)) hown (mvT hZ (hw _ (List.mem_of_getElem? (i := 40) rfl))) (mvT hZ (hw _ (List.mem_of_getElem? (i := 41) rfl))) (notFace_of_selects (args := #[]) (mvT hZ (hw _ (List.mem_of_getElem? (i := 43) rfl)))) (mvT hZ (hw _ (List.mem_of_getElem? (i := 43) rfl))) (mvT hZ (hw _ (List.mem_of_getElem? (i := 42) rfl))) (by decide) (backOf (W := 0) (r_aa0 l Z a0 hw [] s_L1 s_L4 s_L3 s_L5 s_L2 cs1 T28.heap n0 O28 G0 b22  Ft28 Fd28) hZ (hw _ (List.mem_of_getElem? (i := 44) rfl)) (hw _ (List.mem_of_getElem? (i := 29) rfl)) (by decide) (by decide)) q35a q35c (g := (mkF m 176 #[.val (.int p1), .val (.int p2), .val (.int p3), .val (.int p4), .val (.int (0 : Int32)), .val .null, .val (.int (0 : Int32)), .val (.int (0 : Int32)), .val (.int (0 : Int32)), .val (.ref b2), .val (.ref b12), .val .null, .val .null, .val (.ref b22), .val (.int (0 : Int32))] [(.ref b22)])) rfl (by rw [hml]; rfl) (Steps.refl _) (argsL := []) (rest := []) (lenOf pd_7 rfl) rfl (by show 2 * 0 + _ ≤ _; exact Nat.le_of_eq rfl) (hb hby at_176) (fun _ _ => ⟨rfl, rfl, (by decide : 4 + 0 ≤ _), (by decide : 11 + 0 ≤ _)⟩)
  dsimp only [Pt.U, Pt.locs, Pt.cells, Pt.slots] at X35 l35 y35 z35 st35 hQ35
  subst l35 y35 z35
  obtain ⟨rfl, N35q, e35⟩ := hQ35
  have N35 := Fr.app N28 N35q
  obtain ⟨fs, hr, hrun, hended, hRW⟩ := X35.leaveW hS0 (by rw [e35]; exact hk28) (v := some (.int (1 : Int32))) (fun h => by rw [Bd.returns] at h; cases h)
  refine ⟨_, _, pre0 _ ?_, hrun, hended, _, _, rfl, ?_, ?_, hRW.1, hRW.2.1, hRW.2.2.1, hRW.2.2.2.mono (by decide) (by decide)⟩
  · show Steps p.tables e below (s₁.setTop (mkF m 0 #[.val (.int p1), .val (.int p2), .val (.int p3), .val (.int p4), .unset, .unset, .unset, .unset, .unset, .unset, .unset, .unset, .unset, .unset, .unset] [])) _
    refine XS.iloadN X0.here hx rfl (hb hby at_0) rfl ?_
    show Steps p.tables e below (s₁.setTop (mkF m 1 #[.val (.int p1), .val (.int p2), .val (.int p3), .val (.int p4), .unset, .unset, .unset, .unset, .unset, .unset, .unset, .unset, .unset, .unset, .unset] [(.int p1)])) _
    refine X0.ldcInt hx hown (mvT hZ (hw _ (List.mem_of_getElem? (i := 0) rfl))) (g := (mkF m 1 #[.val (.int p1), .val (.int p2), .val (.int p3), .val (.int p4), .unset, .unset, .unset, .unset, .unset, .unset, .unset, .unset, .unset, .unset, .unset] [(.int p1)])) rfl (hb hby at_1) _ ?_
    show Steps p.tables e below (s₁.setTop (mkF m 3 #[.val (.int p1), .val (.int p2), .val (.int p3), .val (.int p4), .unset, .unset, .unset, .unset, .unset, .unset, .unset, .unset, .unset, .unset, .unset] [(.int (2147483647 : Int32)), (.int p1)])) _
    refine XS.iand X0.here hx rfl (hb hby at_3) rfl ?_
    refine XS.bipush X0.here hx rfl (hb hby at_4) ?_
    show Steps p.tables e below (s₁.setTop (mkF m 6 #[.val (.int p1), .val (.int p2), .val (.int p3), .val (.int p4), .unset, .unset, .unset, .unset, .unset, .unset, .unset, .unset, .unset, .unset, .unset] [(.int (6 : Int32)), (.int (p1 &&& (2147483647 : Int32)))])) _
    refine iremM X0 hx rfl (hb hby at_6) rfl (by decide) ?_
    show Steps p.tables e below (s₁.setTop (mkF m 7 #[.val (.int p1), .val (.int p2), .val (.int p3), .val (.int p4), .unset, .unset, .unset, .unset, .unset, .unset, .unset, .unset, .unset, .unset, .unset] [(.int ((p1 &&& (2147483647 : Int32)) % (6 : Int32)))])) _
    rw [hk]
    show Steps p.tables e below (s₁.setTop (mkF m 7 #[.val (.int p1), .val (.int p2), .val (.int p3), .val (.int p4), .unset, .unset, .unset, .unset, .unset, .unset, .unset, .unset, .unset, .unset, .unset] [(.int (0 : Int32))])) _
    refine XS.istore X0.here hx rfl (hb hby at_7) rfl (l' := #[.val (.int p1), .val (.int p2), .val (.int p3), .val (.int p4), .val (.int (0 : Int32)), .unset, .unset, .unset, .unset, .unset, .unset, .unset, .unset, .unset, .unset]) rfl ?_
    refine XS.iload X0.here hx rfl (hb hby at_9) rfl ?_
    show Steps p.tables e below (s₁.setTop (mkF m 11 #[.val (.int p1), .val (.int p2), .val (.int p3), .val (.int p4), .val (.int (0 : Int32)), .unset, .unset, .unset, .unset, .unset, .unset, .unset, .unset, .unset, .unset] [(.int (0 : Int32))])) _
    refine st1 _ ?_
    show Steps p.tables e below (T1.setTop (mkF m 14 #[.val (.int p1), .val (.int p2), .val (.int p3), .val (.int p4), .val (.int (0 : Int32)), .unset, .unset, .unset, .unset, .unset, .unset, .unset, .unset, .unset, .unset] [.null])) _
    refine XS.astore X1.here hx rfl (hb hby at_14) rfl rfl (l' := #[.val (.int p1), .val (.int p2), .val (.int p3), .val (.int p4), .val (.int (0 : Int32)), .val .null, .unset, .unset, .unset, .unset, .unset, .unset, .unset, .unset, .unset]) rfl ?_
    refine XS.iloadN X1.here hx rfl (hb hby at_16) rfl ?_
    refine XS.iconst X1.here hx rfl (hb hby at_17) ?_
    refine XS.iand X1.here hx rfl (hb hby at_18) rfl ?_
    refine XS.ifYes X1.here hx rfl (pc0 := 19) (pc' := 26) rfl (hb hby at_19) rfl ((if0 _ _).trans (teq (hf0_ : (p2 &&& (1 : Int32)) = (0 : Int32))).1) (by decide) (by decide) ?_
    show Steps p.tables e below (T1.setTop (mkF m 26 #[.val (.int p1), .val (.int p2), .val (.int p3), .val (.int p4), .val (.int (0 : Int32)), .val .null, .unset, .unset, .unset, .unset, .unset, .unset, .unset, .unset, .unset] [])) _
    refine XS.iconst X1.here hx rfl (hb hby at_26) ?_
    refine XS.istore X1.here hx rfl (hb hby at_27) rfl (l' := #[.val (.int p1), .val (.int p2), .val (.int p3), .val (.int p4), .val (.int (0 : Int32)), .val .null, .val (.int (0 : Int32)), .unset, .unset, .unset, .unset, .unset, .unset, .unset, .unset]) rfl ?_
    refine XS.iloadN X1.here hx rfl (hb hby at_29) rfl ?_
    refine XS.iconst X1.here hx rfl (hb hby at_30) ?_
    refine XS.iand X1.here hx rfl (hb hby at_31) rfl ?_
    show Steps p.tables e below (T1.setTop (mkF m 32 #[.val (.int p1), .val (.int p2), .val (.int p3), .val (.int p4), .val (.int (0 : Int32)), .val .null, .val (.int (0 : Int32)), .unset, .unset, .unset, .unset, .unset, .unset, .unset, .unset] [(.int (p2 &&& (2 : Int32)))])) _
    refine XS.ifYes X1.here hx rfl (pc0 := 32) (pc' := 39) rfl (hb hby at_32) rfl ((if0 _ _).trans (teq (hf1_ : (p2 &&& (2 : Int32)) = (0 : Int32))).1) (by decide) (by decide) ?_
    refine XS.iconst X1.here hx rfl (hb hby at_39) ?_
    refine XS.istore X1.here hx rfl (hb hby at_40) rfl (l' := #[.val (.int p1), .val (.int p2), .val (.int p3), .val (.int p4), .val (.int (0 : Int32)), .val .null, .val (.int (0 : Int32)), .val (.int (0 : Int32)), .unset, .unset, .unset, .unset, .unset, .unset, .unset]) rfl ?_
    refine XS.iloadN X1.here hx rfl (hb hby at_42) rfl ?_
    refine XS.iconst X1.here hx rfl (hb hby at_43) ?_
    show Steps p.tables e below (T1.setTop (mkF m 44 #[.val (.int p1), .val (.int p2), .val (.int p3), .val (.int p4), .val (.int (0 : Int32)), .val .null, .val (.int (0 : Int32)), .val (.int (0 : Int32)), .unset, .unset, .unset, .unset, .unset, .unset, .unset] [(.int (4 : Int32)), (.int p2)])) _
    refine XS.iand X1.here hx rfl (hb hby at_44) rfl ?_
    refine XS.ifYes X1.here hx rfl (pc0 := 45) (pc' := 52) rfl (hb hby at_45) rfl ((if0 _ _).trans (teq (hf2_ : (p2 &&& (4 : Int32)) = (0 : Int32))).1) (by decide) (by decide) ?_
    refine XS.iconst X1.here hx rfl (hb hby at_52) ?_
    refine XS.istore X1.here hx rfl (hb hby at_53) rfl (l' := #[.val (.int p1), .val (.int p2), .val (.int p3), .val (.int p4), .val (.int (0 : Int32)), .val .null, .val (.int (0 : Int32)), .val (.int (0 : Int32)), .val (.int (0 : Int32)), .unset, .unset, .unset, .unset, .unset, .unset]) rfl ?_
    refine XS.iconst X1.here hx rfl (hb hby at_55) ?_
    show Steps p.tables e below (T1.setTop (mkF m 56 #[.val (.int p1), .val (.int p2), .val (.int p3), .val (.int p4), .val (.int (0 : Int32)), .val .null, .val (.int (0 : Int32)), .val (.int (0 : Int32)), .val (.int (0 : Int32)), .unset, .unset, .unset, .unset, .unset, .unset] [(.int (2 : Int32))])) _
    refine st2 _ ?_
    show Steps p.tables e below (T2.setTop (mkF m 58 #[.val (.int p1), .val (.int p2), .val (.int p3), .val (.int p4), .val (.int (0 : Int32)), .val .null, .val (.int (0 : Int32)), .val (.int (0 : Int32)), .val (.int (0 : Int32)), .unset, .unset, .unset, .unset, .unset, .unset] [(.ref b2)])) _
    refine XS.astore X2.here hx rfl (hb hby at_58) rfl rfl (l' := #[.val (.int p1), .val (.int p2), .val (.int p3), .val (.int p4), .val (.int (0 : Int32)), .val .null, .val (.int (0 : Int32)), .val (.int (0 : Int32)), .val (.int (0 : Int32)), .val (.ref b2), .unset, .unset, .unset, .unset, .unset]) rfl ?_
    refine XS.aload X2.here hx rfl (hb hby at_60) rfl rfl ?_
    refine XS.iconst X2.here hx rfl (hb hby at_62) ?_
    refine XS.iloadN X2.here hx rfl (hb hby at_63) rfl ?_
    refine XS.sipush X2.here hx rfl (hb hby at_64) ?_
    show Steps p.tables e below (T2.setTop (mkF m 67 #[.val (.int p1), .val (.int p2), .val (.int p3), .val (.int p4), .val (.int (0 : Int32)), .val .null, .val (.int (0 : Int32)), .val (.int (0 : Int32)), .val (.int (0 : Int32)), .val (.ref b2), .unset, .unset, .unset, .unset, .unset] [(.int (255 : Int32)), (.int p3), (.int (0 : Int32)), (.ref b2)])) _
    refine XS.iand X2.here hx rfl (hb hby at_67) rfl ?_
    refine XS.i2c X2.here hx rfl (hb hby at_68) rfl ?_
    show Steps p.tables e below (T2.setTop (mkF m 69 #[.val (.int p1), .val (.int p2), .val (.int p3), .val (.int p4), .val (.int (0 : Int32)), .val .null, .val (.int (0 : Int32)), .val (.int (0 : Int32)), .val (.int (0 : Int32)), .val (.ref b2), .unset, .unset, .unset, .unset, .unset] [(.int ((p3 &&& (255 : Int32)).toUInt32.toUInt16.toUInt32.toInt32)), (.int (0 : Int32)), (.ref b2)])) _
    refine st5 _ ?_
    show Steps p.tables e below (T5.setTop (mkF m 70 #[.val (.int p1), .val (.int p2), .val (.int p3), .val (.int p4), .val (.int (0 : Int32)), .val .null, .val (.int (0 : Int32)), .val (.int (0 : Int32)), .val (.int (0 : Int32)), .val (.ref b2), .unset, .unset, .unset, .unset, .unset] [])) _
    refine XS.aload X5.here hx rfl (hb hby at_70) rfl rfl ?_
    refine XS.iconst X5.here hx rfl (hb hby at_72) ?_
    refine XS.iloadN X5.here hx rfl (hb hby at_73) rfl ?_
    refine XS.sipush X5.here hx rfl (hb hby at_74) ?_
    refine XS.iand X5.here hx rfl (hb hby at_77) rfl ?_
    show Steps p.tables e below (T5.setTop (mkF m 78 #[.val (.int p1), .val (.int p2), .val (.int p3), .val (.int p4), .val (.int (0 : Int32)), .val .null, .val (.int (0 : Int32)), .val (.int (0 : Int32)), .val (.int (0 : Int32)), .val (.ref b2), .unset, .unset, .unset, .unset, .unset] [(.int (p4 &&& (255 : Int32))), (.int (1 : Int32)), (.ref b2)])) _
    refine XS.i2c X5.here hx rfl (hb hby at_78) rfl ?_
    show Steps p.tables e below (T5.setTop (mkF m 79 #[.val (.int p1), .val (.int p2), .val (.int p3), .val (.int p4), .val (.int (0 : Int32)), .val .null, .val (.int (0 : Int32)), .val (.int (0 : Int32)), .val (.int (0 : Int32)), .val (.ref b2), .unset, .unset, .unset, .unset, .unset] [(.int ((p4 &&& (255 : Int32)).toUInt32.toUInt16.toUInt32.toInt32)), (.int (1 : Int32)), (.ref b2)])) _
    refine st9 _ ?_
    show Steps p.tables e below (T9.setTop (mkF m 80 #[.val (.int p1), .val (.int p2), .val (.int p3), .val (.int p4), .val (.int (0 : Int32)), .val .null, .val (.int (0 : Int32)), .val (.int (0 : Int32)), .val (.int (0 : Int32)), .val (.ref b2), .unset, .unset, .unset, .unset, .unset] [])) _
    refine XS.iload X9.here hx rfl (hb hby at_80) rfl ?_
    refine XS.ifYes X9.here hx rfl (pc0 := 82) (pc' := 98) rfl (hb hby at_82) rfl ((if0 _ _).trans (teq (by decide : (0 : Int32) = (0 : Int32))).1) (by decide) (by decide) ?_
    show Steps p.tables e below (T9.setTop (mkF m 98 #[.val (.int p1), .val (.int p2), .val (.int p3), .val (.int p4), .val (.int (0 : Int32)), .val .null, .val (.int (0 : Int32)), .val (.int (0 : Int32)), .val (.int (0 : Int32)), .val (.ref b2), .unset, .unset, .unset, .unset, .unset] [])) _
    refine st12 _ ?_
    show Steps p.tables e below (T12.setTop (mkF m 101 #[.val (.int p1), .val (.int p2), .val (.int p3), .val (.int p4), .val (.int (0 : Int32)), .val .null, .val (.int (0 : Int32)), .val (.int (0 : Int32)), .val (.int (0 : Int32)), .val (.ref b2), .unset, .unset, .unset, .unset, .unset] [(.ref b12)])) _
    refine XS.dup X12.here hx rfl (hb hby at_101) rfl rfl ?_
    refine XS.aload X12.here hx rfl (hb hby at_102) rfl rfl ?_
    show Steps p.tables e below (T12.setTop (mkF m 104 #[.val (.int p1), .val (.int p2), .val (.int p3), .val (.int p4), .val (.int (0 : Int32)), .val .null, .val (.int (0 : Int32)), .val (.int (0 : Int32)), .val (.int (0 : Int32)), .val (.ref b2), .unset, .unset, .unset, .unset, .unset] [(.ref b2), (.ref b12), (.ref b12)])) _
    refine st17.trans ?_
    show Steps p.tables e below (T17.setTop (mkF m 107 #[.val (.int p1), .val (.int p2), .val (.int p3), .val (.int p4), .val (.int (0 : Int32)), .val .null, .val (.int (0 : Int32)), .val (.int (0 : Int32)), .val (.int (0 : Int32)), .val (.ref b2), .unset, .unset, .unset, .unset, .unset] [(.ref b12)])) _
    refine XS.astore X17.here hx rfl (hb hby at_107) rfl rfl (l' := #[.val (.int p1), .val (.int p2), .val (.int p3), .val (.int p4), .val (.int (0 : Int32)), .val .null, .val (.int (0 : Int32)), .val (.int (0 : Int32)), .val (.int (0 : Int32)), .val (.ref b2), .val (.ref b12), .unset, .unset, .unset, .unset]) rfl ?_
    refine XS.iload X17.here hx rfl (hb hby at_109) rfl ?_
    refine XS.ifYes X17.here hx rfl (pc0 := 111) (pc' := 119) rfl (hb hby at_111) rfl ((if0 _ _).trans (teq (by decide : (0 : Int32) = (0 : Int32))).1) (by decide) (by decide) ?_
    refine XS.aconstNull X17.here hx rfl (hb hby at_119) ?_
    refine XS.astore X17.here hx rfl (hb hby at_120) rfl rfl (l' := #[.val (.int p1), .val (.int p2), .val (.int p3), .val (.int p4), .val (.int (0 : Int32)), .val .null, .val (.int (0 : Int32)), .val (.int (0 : Int32)), .val (.int (0 : Int32)), .val (.ref b2), .val (.ref b12), .val .null, .unset, .unset, .unset]) rfl ?_
    show Steps p.tables e below (T17.setTop (mkF m 122 #[.val (.int p1), .val (.int p2), .val (.int p3), .val (.int p4), .val (.int (0 : Int32)), .val .null, .val (.int (0 : Int32)), .val (.int (0 : Int32)), .val (.int (0 : Int32)), .val (.ref b2), .val (.ref b12), .val .null, .unset, .unset, .unset] [])) _
    refine XS.iload X17.here hx rfl (hb hby at_122) rfl ?_
    refine XS.ifYes X17.here hx rfl (pc0 := 124) (pc' := 139) rfl (hb hby at_124) rfl ((if0 _ _).trans (teq (by decide : (0 : Int32) = (0 : Int32))).1) (by decide) (by decide) ?_
    refine XS.aconstNull X17.here hx rfl (hb hby at_139) ?_
    refine XS.astore X17.here hx rfl (hb hby at_140) rfl rfl (l' := #[.val (.int p1), .val (.int p2), .val (.int p3), .val (.int p4), .val (.int (0 : Int32)), .val .null, .val (.int (0 : Int32)), .val (.int (0 : Int32)), .val (.int (0 : Int32)), .val (.ref b2), .val (.ref b12), .val .null, .val .null, .unset, .unset]) rfl ?_
    show Steps p.tables e below (T17.setTop (mkF m 142 #[.val (.int p1), .val (.int p2), .val (.int p3), .val (.int p4), .val (.int (0 : Int32)), .val .null, .val (.int (0 : Int32)), .val (.int (0 : Int32)), .val (.int (0 : Int32)), .val (.ref b2), .val (.ref b12), .val .null, .val .null, .unset, .unset] [])) _
    refine st22 _ ?_
    show Steps p.tables e below (T22.setTop (mkF m 145 #[.val (.int p1), .val (.int p2), .val (.int p3), .val (.int p4), .val (.int (0 : Int32)), .val .null, .val (.int (0 : Int32)), .val (.int (0 : Int32)), .val (.int (0 : Int32)), .val (.ref b2), .val (.ref b12), .val .null, .val .null, .unset, .unset] [(.ref b22)])) _
    refine XS.dup X22.here hx rfl (hb hby at_145) rfl rfl ?_
    refine XS.aload X22.here hx rfl (hb hby at_146) rfl rfl ?_
    refine XS.aload X22.here hx rfl (hb hby at_148) rfl rfl ?_
    refine XS.aload X22.here hx rfl (hb hby at_150) rfl rfl ?_
    show Steps p.tables e below (T22.setTop (mkF m 152 #[.val (.int p1), .val (.int p2), .val (.int p3), .val (.int p4), .val (.int (0 : Int32)), .val .null, .val (.int (0 : Int32)), .val (.int (0 : Int32)), .val (.int (0 : Int32)), .val (.ref b2), .val (.ref b12), .val .null, .val .null, .unset, .unset] [.null, .null, .null, (.ref b22), (.ref b22)])) _
    refine st28.trans ?_
    show Steps p.tables e below (T28.setTop (mkF m 155 #[.val (.int p1), .val (.int p2), .val (.int p3), .val (.int p4), .val (.int (0 : Int32)), .val .null, .val (.int (0 : Int32)), .val (.int (0 : Int32)), .val (.int (0 : Int32)), .val (.ref b2), .val (.ref b12), .val .null, .val .null, .unset, .unset] [(.ref b22)])) _
    refine XS.astore X28.here hx rfl (hb hby at_155) rfl rfl (l' := #[.val (.int p1), .val (.int p2), .val (.int p3), .val (.int p4), .val (.int (0 : Int32)), .val .null, .val (.int (0 : Int32)), .val (.int (0 : Int32)), .val (.int (0 : Int32)), .val (.ref b2), .val (.ref b12), .val .null, .val .null, .val (.ref b22), .unset]) rfl ?_
    refine XS.iload X28.here hx rfl (hb hby at_157) rfl ?_
    refine XS.ifYes X28.here hx rfl (pc0 := 159) (pc' := 171) rfl (hb hby at_159) rfl ((if0 _ _).trans (teq (by decide : (0 : Int32) = (0 : Int32))).1) (by decide) (by decide) ?_
    refine XS.iconst X28.here hx rfl (hb hby at_171) ?_
    refine XS.istore X28.here hx rfl (hb hby at_172) rfl (l' := #[.val (.int p1), .val (.int p2), .val (.int p3), .val (.int p4), .val (.int (0 : Int32)), .val .null, .val (.int (0 : Int32)), .val (.int (0 : Int32)), .val (.int (0 : Int32)), .val (.ref b2), .val (.ref b12), .val .null, .val .null, .val (.ref b22), .val (.int (0 : Int32))]) rfl ?_
    show Steps p.tables e below (T28.setTop (mkF m 174 #[.val (.int p1), .val (.int p2), .val (.int p3), .val (.int p4), .val (.int (0 : Int32)), .val .null, .val (.int (0 : Int32)), .val (.int (0 : Int32)), .val (.int (0 : Int32)), .val (.ref b2), .val (.ref b12), .val .null, .val .null, .val (.ref b22), .val (.int (0 : Int32))] [])) _
    refine XS.aload X28.here hx rfl (hb hby at_174) rfl rfl ?_
    show Steps p.tables e below (T28.setTop (mkF m 176 #[.val (.int p1), .val (.int p2), .val (.int p3), .val (.int p4), .val (.int (0 : Int32)), .val .null, .val (.int (0 : Int32)), .val (.int (0 : Int32)), .val (.int (0 : Int32)), .val (.ref b2), .val (.ref b12), .val .null, .val .null, .val (.ref b22), .val (.int (0 : Int32))] [(.ref b22)])) _
    refine st35.trans ?_
    show Steps p.tables e below (T35.setTop (mkF m 179 #[.val (.int p1), .val (.int p2), .val (.int p3), .val (.int p4), .val (.int (0 : Int32)), .val .null, .val (.int (0 : Int32)), .val (.int (0 : Int32)), .val (.int (0 : Int32)), .val (.ref b2), .val (.ref b12), .val .null, .val .null, .val (.ref b22), .val (.int (0 : Int32))] [(.int (0 : Int32))])) _
    refine XS.iload X35.here hx rfl (hb hby at_179) rfl ?_
    refine XS.icmpNo X35.here hx rfl (hb hby at_181) rfl (teq (by decide : (0 : Int32) = (0 : Int32))).2 ?_
    refine XS.iconst X35.here hx rfl (hb hby at_184) ?_
    refine XS.goto X35.here hx rfl (pc0 := 185) (pc' := 189) rfl (hb hby at_185) (by decide) (by decide) ?_
    show Steps p.tables e below (T35.setTop (mkF m 189 #[.val (.int p1), .val (.int p2), .val (.int p3), .val (.int p4), .val (.int (0 : Int32)), .val .null, .val (.int (0 : Int32)), .val (.int (0 : Int32)), .val (.int (0 : Int32)), .val (.ref b2), .val (.ref b12), .val .null, .val .null, .val (.ref b22), .val (.int (0 : Int32))] [(.int (1 : Int32))])) _
    exact retN X35 hx (t := .boolean) Bd.returns (by simp) (hb hby at_189) hr
  · show own_Qk (some (.int (1 : Int32))) [] h0 n0 _ T35.heap _
    rw [e35]
    exact ⟨rfl, N35, K28⟩
  · show CHr Z own_EL s.vm s.heap T35.vm T35.heap
    rw [hh, e35]
    exact R28.trans (CHv.at (s := s) (vm0 := s.vm) X35 hZ hEL C28)
set_option maxRecDepth 65536 in
set_option maxHeartbeats 40000000 in
theorem r_law1 (l : Launch) (Z : State) (a0 : Array Value) (hw : ∀ d ∈ tables_1, d.before a0 Z = true) (ws : List Jvm.Cond) (s_L1 s_L4 s_L3 s_L5 s_L2 : Addr) (cs1 : Int32) (h0 : Heap) (n0 : Nat) (O0 : Old Z n0 h0) (G : own_Ctx Z Z.heap s_L1 s_L4 s_L3 s_L5 s_L2 cs1) (hEL : EW Z a0 own_EL) (wS : ∀ a ∈ Bundle.stringAtoms, a.before a0 Z = true) (p1 p2 p3 p4 : Int32) (kk : Int32) (hk : (p1 &&& (2147483647 : Int32)) % (6 : Int32) = kk) (hk1 : kk = (1 : Int32) ∨ kk = (2 : Int32) ∨ kk = (3 : Int32) ∨ kk = (4 : Int32) ∨ kk = (5 : Int32)) (hf0_ : (p2 &&& (1 : Int32)) = (0 : Int32)) (hf1_ : (p2 &&& (2 : Int32)) = (0 : Int32)) (hf2_ : (p2 &&& (4 : Int32)) = (0 : Int32)) :
    MetFree l x (head1 (Jvm.Cond.code x code maxLocals ret :: ws) room_1) (fun a U => a = #[(.int p1), (.int p2), (.int p3), (.int p4)] ∧ Z.Warmed39 U.vm ∧ U.heap = h0 ∧ CHv Z own_EL U.vm h0) (fun _ _ _ _ _ => True) (fun _ U o U' => ∃ v L, o = .returned v ∧ own_Qk (some (.int (1 : Int32))) [] h0 n0 v U'.heap L ∧ CHr Z own_EL U.vm U.heap U'.vm U'.heap ∧ ReturnedEndW U o U' L 24 1152) := by
  have G0 := G
  obtain ⟨S_L1, E_L1, S_L4, E_L4, S_L3, E_L3, S_L5, E_L5, S_L2, E_L2, S_CS, N_CS⟩ := G
  refine MetFree.of_bodySF (plainFor_of_name pn_0) hisR ?_
  intro p e s m args below meth c s₁ Bd hml0 hP hK
  obtain ⟨rfl, hZ, hh, hC⟩ := hP
  have hx := Bd.exec
  have hby := Bd.bytes
  have hml : c.maxLocals = 15 := hml0
  have hown : s.vm.findClass "com/example/pending_actions/pendingactions/policy/AssessmentIsAutoApprovedPinLaw" = some m.cls := findClass_of_methodNamed Bd.named
  have hnm := (name_of_methodNamed Bd.named Bd.method).1
  have X0 : Stand p l e room_1 (s.setVm s.vm) m #[(.int p1), (.int p2), (.int p3), (.int p4)] below meth c s₁ [] 0 0 := Stand.of_body Bd
  have e0 : s₁.heap = h0 := by rw [← hh, Bd.state]; rfl
  have N0 := Fr.nil n0
  have hS0 : s.Since s.vm h0.size := State.WarmedH.since (State.WarmedH.refl s) _
  have hk0 : h0.size ≤ h0.size := Nat.le_refl _
  have pre0 : ∀ t, Steps p.tables e below (s₁.setTop (mkF m 0 #[.val (.int p1), .val (.int p2), .val (.int p3), .val (.int p4), .unset, .unset, .unset, .unset, .unset, .unset, .unset, .unset, .unset, .unset, .unset] [])) t → Steps p.tables e below (s₁.setTop (entryFrame m #[(.int p1), (.int p2), (.int p3), (.int p4)] maxLocals)) t := fun t k => castTop (ef_0_15 m p1 p2 p3 p4) k
  obtain ⟨_, _, ⟨T1, L1, k1, n1⟩, -, X1, ⟨Lc1, hQ1, l1, y1, z1⟩, st1⟩ := Jvm.LawKit.callS X0 hx (y := (⟨"com/example/pending_actions/pendingactions/policy/AssessmentIsAutoApprovedPinLaw", "pick", "(I)Lcom/example/pending_actions/pendingactions/policy/RiskTier;"⟩ : MethodName)) hown (mvT hZ (hw _ (List.mem_of_getElem? (i := 1) rfl))) (mvT hZ (hw _ (List.mem_of_getElem? (i := 2) rfl))) (mvT hZ (hw _ (List.mem_of_getElem? (i := 3) rfl))) (mvT hZ (hw _ (List.mem_of_getElem? (i := 4) rfl))) (by decide) (backOf (W := 0) (r_tierN l Z a0 hw [] s_L1 s_L4 s_L3 s_L5 s_L2 cs1 h0 n0 O0 G0 kk hk1) hZ (hw _ (List.mem_of_getElem? (i := 4) rfl)) (hw _ (List.mem_of_getElem? (i := 3) rfl)) (by decide) (by decide)) (g := (mkF m 11 #[.val (.int p1), .val (.int p2), .val (.int p3), .val (.int p4), .val (.int kk), .unset, .unset, .unset, .unset, .unset, .unset, .unset, .unset, .unset, .unset] [(.int kk)])) rfl (by rw [hml]; rfl) (argsL := [(.int kk)]) (rest := []) (lenOf pd_4 rfl) rfl (by show 2 * 0 + _ ≤ _; exact Nat.le_of_eq rfl) (hb hby at_11) (fun _ _ => ⟨rfl, e0, (by decide : 0 + 0 ≤ _), (by decide : 0 + 0 ≤ _)⟩)
  dsimp only [Pt.U, Pt.locs, Pt.cells, Pt.slots] at X1 l1 y1 z1 st1 hQ1
  subst l1 y1 z1
  obtain ⟨ta1, rfl, N1q, e1⟩ := hQ1
  have N1 := Fr.app N0 N1q
  obtain ⟨T2, h2, k2, X2, e2, E2, A2, st2⟩ := newP X1 hx hZ (hw _ (List.mem_of_getElem? (i := 5) rfl)) e1 (g := (mkF m 56 #[.val (.int p1), .val (.int p2), .val (.int p3), .val (.int p4), .val (.int kk), .val (.ref ta1), .val (.int (0 : Int32)), .val (.int (0 : Int32)), .val (.int (0 : Int32)), .unset, .unset, .unset, .unset, .unset, .unset] [(.int (2 : Int32))])) rfl (hb hby at_56) rfl (by decide) (cap := 2) (by decide) (by decide) (by decide) (by decide)
  obtain ⟨b2, g2⟩ : ∃ z, z = h0.size := ⟨_, rfl⟩
  have ne_s_L1_b2 : s_L1 ≠ b2 := Nat.ne_of_lt (Nat.lt_of_lt_of_le (E_L1.ext O0.2).lt (Nat.le_of_eq g2.symm))
  have ne_s_L4_b2 : s_L4 ≠ b2 := Nat.ne_of_lt (Nat.lt_of_lt_of_le (E_L4.ext O0.2).lt (Nat.le_of_eq g2.symm))
  have ne_s_L3_b2 : s_L3 ≠ b2 := Nat.ne_of_lt (Nat.lt_of_lt_of_le (E_L3.ext O0.2).lt (Nat.le_of_eq g2.symm))
  have ne_s_L5_b2 : s_L5 ≠ b2 := Nat.ne_of_lt (Nat.lt_of_lt_of_le (E_L5.ext O0.2).lt (Nat.le_of_eq g2.symm))
  have ne_s_L2_b2 : s_L2 ≠ b2 := Nat.ne_of_lt (Nat.lt_of_lt_of_le (E_L2.ext O0.2).lt (Nat.le_of_eq g2.symm))
  have g_b2 : n0 ≤ b2 := Nat.le_trans (O0.1 ▸ O0.2.1) (Nat.le_of_eq g2.symm)
  have sz_b2 : h0.size ≤ b2 := Nat.le_trans (Keep.refl h0 []).1 (Nat.le_of_eq g2.symm)
  have sn2 : Safe Z own_EL s.vm h0 b2 := Safe.new (Nat.le_of_eq g2.symm)
  rw [← g2] at A2 st2
  have O2 := O0.ext E2
  have K2 : Keep h0 h2 [] := (Keep.refl h0 []).ext E2
  have sf3 := Safe.ext E2 hC sn2
  have C2 : CHv Z own_EL s.vm h2 := hC.ext E2
  have R2 : CHr Z own_EL s.vm h0 s.vm h2 := (CHr.refl hC).trans (CHr.ext E2 hC)
  have hk2 := Nat.le_trans hk0 E2.1
  have V2 : Arv Z h2 b2 k2 .char (2 : Int32) [(.int (0 : Int32)), (.int (0 : Int32))] (.int (0 : Int32)) := (Arv.new A2 (by decide)).pad (pad_rep [] (.int (0 : Int32)) 2)
  have vc4 := V2
  obtain ⟨cl4, Ar4, qk4, S4, Nn4, Hs4, Gf4⟩ := vc4
  have hin4 : ¬ ((0 : Int32) < 0 ∨ cl4.slots.size ≤ ((0 : Int32)).toNatClampNeg) := inb_of S4 ⟨by decide, by decide⟩
  obtain ⟨T5, h5, X5, e5, W5, st5⟩ := stC X2 hx hZ e2 Ar4 (j := (0 : Int32)) hin4 (g := (mkF m 69 #[.val (.int p1), .val (.int p2), .val (.int p3), .val (.int p4), .val (.int kk), .val (.ref ta1), .val (.int (0 : Int32)), .val (.int (0 : Int32)), .val (.int (0 : Int32)), .val (.ref b2), .unset, .unset, .unset, .unset, .unset] [(.int ((p3 &&& (255 : Int32)).toUInt32.toUInt16.toUInt32.toInt32)), (.int (0 : Int32)), (.ref b2)])) rfl rfl (hb hby at_69)
  have O5 := O2.wr W5 g_b2
  have K5 : Keep h0 h5 [] := K2.wr W5 (Or.inr sz_b2)
  have N5 := Fr.snoc X5 N1 g_b2
  have sf6 := Safe.wr W5 sf3 C2 sf3
  have C5 : CHv Z own_EL s.vm h5 := C2.wr W5 sf3
  have R5 : CHr Z own_EL s.vm h0 s.vm h5 := R2.trans (CHr.wr W5 sf3 C2)
  have hk5 := Nat.le_trans hk2 (Keep.of_wr W5).1
  have f7 : Arv Z h5 b2 k2 .char (2 : Int32) [(.int (nar .char ((p3 &&& (255 : Int32)).toUInt32.toUInt16.toUInt32.toInt32))), (.int (0 : Int32))] (.int (0 : Int32)) := Arv.set Ar4 qk4 S4 Nn4 Hs4 Gf4 (fits_nar_char _) W5 0 rfl (Nat.le_of_ble_eq_true rfl)
  have vc8 := f7
  obtain ⟨cl8, Ar8, qk8, S8, Nn8, Hs8, Gf8⟩ := vc8
  have hin8 : ¬ ((1 : Int32) < 0 ∨ cl8.slots.size ≤ ((1 : Int32)).toNatClampNeg) := inb_of S8 ⟨by decide, by decide⟩
  obtain ⟨T9, h9, X9, e9, W9, st9⟩ := stC X5 hx hZ e5 Ar8 (j := (1 : Int32)) hin8 (g := (mkF m 79 #[.val (.int p1), .val (.int p2), .val (.int p3), .val (.int p4), .val (.int kk), .val (.ref ta1), .val (.int (0 : Int32)), .val (.int (0 : Int32)), .val (.int (0 : Int32)), .val (.ref b2), .unset, .unset, .unset, .unset, .unset] [(.int ((p4 &&& (255 : Int32)).toUInt32.toUInt16.toUInt32.toInt32)), (.int (1 : Int32)), (.ref b2)])) rfl rfl (hb hby at_79)
  have O9 := O5.wr W9 g_b2
  have K9 : Keep h0 h9 [] := K5.wr W9 (Or.inr sz_b2)
  have N9 := Fr.snoc X9 N5 g_b2
  have sf10 := Safe.wr W9 sf6 C5 sf6
  have C9 : CHv Z own_EL s.vm h9 := C5.wr W9 sf6
  have R9 : CHr Z own_EL s.vm h0 s.vm h9 := R5.trans (CHr.wr W9 sf6 C5)
  have hk9 := Nat.le_trans hk5 (Keep.of_wr W9).1
  have f11 : Arv Z h9 b2 k2 .char (2 : Int32) [(.int (nar .char ((p3 &&& (255 : Int32)).toUInt32.toUInt16.toUInt32.toInt32))), (.int (nar .char ((p4 &&& (255 : Int32)).toUInt32.toUInt16.toUInt32.toInt32)))] (.int (0 : Int32)) := Arv.set Ar8 qk8 S8 Nn8 Hs8 Gf8 (fits_nar_char _) W9 1 rfl (Nat.le_of_ble_eq_true rfl)
  obtain ⟨T12, h12, X12, e12, E12, A12, D12, -, st12⟩ := newO X9 hx hZ hown (hw _ (List.mem_of_getElem? (i := 6) rfl)) (hw _ (List.mem_of_getElem? (i := 7) rfl)) (hw _ (List.mem_of_getElem? (i := 8) rfl)) e9 (g := (mkF m 98 #[.val (.int p1), .val (.int p2), .val (.int p3), .val (.int p4), .val (.int kk), .val (.ref ta1), .val (.int (0 : Int32)), .val (.int (0 : Int32)), .val (.int (0 : Int32)), .val (.ref b2), .unset, .unset, .unset, .unset, .unset] [])) rfl (hb hby at_98) (by decide) (by decide)
  obtain ⟨b12, g12⟩ : ∃ z, z = h9.size := ⟨_, rfl⟩
  have ne_b2_b12 : b2 ≠ b12 := Nat.ne_of_lt (Nat.lt_of_lt_of_le f11.lt (Nat.le_of_eq g12.symm))
  have ne_s_L1_b12 : s_L1 ≠ b12 := Nat.ne_of_lt (Nat.lt_of_lt_of_le (E_L1.ext O9.2).lt (Nat.le_of_eq g12.symm))
  have ne_s_L4_b12 : s_L4 ≠ b12 := Nat.ne_of_lt (Nat.lt_of_lt_of_le (E_L4.ext O9.2).lt (Nat.le_of_eq g12.symm))
  have ne_s_L3_b12 : s_L3 ≠ b12 := Nat.ne_of_lt (Nat.lt_of_lt_of_le (E_L3.ext O9.2).lt (Nat.le_of_eq g12.symm))
  have ne_s_L5_b12 : s_L5 ≠ b12 := Nat.ne_of_lt (Nat.lt_of_lt_of_le (E_L5.ext O9.2).lt (Nat.le_of_eq g12.symm))
  have ne_s_L2_b12 : s_L2 ≠ b12 := Nat.ne_of_lt (Nat.lt_of_lt_of_le (E_L2.ext O9.2).lt (Nat.le_of_eq g12.symm))
  have g_b12 : n0 ≤ b12 := Nat.le_trans (O9.1 ▸ O9.2.1) (Nat.le_of_eq g12.symm)
  have sz_b12 : h0.size ≤ b12 := Nat.le_trans K9.1 (Nat.le_of_eq g12.symm)
  have sn12 : Safe Z own_EL s.vm h9 b12 := Safe.new (Nat.le_of_eq g12.symm)
  rw [← g12] at A12 D12 st12
  have f13 := f11.ext E12
  have O12 := O9.ext E12
  have K12 : Keep h0 h12 [] := K9.ext E12
  have sf14 := Safe.ext E12 C9 sf10
  have sf15 := Safe.ext E12 C9 sn12
  have C12 : CHv Z own_EL s.vm h12 := C9.ext E12
  have R12 : CHr Z own_EL s.vm h0 s.vm h12 := R9.trans (CHr.ext E12 C9)
  have hk12 := Nat.le_trans hk9 E12.1
  have F12_21 : Fld Z h12 b12 "java/lang/String" "value" "[B" .null := D12 (Or.inr (hw _ (List.mem_of_getElem? (i := 21) rfl))) (ty := (.array .byte)) (by decide)
  have F12_22 : Fld Z h12 b12 "java/lang/String" "coder" "B" (.int (0 : Int32)) := D12 (Or.inr (hw _ (List.mem_of_getElem? (i := 22) rfl))) (ty := .byte) (by decide)
  obtain ⟨LL16, X16, N16⟩ : ∃ LL, Stand p l e room_1 (s.setVm s.vm) m #[(.int p1), (.int p2), (.int p3), (.int p4)] below meth c T12 LL 2 6 ∧ Fr n0 LL := ⟨_, X12, N9⟩
  obtain ⟨_, _, ⟨T17, L17, k17, n17⟩, -, X17, ⟨Lc17, hQ17, l17, y17, z17⟩, st17⟩ := X16.specialBack hx (y := (⟨"java/lang/String", "<init>", "([C)V"⟩ : MethodName)) rfl hown (mvT hZ (hw _ (List.mem_of_getElem? (i := 9) rfl))) (mvT hZ (hw _ (List.mem_of_getElem? (i := 10) rfl))) (mvT hZ (hw _ (List.mem_of_getElem? (i := 11) rfl))) (by decide) (backOf (W := 1) (r_s2 l Z a0 hw [] s_L1 s_L4 s_L3 s_L5 s_L2 cs1 h12 n0 O12 G0 b12 b2 k2 (nar .char ((p3 &&& (255 : Int32)).toUInt32.toUInt16.toUInt32.toInt32)) (nar .char ((p4 &&& (255 : Int32)).toUInt32.toUInt16.toUInt32.toInt32)) A12 g_b12 F12_22 F12_21 f13 (own_ch _) (own_ch _) ne_b2_b12) hZ (hw _ (List.mem_of_getElem? (i := 11) rfl)) (hw _ (List.mem_of_getElem? (i := 8) rfl)) (by decide) (by decide)) (g := (mkF m 104 #[.val (.int p1), .val (.int p2), .val (.int p3), .val (.int p4), .val (.int kk), .val (.ref ta1), .val (.int (0 : Int32)), .val (.int (0 : Int32)), .val (.int (0 : Int32)), .val (.ref b2), .unset, .unset, .unset, .unset, .unset] [(.ref b2), (.ref b12), (.ref b12)])) rfl (by rw [hml]; rfl) (Steps.refl _) (a := b12) (argsL := [(.ref b2)]) (rest := [(.ref b12)]) (lenOf pd_5 rfl) rfl (by show 2 * 0 + _ ≤ _; exact Nat.le_of_eq rfl) (hb hby at_104) (fun _ _ => ⟨rfl, e12, (by decide : 2 + 1 ≤ _), (by decide : 6 + 2 ≤ _)⟩)
  dsimp only [Pt.U, Pt.locs, Pt.cells, Pt.slots] at X17 l17 y17 z17 st17 hQ17
  subst l17 y17 z17
  obtain ⟨rfl, N17q, Kq17⟩ := hQ17
  have N17 := Fr.app N16 N17q
  have f18 := f13.keep Kq17 (fun q => (List.mem_cons.mp q).elim ne_b2_b12 (fun q => nomatch q))
  have f19 := A12.keep Kq17
  have O17 := O12.keep Kq17 (allS g_b12 all0)
  have K17 : Keep h0 T17.heap [] := K12.trans Kq17 (allS (Or.inr sz_b12) all0)
  have sf20 := Safe.keep Kq17 (sfS sf15 sf0) C12 sf14
  have sf21 := Safe.keep Kq17 (sfS sf15 sf0) C12 sf15
  have C17 : CHv Z own_EL s.vm T17.heap := C12.keep Kq17 (sfS sf15 sf0)
  have R17 : CHr Z own_EL s.vm h0 s.vm T17.heap := R12.trans (CHr.keep Kq17 (sfS sf15 sf0) C12)
  have hk17 := Nat.le_trans hk12 Kq17.1
  obtain ⟨T22, h22, X22, e22, E22, A22, D22, -, st22⟩ := newO X17 hx hZ hown (hw _ (List.mem_of_getElem? (i := 27) rfl)) (hw _ (List.mem_of_getElem? (i := 28) rfl)) (hw _ (List.mem_of_getElem? (i := 29) rfl)) rfl (g := (mkF m 142 #[.val (.int p1), .val (.int p2), .val (.int p3), .val (.int p4), .val (.int kk), .val (.ref ta1), .val (.int (0 : Int32)), .val (.int (0 : Int32)), .val (.int (0 : Int32)), .val (.ref b2), .val (.ref b12), .val .null, .val .null, .unset, .unset] [])) rfl (hb hby at_142) (by decide) (by decide)
  obtain ⟨b22, g22⟩ : ∃ z, z = T17.heap.size := ⟨_, rfl⟩
  have ne_b2_b22 : b2 ≠ b22 := Nat.ne_of_lt (Nat.lt_of_lt_of_le f18.lt (Nat.le_of_eq g22.symm))
  have ne_b12_b22 : b12 ≠ b22 := Nat.ne_of_lt (Nat.lt_of_lt_of_le f19.lt (Nat.le_of_eq g22.symm))
  have ne_s_L1_b22 : s_L1 ≠ b22 := Nat.ne_of_lt (Nat.lt_of_lt_of_le (E_L1.ext O17.2).lt (Nat.le_of_eq g22.symm))
  have ne_s_L4_b22 : s_L4 ≠ b22 := Nat.ne_of_lt (Nat.lt_of_lt_of_le (E_L4.ext O17.2).lt (Nat.le_of_eq g22.symm))
  have ne_s_L3_b22 : s_L3 ≠ b22 := Nat.ne_of_lt (Nat.lt_of_lt_of_le (E_L3.ext O17.2).lt (Nat.le_of_eq g22.symm))
  have ne_s_L5_b22 : s_L5 ≠ b22 := Nat.ne_of_lt (Nat.lt_of_lt_of_le (E_L5.ext O17.2).lt (Nat.le_of_eq g22.symm))
  have ne_s_L2_b22 : s_L2 ≠ b22 := Nat.ne_of_lt (Nat.lt_of_lt_of_le (E_L2.ext O17.2).lt (Nat.le_of_eq g22.symm))
  have g_b22 : n0 ≤ b22 := Nat.le_trans (O17.1 ▸ O17.2.1) (Nat.le_of_eq g22.symm)
  have sz_b22 : h0.size ≤ b22 := Nat.le_trans K17.1 (Nat.le_of_eq g22.symm)
  have sn22 : Safe Z own_EL s.vm T17.heap b22 := Safe.new (Nat.le_of_eq g22.symm)
  rw [← g22] at A22 D22 st22
  have f23 := f18.ext E22
  have f24 := f19.ext E22
  have O22 := O17.ext E22
  have K22 : Keep h0 h22 [] := K17.ext E22
  have sf25 := Safe.ext E22 C17 sf20
  have sf26 := Safe.ext E22 C17 sf21
  have sf27 := Safe.ext E22 C17 sn22
  have C22 : CHv Z own_EL s.vm h22 := C17.ext E22
  have R22 : CHr Z own_EL s.vm h0 s.vm h22 := R17.trans (CHr.ext E22 C17)
  have hk22 := Nat.le_trans hk17 E22.1
  have F22_35 : Fld Z h22 b22 "com/example/pending_actions/pendingactions/policy/Assessment" "tier" "Lcom/example/pending_actions/pendingactions/policy/RiskTier;" .null := D22 (Or.inr (hw _ (List.mem_of_getElem? (i := 35) rfl))) (ty := (.object "com/example/pending_actions/pendingactions/policy/RiskTier")) (by decide)
  have F22_37 : Fld Z h22 b22 "com/example/pending_actions/pendingactions/policy/Assessment" "decider" "Ljava/lang/String;" .null := D22 (Or.inr (hw _ (List.mem_of_getElem? (i := 37) rfl))) (ty := (.object "java/lang/String")) (by decide)
  have F22_39 : Fld Z h22 b22 "com/example/pending_actions/pendingactions/policy/Assessment" "policyVersion" "Ljava/lang/String;" .null := D22 (Or.inr (hw _ (List.mem_of_getElem? (i := 39) rfl))) (ty := (.object "java/lang/String")) (by decide)
  obtain ⟨_, _, ⟨T28, L28, k28, n28⟩, -, X28, ⟨Lc28, hQ28, l28, y28, z28⟩, st28⟩ := X22.specialBack hx (y := (⟨"com/example/pending_actions/pendingactions/policy/Assessment", "<init>", "(Lcom/example/pending_actions/pendingactions/policy/RiskTier;Ljava/lang/String;Ljava/lang/String;)V"⟩ : MethodName)) rfl hown (mvT hZ (hw _ (List.mem_of_getElem? (i := 30) rfl))) (mvT hZ (hw _ (List.mem_of_getElem? (i := 31) rfl))) (mvT hZ (hw _ (List.mem_of_getElem? (i := 32) rfl))) (by decide) (backOf (W := 1) (r_ai1 l Z a0 hw [] s_L1 s_L4 s_L3 s_L5 s_L2 cs1 h22 n0 O22 G0 b22 ta1 A22 g_b22 F22_35 F22_37 F22_39) hZ (hw _ (List.mem_of_getElem? (i := 32) rfl)) (hw _ (List.mem_of_getElem? (i := 29) rfl)) (by decide) (by decide)) (g := (mkF m 152 #[.val (.int p1), .val (.int p2), .val (.int p3), .val (.int p4), .val (.int kk), .val (.ref ta1), .val (.int (0 : Int32)), .val (.int (0 : Int32)), .val (.int (0 : Int32)), .val (.ref b2), .val (.ref b12), .val .null, .val .null, .unset, .unset] [.null, .null, (.ref ta1), (.ref b22), (.ref b22)])) rfl (by rw [hml]; rfl) (Steps.refl _) (a := b22) (argsL := [(.ref ta1), .null, .null]) (rest := [(.ref b22)]) (lenOf pd_6 rfl) rfl (by show 2 * 0 + _ ≤ _; exact Nat.le_of_eq rfl) (hb hby at_152) (fun _ _ => ⟨rfl, e22, (by decide : 4 + 0 ≤ _), (by decide : 11 + 0 ≤ _)⟩)
  dsimp only [Pt.U, Pt.locs, Pt.cells, Pt.slots] at X28 l28 y28 z28 st28 hQ28
  subst l28 y28 z28
  obtain ⟨rfl, N28q, Kq28, Ft28, Fd28⟩ := hQ28
  have N28 := Fr.app N17 N28q
  have f29 := f23.keep Kq28 (fun q => (List.mem_cons.mp q).elim ne_b2_b22 (fun q => nomatch q))
  have f30 := f24.keep Kq28
  have f31 := A22.keep Kq28
  have O28 := O22.keep Kq28 (allS g_b22 all0)
  have K28 : Keep h0 T28.heap [] := K22.trans Kq28 (allS (Or.inr sz_b22) all0)
  have sf32 := Safe.keep Kq28 (sfS sf27 sf0) C22 sf25
  have sf33 := Safe.keep Kq28 (sfS sf27 sf0) C22 sf26
  have sf34 := Safe.keep Kq28 (sfS sf27 sf0) C22 sf27
  have C28 : CHv Z own_EL s.vm T28.heap := C22.keep Kq28 (sfS sf27 sf0)
  have R28 : CHr Z own_EL s.vm h0 s.vm T28.heap := R22.trans (CHr.keep Kq28 (sfS sf27 sf0) C22)
  have hk28 := Nat.le_trans hk22 Kq28.1
  obtain ⟨cq35, kq35, q35a, q35b, q35c⟩ := isOf hZ rfl f31
  obtain ⟨_, _, ⟨T35, L35, k35, n35⟩, -, X35, ⟨Lc35, hQ35, l35, y35, z35⟩, st35⟩ := X28.virtualBack hx (y := (⟨"com/example/pending_actions/pendingactions/policy/Assessment", "isAutoApproved", "()Z"⟩ : MethodName)) (z := (⟨"com/example/pending_actions/pendingactions/policy/Assessment", "isAutoApproved", "()Z"⟩ : MethodName)) hown (mvT hZ (hw _ (List.mem_of_getElem? (i := 40) rfl))) (mvT hZ (hw _ (List.mem_of_getElem? (i := 41) rfl))) (notFace_of_selects (args := #[]) (mvT hZ (hw _ (List.mem_of_getElem? (i := 43) rfl)))) (mvT hZ (hw _ (List.mem_of_getElem? (i := 43) rfl))) (mvT hZ (hw _ (List.mem_of_getElem? (i := 42) rfl))) (by decide) (backOf (W := 0) (r_aa1 l Z a0 hw [] s_L1 s_L4 s_L3 s_L5 s_L2 cs1 T28.heap n0 O28 G0 b22 ta1 Ft28 Fd28) hZ (hw _ (List.mem_of_getElem? (i := 44) rfl)) (hw _ (List.mem_of_getElem? (i := 29) rfl)) (by decide) (by decide)) q35a q35c (g := (mkF m 176 #[.val (.int p1), .val (.int p2), .val (.int p3), .val (.int p4), .val (.int kk), .val (.ref ta1), .val (.int (0 : Int32)), .val (.int (0 : Int32)), .val (.int (0 : Int32)), .val (.ref b2), .val (.ref b12), .val .null, .val .null, .val (.ref b22), .val (.int (0 : Int32))] [(.ref b22)])) rfl (by rw [hml]; rfl) (Steps.refl _) (argsL := []) (rest := []) (lenOf pd_7 rfl) rfl (by show 2 * 0 + _ ≤ _; exact Nat.le_of_eq rfl) (hb hby at_176) (fun _ _ => ⟨rfl, rfl, (by decide : 4 + 0 ≤ _), (by decide : 11 + 0 ≤ _)⟩)
  dsimp only [Pt.U, Pt.locs, Pt.cells, Pt.slots] at X35 l35 y35 z35 st35 hQ35
  subst l35 y35 z35
  obtain ⟨rfl, N35q, e35⟩ := hQ35
  have N35 := Fr.app N28 N35q
  obtain ⟨fs, hr, hrun, hended, hRW⟩ := X35.leaveW hS0 (by rw [e35]; exact hk28) (v := some (.int (1 : Int32))) (fun h => by rw [Bd.returns] at h; cases h)
  refine ⟨_, _, pre0 _ ?_, hrun, hended, _, _, rfl, ?_, ?_, hRW.1, hRW.2.1, hRW.2.2.1, hRW.2.2.2.mono (by decide) (by decide)⟩
  · show Steps p.tables e below (s₁.setTop (mkF m 0 #[.val (.int p1), .val (.int p2), .val (.int p3), .val (.int p4), .unset, .unset, .unset, .unset, .unset, .unset, .unset, .unset, .unset, .unset, .unset] [])) _
    refine XS.iloadN X0.here hx rfl (hb hby at_0) rfl ?_
    show Steps p.tables e below (s₁.setTop (mkF m 1 #[.val (.int p1), .val (.int p2), .val (.int p3), .val (.int p4), .unset, .unset, .unset, .unset, .unset, .unset, .unset, .unset, .unset, .unset, .unset] [(.int p1)])) _
    refine X0.ldcInt hx hown (mvT hZ (hw _ (List.mem_of_getElem? (i := 0) rfl))) (g := (mkF m 1 #[.val (.int p1), .val (.int p2), .val (.int p3), .val (.int p4), .unset, .unset, .unset, .unset, .unset, .unset, .unset, .unset, .unset, .unset, .unset] [(.int p1)])) rfl (hb hby at_1) _ ?_
    show Steps p.tables e below (s₁.setTop (mkF m 3 #[.val (.int p1), .val (.int p2), .val (.int p3), .val (.int p4), .unset, .unset, .unset, .unset, .unset, .unset, .unset, .unset, .unset, .unset, .unset] [(.int (2147483647 : Int32)), (.int p1)])) _
    refine XS.iand X0.here hx rfl (hb hby at_3) rfl ?_
    refine XS.bipush X0.here hx rfl (hb hby at_4) ?_
    show Steps p.tables e below (s₁.setTop (mkF m 6 #[.val (.int p1), .val (.int p2), .val (.int p3), .val (.int p4), .unset, .unset, .unset, .unset, .unset, .unset, .unset, .unset, .unset, .unset, .unset] [(.int (6 : Int32)), (.int (p1 &&& (2147483647 : Int32)))])) _
    refine iremM X0 hx rfl (hb hby at_6) rfl (by decide) ?_
    show Steps p.tables e below (s₁.setTop (mkF m 7 #[.val (.int p1), .val (.int p2), .val (.int p3), .val (.int p4), .unset, .unset, .unset, .unset, .unset, .unset, .unset, .unset, .unset, .unset, .unset] [(.int ((p1 &&& (2147483647 : Int32)) % (6 : Int32)))])) _
    rw [hk]
    show Steps p.tables e below (s₁.setTop (mkF m 7 #[.val (.int p1), .val (.int p2), .val (.int p3), .val (.int p4), .unset, .unset, .unset, .unset, .unset, .unset, .unset, .unset, .unset, .unset, .unset] [(.int kk)])) _
    refine XS.istore X0.here hx rfl (hb hby at_7) rfl (l' := #[.val (.int p1), .val (.int p2), .val (.int p3), .val (.int p4), .val (.int kk), .unset, .unset, .unset, .unset, .unset, .unset, .unset, .unset, .unset, .unset]) rfl ?_
    refine XS.iload X0.here hx rfl (hb hby at_9) rfl ?_
    show Steps p.tables e below (s₁.setTop (mkF m 11 #[.val (.int p1), .val (.int p2), .val (.int p3), .val (.int p4), .val (.int kk), .unset, .unset, .unset, .unset, .unset, .unset, .unset, .unset, .unset, .unset] [(.int kk)])) _
    refine st1 _ ?_
    show Steps p.tables e below (T1.setTop (mkF m 14 #[.val (.int p1), .val (.int p2), .val (.int p3), .val (.int p4), .val (.int kk), .unset, .unset, .unset, .unset, .unset, .unset, .unset, .unset, .unset, .unset] [(.ref ta1)])) _
    refine XS.astore X1.here hx rfl (hb hby at_14) rfl rfl (l' := #[.val (.int p1), .val (.int p2), .val (.int p3), .val (.int p4), .val (.int kk), .val (.ref ta1), .unset, .unset, .unset, .unset, .unset, .unset, .unset, .unset, .unset]) rfl ?_
    refine XS.iloadN X1.here hx rfl (hb hby at_16) rfl ?_
    refine XS.iconst X1.here hx rfl (hb hby at_17) ?_
    refine XS.iand X1.here hx rfl (hb hby at_18) rfl ?_
    refine XS.ifYes X1.here hx rfl (pc0 := 19) (pc' := 26) rfl (hb hby at_19) rfl ((if0 _ _).trans (teq (hf0_ : (p2 &&& (1 : Int32)) = (0 : Int32))).1) (by decide) (by decide) ?_
    show Steps p.tables e below (T1.setTop (mkF m 26 #[.val (.int p1), .val (.int p2), .val (.int p3), .val (.int p4), .val (.int kk), .val (.ref ta1), .unset, .unset, .unset, .unset, .unset, .unset, .unset, .unset, .unset] [])) _
    refine XS.iconst X1.here hx rfl (hb hby at_26) ?_
    refine XS.istore X1.here hx rfl (hb hby at_27) rfl (l' := #[.val (.int p1), .val (.int p2), .val (.int p3), .val (.int p4), .val (.int kk), .val (.ref ta1), .val (.int (0 : Int32)), .unset, .unset, .unset, .unset, .unset, .unset, .unset, .unset]) rfl ?_
    refine XS.iloadN X1.here hx rfl (hb hby at_29) rfl ?_
    refine XS.iconst X1.here hx rfl (hb hby at_30) ?_
    refine XS.iand X1.here hx rfl (hb hby at_31) rfl ?_
    show Steps p.tables e below (T1.setTop (mkF m 32 #[.val (.int p1), .val (.int p2), .val (.int p3), .val (.int p4), .val (.int kk), .val (.ref ta1), .val (.int (0 : Int32)), .unset, .unset, .unset, .unset, .unset, .unset, .unset, .unset] [(.int (p2 &&& (2 : Int32)))])) _
    refine XS.ifYes X1.here hx rfl (pc0 := 32) (pc' := 39) rfl (hb hby at_32) rfl ((if0 _ _).trans (teq (hf1_ : (p2 &&& (2 : Int32)) = (0 : Int32))).1) (by decide) (by decide) ?_
    refine XS.iconst X1.here hx rfl (hb hby at_39) ?_
    refine XS.istore X1.here hx rfl (hb hby at_40) rfl (l' := #[.val (.int p1), .val (.int p2), .val (.int p3), .val (.int p4), .val (.int kk), .val (.ref ta1), .val (.int (0 : Int32)), .val (.int (0 : Int32)), .unset, .unset, .unset, .unset, .unset, .unset, .unset]) rfl ?_
    refine XS.iloadN X1.here hx rfl (hb hby at_42) rfl ?_
    refine XS.iconst X1.here hx rfl (hb hby at_43) ?_
    show Steps p.tables e below (T1.setTop (mkF m 44 #[.val (.int p1), .val (.int p2), .val (.int p3), .val (.int p4), .val (.int kk), .val (.ref ta1), .val (.int (0 : Int32)), .val (.int (0 : Int32)), .unset, .unset, .unset, .unset, .unset, .unset, .unset] [(.int (4 : Int32)), (.int p2)])) _
    refine XS.iand X1.here hx rfl (hb hby at_44) rfl ?_
    refine XS.ifYes X1.here hx rfl (pc0 := 45) (pc' := 52) rfl (hb hby at_45) rfl ((if0 _ _).trans (teq (hf2_ : (p2 &&& (4 : Int32)) = (0 : Int32))).1) (by decide) (by decide) ?_
    refine XS.iconst X1.here hx rfl (hb hby at_52) ?_
    refine XS.istore X1.here hx rfl (hb hby at_53) rfl (l' := #[.val (.int p1), .val (.int p2), .val (.int p3), .val (.int p4), .val (.int kk), .val (.ref ta1), .val (.int (0 : Int32)), .val (.int (0 : Int32)), .val (.int (0 : Int32)), .unset, .unset, .unset, .unset, .unset, .unset]) rfl ?_
    refine XS.iconst X1.here hx rfl (hb hby at_55) ?_
    show Steps p.tables e below (T1.setTop (mkF m 56 #[.val (.int p1), .val (.int p2), .val (.int p3), .val (.int p4), .val (.int kk), .val (.ref ta1), .val (.int (0 : Int32)), .val (.int (0 : Int32)), .val (.int (0 : Int32)), .unset, .unset, .unset, .unset, .unset, .unset] [(.int (2 : Int32))])) _
    refine st2 _ ?_
    show Steps p.tables e below (T2.setTop (mkF m 58 #[.val (.int p1), .val (.int p2), .val (.int p3), .val (.int p4), .val (.int kk), .val (.ref ta1), .val (.int (0 : Int32)), .val (.int (0 : Int32)), .val (.int (0 : Int32)), .unset, .unset, .unset, .unset, .unset, .unset] [(.ref b2)])) _
    refine XS.astore X2.here hx rfl (hb hby at_58) rfl rfl (l' := #[.val (.int p1), .val (.int p2), .val (.int p3), .val (.int p4), .val (.int kk), .val (.ref ta1), .val (.int (0 : Int32)), .val (.int (0 : Int32)), .val (.int (0 : Int32)), .val (.ref b2), .unset, .unset, .unset, .unset, .unset]) rfl ?_
    refine XS.aload X2.here hx rfl (hb hby at_60) rfl rfl ?_
    refine XS.iconst X2.here hx rfl (hb hby at_62) ?_
    refine XS.iloadN X2.here hx rfl (hb hby at_63) rfl ?_
    refine XS.sipush X2.here hx rfl (hb hby at_64) ?_
    show Steps p.tables e below (T2.setTop (mkF m 67 #[.val (.int p1), .val (.int p2), .val (.int p3), .val (.int p4), .val (.int kk), .val (.ref ta1), .val (.int (0 : Int32)), .val (.int (0 : Int32)), .val (.int (0 : Int32)), .val (.ref b2), .unset, .unset, .unset, .unset, .unset] [(.int (255 : Int32)), (.int p3), (.int (0 : Int32)), (.ref b2)])) _
    refine XS.iand X2.here hx rfl (hb hby at_67) rfl ?_
    refine XS.i2c X2.here hx rfl (hb hby at_68) rfl ?_
    show Steps p.tables e below (T2.setTop (mkF m 69 #[.val (.int p1), .val (.int p2), .val (.int p3), .val (.int p4), .val (.int kk), .val (.ref ta1), .val (.int (0 : Int32)), .val (.int (0 : Int32)), .val (.int (0 : Int32)), .val (.ref b2), .unset, .unset, .unset, .unset, .unset] [(.int ((p3 &&& (255 : Int32)).toUInt32.toUInt16.toUInt32.toInt32)), (.int (0 : Int32)), (.ref b2)])) _
    refine st5 _ ?_
    show Steps p.tables e below (T5.setTop (mkF m 70 #[.val (.int p1), .val (.int p2), .val (.int p3), .val (.int p4), .val (.int kk), .val (.ref ta1), .val (.int (0 : Int32)), .val (.int (0 : Int32)), .val (.int (0 : Int32)), .val (.ref b2), .unset, .unset, .unset, .unset, .unset] [])) _
    refine XS.aload X5.here hx rfl (hb hby at_70) rfl rfl ?_
    refine XS.iconst X5.here hx rfl (hb hby at_72) ?_
    refine XS.iloadN X5.here hx rfl (hb hby at_73) rfl ?_
    refine XS.sipush X5.here hx rfl (hb hby at_74) ?_
    refine XS.iand X5.here hx rfl (hb hby at_77) rfl ?_
    show Steps p.tables e below (T5.setTop (mkF m 78 #[.val (.int p1), .val (.int p2), .val (.int p3), .val (.int p4), .val (.int kk), .val (.ref ta1), .val (.int (0 : Int32)), .val (.int (0 : Int32)), .val (.int (0 : Int32)), .val (.ref b2), .unset, .unset, .unset, .unset, .unset] [(.int (p4 &&& (255 : Int32))), (.int (1 : Int32)), (.ref b2)])) _
    refine XS.i2c X5.here hx rfl (hb hby at_78) rfl ?_
    show Steps p.tables e below (T5.setTop (mkF m 79 #[.val (.int p1), .val (.int p2), .val (.int p3), .val (.int p4), .val (.int kk), .val (.ref ta1), .val (.int (0 : Int32)), .val (.int (0 : Int32)), .val (.int (0 : Int32)), .val (.ref b2), .unset, .unset, .unset, .unset, .unset] [(.int ((p4 &&& (255 : Int32)).toUInt32.toUInt16.toUInt32.toInt32)), (.int (1 : Int32)), (.ref b2)])) _
    refine st9 _ ?_
    show Steps p.tables e below (T9.setTop (mkF m 80 #[.val (.int p1), .val (.int p2), .val (.int p3), .val (.int p4), .val (.int kk), .val (.ref ta1), .val (.int (0 : Int32)), .val (.int (0 : Int32)), .val (.int (0 : Int32)), .val (.ref b2), .unset, .unset, .unset, .unset, .unset] [])) _
    refine XS.iload X9.here hx rfl (hb hby at_80) rfl ?_
    refine XS.ifYes X9.here hx rfl (pc0 := 82) (pc' := 98) rfl (hb hby at_82) rfl ((if0 _ _).trans (teq (by decide : (0 : Int32) = (0 : Int32))).1) (by decide) (by decide) ?_
    show Steps p.tables e below (T9.setTop (mkF m 98 #[.val (.int p1), .val (.int p2), .val (.int p3), .val (.int p4), .val (.int kk), .val (.ref ta1), .val (.int (0 : Int32)), .val (.int (0 : Int32)), .val (.int (0 : Int32)), .val (.ref b2), .unset, .unset, .unset, .unset, .unset] [])) _
    refine st12 _ ?_
    show Steps p.tables e below (T12.setTop (mkF m 101 #[.val (.int p1), .val (.int p2), .val (.int p3), .val (.int p4), .val (.int kk), .val (.ref ta1), .val (.int (0 : Int32)), .val (.int (0 : Int32)), .val (.int (0 : Int32)), .val (.ref b2), .unset, .unset, .unset, .unset, .unset] [(.ref b12)])) _
    refine XS.dup X12.here hx rfl (hb hby at_101) rfl rfl ?_
    refine XS.aload X12.here hx rfl (hb hby at_102) rfl rfl ?_
    show Steps p.tables e below (T12.setTop (mkF m 104 #[.val (.int p1), .val (.int p2), .val (.int p3), .val (.int p4), .val (.int kk), .val (.ref ta1), .val (.int (0 : Int32)), .val (.int (0 : Int32)), .val (.int (0 : Int32)), .val (.ref b2), .unset, .unset, .unset, .unset, .unset] [(.ref b2), (.ref b12), (.ref b12)])) _
    refine st17.trans ?_
    show Steps p.tables e below (T17.setTop (mkF m 107 #[.val (.int p1), .val (.int p2), .val (.int p3), .val (.int p4), .val (.int kk), .val (.ref ta1), .val (.int (0 : Int32)), .val (.int (0 : Int32)), .val (.int (0 : Int32)), .val (.ref b2), .unset, .unset, .unset, .unset, .unset] [(.ref b12)])) _
    refine XS.astore X17.here hx rfl (hb hby at_107) rfl rfl (l' := #[.val (.int p1), .val (.int p2), .val (.int p3), .val (.int p4), .val (.int kk), .val (.ref ta1), .val (.int (0 : Int32)), .val (.int (0 : Int32)), .val (.int (0 : Int32)), .val (.ref b2), .val (.ref b12), .unset, .unset, .unset, .unset]) rfl ?_
    refine XS.iload X17.here hx rfl (hb hby at_109) rfl ?_
    refine XS.ifYes X17.here hx rfl (pc0 := 111) (pc' := 119) rfl (hb hby at_111) rfl ((if0 _ _).trans (teq (by decide : (0 : Int32) = (0 : Int32))).1) (by decide) (by decide) ?_
    refine XS.aconstNull X17.here hx rfl (hb hby at_119) ?_
    refine XS.astore X17.here hx rfl (hb hby at_120) rfl rfl (l' := #[.val (.int p1), .val (.int p2), .val (.int p3), .val (.int p4), .val (.int kk), .val (.ref ta1), .val (.int (0 : Int32)), .val (.int (0 : Int32)), .val (.int (0 : Int32)), .val (.ref b2), .val (.ref b12), .val .null, .unset, .unset, .unset]) rfl ?_
    show Steps p.tables e below (T17.setTop (mkF m 122 #[.val (.int p1), .val (.int p2), .val (.int p3), .val (.int p4), .val (.int kk), .val (.ref ta1), .val (.int (0 : Int32)), .val (.int (0 : Int32)), .val (.int (0 : Int32)), .val (.ref b2), .val (.ref b12), .val .null, .unset, .unset, .unset] [])) _
    refine XS.iload X17.here hx rfl (hb hby at_122) rfl ?_
    refine XS.ifYes X17.here hx rfl (pc0 := 124) (pc' := 139) rfl (hb hby at_124) rfl ((if0 _ _).trans (teq (by decide : (0 : Int32) = (0 : Int32))).1) (by decide) (by decide) ?_
    refine XS.aconstNull X17.here hx rfl (hb hby at_139) ?_
    refine XS.astore X17.here hx rfl (hb hby at_140) rfl rfl (l' := #[.val (.int p1), .val (.int p2), .val (.int p3), .val (.int p4), .val (.int kk), .val (.ref ta1), .val (.int (0 : Int32)), .val (.int (0 : Int32)), .val (.int (0 : Int32)), .val (.ref b2), .val (.ref b12), .val .null, .val .null, .unset, .unset]) rfl ?_
    show Steps p.tables e below (T17.setTop (mkF m 142 #[.val (.int p1), .val (.int p2), .val (.int p3), .val (.int p4), .val (.int kk), .val (.ref ta1), .val (.int (0 : Int32)), .val (.int (0 : Int32)), .val (.int (0 : Int32)), .val (.ref b2), .val (.ref b12), .val .null, .val .null, .unset, .unset] [])) _
    refine st22 _ ?_
    show Steps p.tables e below (T22.setTop (mkF m 145 #[.val (.int p1), .val (.int p2), .val (.int p3), .val (.int p4), .val (.int kk), .val (.ref ta1), .val (.int (0 : Int32)), .val (.int (0 : Int32)), .val (.int (0 : Int32)), .val (.ref b2), .val (.ref b12), .val .null, .val .null, .unset, .unset] [(.ref b22)])) _
    refine XS.dup X22.here hx rfl (hb hby at_145) rfl rfl ?_
    refine XS.aload X22.here hx rfl (hb hby at_146) rfl rfl ?_
    refine XS.aload X22.here hx rfl (hb hby at_148) rfl rfl ?_
    refine XS.aload X22.here hx rfl (hb hby at_150) rfl rfl ?_
    show Steps p.tables e below (T22.setTop (mkF m 152 #[.val (.int p1), .val (.int p2), .val (.int p3), .val (.int p4), .val (.int kk), .val (.ref ta1), .val (.int (0 : Int32)), .val (.int (0 : Int32)), .val (.int (0 : Int32)), .val (.ref b2), .val (.ref b12), .val .null, .val .null, .unset, .unset] [.null, .null, (.ref ta1), (.ref b22), (.ref b22)])) _
    refine st28.trans ?_
    show Steps p.tables e below (T28.setTop (mkF m 155 #[.val (.int p1), .val (.int p2), .val (.int p3), .val (.int p4), .val (.int kk), .val (.ref ta1), .val (.int (0 : Int32)), .val (.int (0 : Int32)), .val (.int (0 : Int32)), .val (.ref b2), .val (.ref b12), .val .null, .val .null, .unset, .unset] [(.ref b22)])) _
    refine XS.astore X28.here hx rfl (hb hby at_155) rfl rfl (l' := #[.val (.int p1), .val (.int p2), .val (.int p3), .val (.int p4), .val (.int kk), .val (.ref ta1), .val (.int (0 : Int32)), .val (.int (0 : Int32)), .val (.int (0 : Int32)), .val (.ref b2), .val (.ref b12), .val .null, .val .null, .val (.ref b22), .unset]) rfl ?_
    refine XS.iload X28.here hx rfl (hb hby at_157) rfl ?_
    refine XS.ifNo X28.here hx rfl (hb hby at_159) rfl ((if0 _ _).trans (feq ((by rcases hk1 with h | h | h | h | h <;> rw [h] <;> decide) : ¬ (kk = (0 : Int32)))).1) ?_
    refine XS.iload X28.here hx rfl (hb hby at_162) rfl ?_
    refine XS.ifYes X28.here hx rfl (pc0 := 164) (pc' := 171) rfl (hb hby at_164) rfl ((if0 _ _).trans (teq (by decide : (0 : Int32) = (0 : Int32))).1) (by decide) (by decide) ?_
    show Steps p.tables e below (T28.setTop (mkF m 171 #[.val (.int p1), .val (.int p2), .val (.int p3), .val (.int p4), .val (.int kk), .val (.ref ta1), .val (.int (0 : Int32)), .val (.int (0 : Int32)), .val (.int (0 : Int32)), .val (.ref b2), .val (.ref b12), .val .null, .val .null, .val (.ref b22), .unset] [])) _
    refine XS.iconst X28.here hx rfl (hb hby at_171) ?_
    refine XS.istore X28.here hx rfl (hb hby at_172) rfl (l' := #[.val (.int p1), .val (.int p2), .val (.int p3), .val (.int p4), .val (.int kk), .val (.ref ta1), .val (.int (0 : Int32)), .val (.int (0 : Int32)), .val (.int (0 : Int32)), .val (.ref b2), .val (.ref b12), .val .null, .val .null, .val (.ref b22), .val (.int (0 : Int32))]) rfl ?_
    refine XS.aload X28.here hx rfl (hb hby at_174) rfl rfl ?_
    show Steps p.tables e below (T28.setTop (mkF m 176 #[.val (.int p1), .val (.int p2), .val (.int p3), .val (.int p4), .val (.int kk), .val (.ref ta1), .val (.int (0 : Int32)), .val (.int (0 : Int32)), .val (.int (0 : Int32)), .val (.ref b2), .val (.ref b12), .val .null, .val .null, .val (.ref b22), .val (.int (0 : Int32))] [(.ref b22)])) _
    refine st35.trans ?_
    show Steps p.tables e below (T35.setTop (mkF m 179 #[.val (.int p1), .val (.int p2), .val (.int p3), .val (.int p4), .val (.int kk), .val (.ref ta1), .val (.int (0 : Int32)), .val (.int (0 : Int32)), .val (.int (0 : Int32)), .val (.ref b2), .val (.ref b12), .val .null, .val .null, .val (.ref b22), .val (.int (0 : Int32))] [(.int (0 : Int32))])) _
    refine XS.iload X35.here hx rfl (hb hby at_179) rfl ?_
    refine XS.icmpNo X35.here hx rfl (hb hby at_181) rfl (teq (by decide : (0 : Int32) = (0 : Int32))).2 ?_
    refine XS.iconst X35.here hx rfl (hb hby at_184) ?_
    refine XS.goto X35.here hx rfl (pc0 := 185) (pc' := 189) rfl (hb hby at_185) (by decide) (by decide) ?_
    show Steps p.tables e below (T35.setTop (mkF m 189 #[.val (.int p1), .val (.int p2), .val (.int p3), .val (.int p4), .val (.int kk), .val (.ref ta1), .val (.int (0 : Int32)), .val (.int (0 : Int32)), .val (.int (0 : Int32)), .val (.ref b2), .val (.ref b12), .val .null, .val .null, .val (.ref b22), .val (.int (0 : Int32))] [(.int (1 : Int32))])) _
    exact retN X35 hx (t := .boolean) Bd.returns (by simp) (hb hby at_189) hr
  · show own_Qk (some (.int (1 : Int32))) [] h0 n0 _ T35.heap _
    rw [e35]
    exact ⟨rfl, N35, K28⟩
  · show CHr Z own_EL s.vm s.heap T35.vm T35.heap
    rw [hh, e35]
    exact R28.trans (CHv.at (s := s) (vm0 := s.vm) X35 hZ hEL C28)
set_option maxRecDepth 65536 in
set_option maxHeartbeats 40000000 in
theorem r_law2 (l : Launch) (Z : State) (a0 : Array Value) (hw : ∀ d ∈ tables_1, d.before a0 Z = true) (ws : List Jvm.Cond) (s_L1 s_L4 s_L3 s_L5 s_L2 : Addr) (cs1 : Int32) (h0 : Heap) (n0 : Nat) (O0 : Old Z n0 h0) (G : own_Ctx Z Z.heap s_L1 s_L4 s_L3 s_L5 s_L2 cs1) (hEL : EW Z a0 own_EL) (wS : ∀ a ∈ Bundle.stringAtoms, a.before a0 Z = true) (p1 p2 p3 p4 : Int32) (hk : (p1 &&& (2147483647 : Int32)) % (6 : Int32) = (0 : Int32)) (hf0_ : ¬ ((p2 &&& (1 : Int32)) = (0 : Int32))) (hf1_ : (p2 &&& (2 : Int32)) = (0 : Int32)) (hf2_ : (p2 &&& (4 : Int32)) = (0 : Int32)) :
    MetFree l x (head1 (Jvm.Cond.code x code maxLocals ret :: ws) room_1) (fun a U => a = #[(.int p1), (.int p2), (.int p3), (.int p4)] ∧ Z.Warmed39 U.vm ∧ U.heap = h0 ∧ CHv Z own_EL U.vm h0) (fun _ _ _ _ _ => True) (fun _ U o U' => ∃ v L, o = .returned v ∧ own_Qk (some (.int (1 : Int32))) [] h0 n0 v U'.heap L ∧ CHr Z own_EL U.vm U.heap U'.vm U'.heap ∧ ReturnedEndW U o U' L 24 1152) := by
  have G0 := G
  obtain ⟨S_L1, E_L1, S_L4, E_L4, S_L3, E_L3, S_L5, E_L5, S_L2, E_L2, S_CS, N_CS⟩ := G
  refine MetFree.of_bodySF (plainFor_of_name pn_0) hisR ?_
  intro p e s m args below meth c s₁ Bd hml0 hP hK
  obtain ⟨rfl, hZ, hh, hC⟩ := hP
  have hx := Bd.exec
  have hby := Bd.bytes
  have hml : c.maxLocals = 15 := hml0
  have hown : s.vm.findClass "com/example/pending_actions/pendingactions/policy/AssessmentIsAutoApprovedPinLaw" = some m.cls := findClass_of_methodNamed Bd.named
  have hnm := (name_of_methodNamed Bd.named Bd.method).1
  have X0 : Stand p l e room_1 (s.setVm s.vm) m #[(.int p1), (.int p2), (.int p3), (.int p4)] below meth c s₁ [] 0 0 := Stand.of_body Bd
  have e0 : s₁.heap = h0 := by rw [← hh, Bd.state]; rfl
  have N0 := Fr.nil n0
  have hS0 : s.Since s.vm h0.size := State.WarmedH.since (State.WarmedH.refl s) _
  have hk0 : h0.size ≤ h0.size := Nat.le_refl _
  have pre0 : ∀ t, Steps p.tables e below (s₁.setTop (mkF m 0 #[.val (.int p1), .val (.int p2), .val (.int p3), .val (.int p4), .unset, .unset, .unset, .unset, .unset, .unset, .unset, .unset, .unset, .unset, .unset] [])) t → Steps p.tables e below (s₁.setTop (entryFrame m #[(.int p1), (.int p2), (.int p3), (.int p4)] maxLocals)) t := fun t k => castTop (ef_0_15 m p1 p2 p3 p4) k
  obtain ⟨_, _, ⟨T1, L1, k1, n1⟩, -, X1, ⟨Lc1, hQ1, l1, y1, z1⟩, st1⟩ := Jvm.LawKit.callS X0 hx (y := (⟨"com/example/pending_actions/pendingactions/policy/AssessmentIsAutoApprovedPinLaw", "pick", "(I)Lcom/example/pending_actions/pendingactions/policy/RiskTier;"⟩ : MethodName)) hown (mvT hZ (hw _ (List.mem_of_getElem? (i := 1) rfl))) (mvT hZ (hw _ (List.mem_of_getElem? (i := 2) rfl))) (mvT hZ (hw _ (List.mem_of_getElem? (i := 3) rfl))) (mvT hZ (hw _ (List.mem_of_getElem? (i := 4) rfl))) (by decide) (backOf (W := 0) (r_tier_0 l Z a0 hw [] s_L1 s_L4 s_L3 s_L5 s_L2 cs1 h0 n0 O0 G0) hZ (hw _ (List.mem_of_getElem? (i := 4) rfl)) (hw _ (List.mem_of_getElem? (i := 3) rfl)) (by decide) (by decide)) (g := (mkF m 11 #[.val (.int p1), .val (.int p2), .val (.int p3), .val (.int p4), .val (.int (0 : Int32)), .unset, .unset, .unset, .unset, .unset, .unset, .unset, .unset, .unset, .unset] [(.int (0 : Int32))])) rfl (by rw [hml]; rfl) (argsL := [(.int (0 : Int32))]) (rest := []) (lenOf pd_4 rfl) rfl (by show 2 * 0 + _ ≤ _; exact Nat.le_of_eq rfl) (hb hby at_11) (fun _ _ => ⟨rfl, e0, (by decide : 0 + 0 ≤ _), (by decide : 0 + 0 ≤ _)⟩)
  dsimp only [Pt.U, Pt.locs, Pt.cells, Pt.slots] at X1 l1 y1 z1 st1 hQ1
  subst l1 y1 z1
  obtain ⟨rfl, N1q, e1⟩ := hQ1
  have N1 := Fr.app N0 N1q
  obtain ⟨T2, h2, k2, X2, e2, E2, A2, st2⟩ := newP X1 hx hZ (hw _ (List.mem_of_getElem? (i := 5) rfl)) e1 (g := (mkF m 56 #[.val (.int p1), .val (.int p2), .val (.int p3), .val (.int p4), .val (.int (0 : Int32)), .val .null, .val (.int (1 : Int32)), .val (.int (0 : Int32)), .val (.int (0 : Int32)), .unset, .unset, .unset, .unset, .unset, .unset] [(.int (2 : Int32))])) rfl (hb hby at_56) rfl (by decide) (cap := 2) (by decide) (by decide) (by decide) (by decide)
  obtain ⟨b2, g2⟩ : ∃ z, z = h0.size := ⟨_, rfl⟩
  have ne_s_L1_b2 : s_L1 ≠ b2 := Nat.ne_of_lt (Nat.lt_of_lt_of_le (E_L1.ext O0.2).lt (Nat.le_of_eq g2.symm))
  have ne_s_L4_b2 : s_L4 ≠ b2 := Nat.ne_of_lt (Nat.lt_of_lt_of_le (E_L4.ext O0.2).lt (Nat.le_of_eq g2.symm))
  have ne_s_L3_b2 : s_L3 ≠ b2 := Nat.ne_of_lt (Nat.lt_of_lt_of_le (E_L3.ext O0.2).lt (Nat.le_of_eq g2.symm))
  have ne_s_L5_b2 : s_L5 ≠ b2 := Nat.ne_of_lt (Nat.lt_of_lt_of_le (E_L5.ext O0.2).lt (Nat.le_of_eq g2.symm))
  have ne_s_L2_b2 : s_L2 ≠ b2 := Nat.ne_of_lt (Nat.lt_of_lt_of_le (E_L2.ext O0.2).lt (Nat.le_of_eq g2.symm))
  have g_b2 : n0 ≤ b2 := Nat.le_trans (O0.1 ▸ O0.2.1) (Nat.le_of_eq g2.symm)
  have sz_b2 : h0.size ≤ b2 := Nat.le_trans (Keep.refl h0 []).1 (Nat.le_of_eq g2.symm)
  have sn2 : Safe Z own_EL s.vm h0 b2 := Safe.new (Nat.le_of_eq g2.symm)
  rw [← g2] at A2 st2
  have O2 := O0.ext E2
  have K2 : Keep h0 h2 [] := (Keep.refl h0 []).ext E2
  have sf3 := Safe.ext E2 hC sn2
  have C2 : CHv Z own_EL s.vm h2 := hC.ext E2
  have R2 : CHr Z own_EL s.vm h0 s.vm h2 := (CHr.refl hC).trans (CHr.ext E2 hC)
  have hk2 := Nat.le_trans hk0 E2.1
  have V2 : Arv Z h2 b2 k2 .char (2 : Int32) [(.int (0 : Int32)), (.int (0 : Int32))] (.int (0 : Int32)) := (Arv.new A2 (by decide)).pad (pad_rep [] (.int (0 : Int32)) 2)
  have vc4 := V2
  obtain ⟨cl4, Ar4, qk4, S4, Nn4, Hs4, Gf4⟩ := vc4
  have hin4 : ¬ ((0 : Int32) < 0 ∨ cl4.slots.size ≤ ((0 : Int32)).toNatClampNeg) := inb_of S4 ⟨by decide, by decide⟩
  obtain ⟨T5, h5, X5, e5, W5, st5⟩ := stC X2 hx hZ e2 Ar4 (j := (0 : Int32)) hin4 (g := (mkF m 69 #[.val (.int p1), .val (.int p2), .val (.int p3), .val (.int p4), .val (.int (0 : Int32)), .val .null, .val (.int (1 : Int32)), .val (.int (0 : Int32)), .val (.int (0 : Int32)), .val (.ref b2), .unset, .unset, .unset, .unset, .unset] [(.int ((p3 &&& (255 : Int32)).toUInt32.toUInt16.toUInt32.toInt32)), (.int (0 : Int32)), (.ref b2)])) rfl rfl (hb hby at_69)
  have O5 := O2.wr W5 g_b2
  have K5 : Keep h0 h5 [] := K2.wr W5 (Or.inr sz_b2)
  have N5 := Fr.snoc X5 N1 g_b2
  have sf6 := Safe.wr W5 sf3 C2 sf3
  have C5 : CHv Z own_EL s.vm h5 := C2.wr W5 sf3
  have R5 : CHr Z own_EL s.vm h0 s.vm h5 := R2.trans (CHr.wr W5 sf3 C2)
  have hk5 := Nat.le_trans hk2 (Keep.of_wr W5).1
  have f7 : Arv Z h5 b2 k2 .char (2 : Int32) [(.int (nar .char ((p3 &&& (255 : Int32)).toUInt32.toUInt16.toUInt32.toInt32))), (.int (0 : Int32))] (.int (0 : Int32)) := Arv.set Ar4 qk4 S4 Nn4 Hs4 Gf4 (fits_nar_char _) W5 0 rfl (Nat.le_of_ble_eq_true rfl)
  have vc8 := f7
  obtain ⟨cl8, Ar8, qk8, S8, Nn8, Hs8, Gf8⟩ := vc8
  have hin8 : ¬ ((1 : Int32) < 0 ∨ cl8.slots.size ≤ ((1 : Int32)).toNatClampNeg) := inb_of S8 ⟨by decide, by decide⟩
  obtain ⟨T9, h9, X9, e9, W9, st9⟩ := stC X5 hx hZ e5 Ar8 (j := (1 : Int32)) hin8 (g := (mkF m 79 #[.val (.int p1), .val (.int p2), .val (.int p3), .val (.int p4), .val (.int (0 : Int32)), .val .null, .val (.int (1 : Int32)), .val (.int (0 : Int32)), .val (.int (0 : Int32)), .val (.ref b2), .unset, .unset, .unset, .unset, .unset] [(.int ((p4 &&& (255 : Int32)).toUInt32.toUInt16.toUInt32.toInt32)), (.int (1 : Int32)), (.ref b2)])) rfl rfl (hb hby at_79)
  have O9 := O5.wr W9 g_b2
  have K9 : Keep h0 h9 [] := K5.wr W9 (Or.inr sz_b2)
  have N9 := Fr.snoc X9 N5 g_b2
  have sf10 := Safe.wr W9 sf6 C5 sf6
  have C9 : CHv Z own_EL s.vm h9 := C5.wr W9 sf6
  have R9 : CHr Z own_EL s.vm h0 s.vm h9 := R5.trans (CHr.wr W9 sf6 C5)
  have hk9 := Nat.le_trans hk5 (Keep.of_wr W9).1
  have f11 : Arv Z h9 b2 k2 .char (2 : Int32) [(.int (nar .char ((p3 &&& (255 : Int32)).toUInt32.toUInt16.toUInt32.toInt32))), (.int (nar .char ((p4 &&& (255 : Int32)).toUInt32.toUInt16.toUInt32.toInt32)))] (.int (0 : Int32)) := Arv.set Ar8 qk8 S8 Nn8 Hs8 Gf8 (fits_nar_char _) W9 1 rfl (Nat.le_of_ble_eq_true rfl)
  obtain ⟨T12, h12, X12, e12, E12, A12, D12, -, st12⟩ := newO X9 hx hZ hown (hw _ (List.mem_of_getElem? (i := 6) rfl)) (hw _ (List.mem_of_getElem? (i := 7) rfl)) (hw _ (List.mem_of_getElem? (i := 8) rfl)) e9 (g := (mkF m 98 #[.val (.int p1), .val (.int p2), .val (.int p3), .val (.int p4), .val (.int (0 : Int32)), .val .null, .val (.int (1 : Int32)), .val (.int (0 : Int32)), .val (.int (0 : Int32)), .val (.ref b2), .unset, .unset, .unset, .unset, .unset] [])) rfl (hb hby at_98) (by decide) (by decide)
  obtain ⟨b12, g12⟩ : ∃ z, z = h9.size := ⟨_, rfl⟩
  have ne_b2_b12 : b2 ≠ b12 := Nat.ne_of_lt (Nat.lt_of_lt_of_le f11.lt (Nat.le_of_eq g12.symm))
  have ne_s_L1_b12 : s_L1 ≠ b12 := Nat.ne_of_lt (Nat.lt_of_lt_of_le (E_L1.ext O9.2).lt (Nat.le_of_eq g12.symm))
  have ne_s_L4_b12 : s_L4 ≠ b12 := Nat.ne_of_lt (Nat.lt_of_lt_of_le (E_L4.ext O9.2).lt (Nat.le_of_eq g12.symm))
  have ne_s_L3_b12 : s_L3 ≠ b12 := Nat.ne_of_lt (Nat.lt_of_lt_of_le (E_L3.ext O9.2).lt (Nat.le_of_eq g12.symm))
  have ne_s_L5_b12 : s_L5 ≠ b12 := Nat.ne_of_lt (Nat.lt_of_lt_of_le (E_L5.ext O9.2).lt (Nat.le_of_eq g12.symm))
  have ne_s_L2_b12 : s_L2 ≠ b12 := Nat.ne_of_lt (Nat.lt_of_lt_of_le (E_L2.ext O9.2).lt (Nat.le_of_eq g12.symm))
  have g_b12 : n0 ≤ b12 := Nat.le_trans (O9.1 ▸ O9.2.1) (Nat.le_of_eq g12.symm)
  have sz_b12 : h0.size ≤ b12 := Nat.le_trans K9.1 (Nat.le_of_eq g12.symm)
  have sn12 : Safe Z own_EL s.vm h9 b12 := Safe.new (Nat.le_of_eq g12.symm)
  rw [← g12] at A12 D12 st12
  have f13 := f11.ext E12
  have O12 := O9.ext E12
  have K12 : Keep h0 h12 [] := K9.ext E12
  have sf14 := Safe.ext E12 C9 sf10
  have sf15 := Safe.ext E12 C9 sn12
  have C12 : CHv Z own_EL s.vm h12 := C9.ext E12
  have R12 : CHr Z own_EL s.vm h0 s.vm h12 := R9.trans (CHr.ext E12 C9)
  have hk12 := Nat.le_trans hk9 E12.1
  have F12_21 : Fld Z h12 b12 "java/lang/String" "value" "[B" .null := D12 (Or.inr (hw _ (List.mem_of_getElem? (i := 21) rfl))) (ty := (.array .byte)) (by decide)
  have F12_22 : Fld Z h12 b12 "java/lang/String" "coder" "B" (.int (0 : Int32)) := D12 (Or.inr (hw _ (List.mem_of_getElem? (i := 22) rfl))) (ty := .byte) (by decide)
  obtain ⟨LL16, X16, N16⟩ : ∃ LL, Stand p l e room_1 (s.setVm s.vm) m #[(.int p1), (.int p2), (.int p3), (.int p4)] below meth c T12 LL 2 6 ∧ Fr n0 LL := ⟨_, X12, N9⟩
  obtain ⟨_, _, ⟨T17, L17, k17, n17⟩, -, X17, ⟨Lc17, hQ17, l17, y17, z17⟩, st17⟩ := X16.specialBack hx (y := (⟨"java/lang/String", "<init>", "([C)V"⟩ : MethodName)) rfl hown (mvT hZ (hw _ (List.mem_of_getElem? (i := 9) rfl))) (mvT hZ (hw _ (List.mem_of_getElem? (i := 10) rfl))) (mvT hZ (hw _ (List.mem_of_getElem? (i := 11) rfl))) (by decide) (backOf (W := 1) (r_s2 l Z a0 hw [] s_L1 s_L4 s_L3 s_L5 s_L2 cs1 h12 n0 O12 G0 b12 b2 k2 (nar .char ((p3 &&& (255 : Int32)).toUInt32.toUInt16.toUInt32.toInt32)) (nar .char ((p4 &&& (255 : Int32)).toUInt32.toUInt16.toUInt32.toInt32)) A12 g_b12 F12_22 F12_21 f13 (own_ch _) (own_ch _) ne_b2_b12) hZ (hw _ (List.mem_of_getElem? (i := 11) rfl)) (hw _ (List.mem_of_getElem? (i := 8) rfl)) (by decide) (by decide)) (g := (mkF m 104 #[.val (.int p1), .val (.int p2), .val (.int p3), .val (.int p4), .val (.int (0 : Int32)), .val .null, .val (.int (1 : Int32)), .val (.int (0 : Int32)), .val (.int (0 : Int32)), .val (.ref b2), .unset, .unset, .unset, .unset, .unset] [(.ref b2), (.ref b12), (.ref b12)])) rfl (by rw [hml]; rfl) (Steps.refl _) (a := b12) (argsL := [(.ref b2)]) (rest := [(.ref b12)]) (lenOf pd_5 rfl) rfl (by show 2 * 0 + _ ≤ _; exact Nat.le_of_eq rfl) (hb hby at_104) (fun _ _ => ⟨rfl, e12, (by decide : 2 + 1 ≤ _), (by decide : 6 + 2 ≤ _)⟩)
  dsimp only [Pt.U, Pt.locs, Pt.cells, Pt.slots] at X17 l17 y17 z17 st17 hQ17
  subst l17 y17 z17
  obtain ⟨rfl, N17q, Kq17⟩ := hQ17
  have N17 := Fr.app N16 N17q
  have f18 := f13.keep Kq17 (fun q => (List.mem_cons.mp q).elim ne_b2_b12 (fun q => nomatch q))
  have f19 := A12.keep Kq17
  have O17 := O12.keep Kq17 (allS g_b12 all0)
  have K17 : Keep h0 T17.heap [] := K12.trans Kq17 (allS (Or.inr sz_b12) all0)
  have sf20 := Safe.keep Kq17 (sfS sf15 sf0) C12 sf14
  have sf21 := Safe.keep Kq17 (sfS sf15 sf0) C12 sf15
  have C17 : CHv Z own_EL s.vm T17.heap := C12.keep Kq17 (sfS sf15 sf0)
  have R17 : CHr Z own_EL s.vm h0 s.vm T17.heap := R12.trans (CHr.keep Kq17 (sfS sf15 sf0) C12)
  have hk17 := Nat.le_trans hk12 Kq17.1
  obtain ⟨T22, h22, X22, e22, E22, A22, D22, -, st22⟩ := newO X17 hx hZ hown (hw _ (List.mem_of_getElem? (i := 27) rfl)) (hw _ (List.mem_of_getElem? (i := 28) rfl)) (hw _ (List.mem_of_getElem? (i := 29) rfl)) rfl (g := (mkF m 142 #[.val (.int p1), .val (.int p2), .val (.int p3), .val (.int p4), .val (.int (0 : Int32)), .val .null, .val (.int (1 : Int32)), .val (.int (0 : Int32)), .val (.int (0 : Int32)), .val (.ref b2), .val (.ref b12), .val (.ref b12), .val .null, .unset, .unset] [])) rfl (hb hby at_142) (by decide) (by decide)
  obtain ⟨b22, g22⟩ : ∃ z, z = T17.heap.size := ⟨_, rfl⟩
  have ne_b2_b22 : b2 ≠ b22 := Nat.ne_of_lt (Nat.lt_of_lt_of_le f18.lt (Nat.le_of_eq g22.symm))
  have ne_b12_b22 : b12 ≠ b22 := Nat.ne_of_lt (Nat.lt_of_lt_of_le f19.lt (Nat.le_of_eq g22.symm))
  have ne_s_L1_b22 : s_L1 ≠ b22 := Nat.ne_of_lt (Nat.lt_of_lt_of_le (E_L1.ext O17.2).lt (Nat.le_of_eq g22.symm))
  have ne_s_L4_b22 : s_L4 ≠ b22 := Nat.ne_of_lt (Nat.lt_of_lt_of_le (E_L4.ext O17.2).lt (Nat.le_of_eq g22.symm))
  have ne_s_L3_b22 : s_L3 ≠ b22 := Nat.ne_of_lt (Nat.lt_of_lt_of_le (E_L3.ext O17.2).lt (Nat.le_of_eq g22.symm))
  have ne_s_L5_b22 : s_L5 ≠ b22 := Nat.ne_of_lt (Nat.lt_of_lt_of_le (E_L5.ext O17.2).lt (Nat.le_of_eq g22.symm))
  have ne_s_L2_b22 : s_L2 ≠ b22 := Nat.ne_of_lt (Nat.lt_of_lt_of_le (E_L2.ext O17.2).lt (Nat.le_of_eq g22.symm))
  have g_b22 : n0 ≤ b22 := Nat.le_trans (O17.1 ▸ O17.2.1) (Nat.le_of_eq g22.symm)
  have sz_b22 : h0.size ≤ b22 := Nat.le_trans K17.1 (Nat.le_of_eq g22.symm)
  have sn22 : Safe Z own_EL s.vm T17.heap b22 := Safe.new (Nat.le_of_eq g22.symm)
  rw [← g22] at A22 D22 st22
  have f23 := f18.ext E22
  have f24 := f19.ext E22
  have O22 := O17.ext E22
  have K22 : Keep h0 h22 [] := K17.ext E22
  have sf25 := Safe.ext E22 C17 sf20
  have sf26 := Safe.ext E22 C17 sf21
  have sf27 := Safe.ext E22 C17 sn22
  have C22 : CHv Z own_EL s.vm h22 := C17.ext E22
  have R22 : CHr Z own_EL s.vm h0 s.vm h22 := R17.trans (CHr.ext E22 C17)
  have hk22 := Nat.le_trans hk17 E22.1
  have F22_35 : Fld Z h22 b22 "com/example/pending_actions/pendingactions/policy/Assessment" "tier" "Lcom/example/pending_actions/pendingactions/policy/RiskTier;" .null := D22 (Or.inr (hw _ (List.mem_of_getElem? (i := 35) rfl))) (ty := (.object "com/example/pending_actions/pendingactions/policy/RiskTier")) (by decide)
  have F22_37 : Fld Z h22 b22 "com/example/pending_actions/pendingactions/policy/Assessment" "decider" "Ljava/lang/String;" .null := D22 (Or.inr (hw _ (List.mem_of_getElem? (i := 37) rfl))) (ty := (.object "java/lang/String")) (by decide)
  have F22_39 : Fld Z h22 b22 "com/example/pending_actions/pendingactions/policy/Assessment" "policyVersion" "Ljava/lang/String;" .null := D22 (Or.inr (hw _ (List.mem_of_getElem? (i := 39) rfl))) (ty := (.object "java/lang/String")) (by decide)
  obtain ⟨_, _, ⟨T28, L28, k28, n28⟩, -, X28, ⟨Lc28, hQ28, l28, y28, z28⟩, st28⟩ := X22.specialBack hx (y := (⟨"com/example/pending_actions/pendingactions/policy/Assessment", "<init>", "(Lcom/example/pending_actions/pendingactions/policy/RiskTier;Ljava/lang/String;Ljava/lang/String;)V"⟩ : MethodName)) rfl hown (mvT hZ (hw _ (List.mem_of_getElem? (i := 30) rfl))) (mvT hZ (hw _ (List.mem_of_getElem? (i := 31) rfl))) (mvT hZ (hw _ (List.mem_of_getElem? (i := 32) rfl))) (by decide) (backOf (W := 1) (r_ai2 l Z a0 hw [] s_L1 s_L4 s_L3 s_L5 s_L2 cs1 h22 n0 O22 G0 b22 b12 A22 g_b22 F22_35 F22_37 F22_39) hZ (hw _ (List.mem_of_getElem? (i := 32) rfl)) (hw _ (List.mem_of_getElem? (i := 29) rfl)) (by decide) (by decide)) (g := (mkF m 152 #[.val (.int p1), .val (.int p2), .val (.int p3), .val (.int p4), .val (.int (0 : Int32)), .val .null, .val (.int (1 : Int32)), .val (.int (0 : Int32)), .val (.int (0 : Int32)), .val (.ref b2), .val (.ref b12), .val (.ref b12), .val .null, .unset, .unset] [.null, (.ref b12), .null, (.ref b22), (.ref b22)])) rfl (by rw [hml]; rfl) (Steps.refl _) (a := b22) (argsL := [.null, (.ref b12), .null]) (rest := [(.ref b22)]) (lenOf pd_6 rfl) rfl (by show 2 * 0 + _ ≤ _; exact Nat.le_of_eq rfl) (hb hby at_152) (fun _ _ => ⟨rfl, e22, (by decide : 4 + 0 ≤ _), (by decide : 11 + 0 ≤ _)⟩)
  dsimp only [Pt.U, Pt.locs, Pt.cells, Pt.slots] at X28 l28 y28 z28 st28 hQ28
  subst l28 y28 z28
  obtain ⟨rfl, N28q, Kq28, Ft28, Fd28⟩ := hQ28
  have N28 := Fr.app N17 N28q
  have f29 := f23.keep Kq28 (fun q => (List.mem_cons.mp q).elim ne_b2_b22 (fun q => nomatch q))
  have f30 := f24.keep Kq28
  have f31 := A22.keep Kq28
  have O28 := O22.keep Kq28 (allS g_b22 all0)
  have K28 : Keep h0 T28.heap [] := K22.trans Kq28 (allS (Or.inr sz_b22) all0)
  have sf32 := Safe.keep Kq28 (sfS sf27 sf0) C22 sf25
  have sf33 := Safe.keep Kq28 (sfS sf27 sf0) C22 sf26
  have sf34 := Safe.keep Kq28 (sfS sf27 sf0) C22 sf27
  have C28 : CHv Z own_EL s.vm T28.heap := C22.keep Kq28 (sfS sf27 sf0)
  have R28 : CHr Z own_EL s.vm h0 s.vm T28.heap := R22.trans (CHr.keep Kq28 (sfS sf27 sf0) C22)
  have hk28 := Nat.le_trans hk22 Kq28.1
  obtain ⟨cq35, kq35, q35a, q35b, q35c⟩ := isOf hZ rfl f31
  obtain ⟨_, _, ⟨T35, L35, k35, n35⟩, -, X35, ⟨Lc35, hQ35, l35, y35, z35⟩, st35⟩ := X28.virtualBack hx (y := (⟨"com/example/pending_actions/pendingactions/policy/Assessment", "isAutoApproved", "()Z"⟩ : MethodName)) (z := (⟨"com/example/pending_actions/pendingactions/policy/Assessment", "isAutoApproved", "()Z"⟩ : MethodName)) hown (mvT hZ (hw _ (List.mem_of_getElem? (i := 40) rfl))) (mvT hZ (hw _ (List.mem_of_getElem? (i := 41) rfl))) (notFace_of_selects (args := #[]) (mvT hZ (hw _ (List.mem_of_getElem? (i := 43) rfl)))) (mvT hZ (hw _ (List.mem_of_getElem? (i := 43) rfl))) (mvT hZ (hw _ (List.mem_of_getElem? (i := 42) rfl))) (by decide) (backOf (W := 0) (r_aa2 l Z a0 hw [] s_L1 s_L4 s_L3 s_L5 s_L2 cs1 T28.heap n0 O28 G0 b22 b12 Ft28 Fd28) hZ (hw _ (List.mem_of_getElem? (i := 44) rfl)) (hw _ (List.mem_of_getElem? (i := 29) rfl)) (by decide) (by decide)) q35a q35c (g := (mkF m 176 #[.val (.int p1), .val (.int p2), .val (.int p3), .val (.int p4), .val (.int (0 : Int32)), .val .null, .val (.int (1 : Int32)), .val (.int (0 : Int32)), .val (.int (0 : Int32)), .val (.ref b2), .val (.ref b12), .val (.ref b12), .val .null, .val (.ref b22), .val (.int (0 : Int32))] [(.ref b22)])) rfl (by rw [hml]; rfl) (Steps.refl _) (argsL := []) (rest := []) (lenOf pd_7 rfl) rfl (by show 2 * 0 + _ ≤ _; exact Nat.le_of_eq rfl) (hb hby at_176) (fun _ _ => ⟨rfl, rfl, (by decide : 4 + 0 ≤ _), (by decide : 11 + 0 ≤ _)⟩)
  dsimp only [Pt.U, Pt.locs, Pt.cells, Pt.slots] at X35 l35 y35 z35 st35 hQ35
  subst l35 y35 z35
  obtain ⟨rfl, N35q, e35⟩ := hQ35
  have N35 := Fr.app N28 N35q
  obtain ⟨fs, hr, hrun, hended, hRW⟩ := X35.leaveW hS0 (by rw [e35]; exact hk28) (v := some (.int (1 : Int32))) (fun h => by rw [Bd.returns] at h; cases h)
  refine ⟨_, _, pre0 _ ?_, hrun, hended, _, _, rfl, ?_, ?_, hRW.1, hRW.2.1, hRW.2.2.1, hRW.2.2.2.mono (by decide) (by decide)⟩
  · show Steps p.tables e below (s₁.setTop (mkF m 0 #[.val (.int p1), .val (.int p2), .val (.int p3), .val (.int p4), .unset, .unset, .unset, .unset, .unset, .unset, .unset, .unset, .unset, .unset, .unset] [])) _
    refine XS.iloadN X0.here hx rfl (hb hby at_0) rfl ?_
    show Steps p.tables e below (s₁.setTop (mkF m 1 #[.val (.int p1), .val (.int p2), .val (.int p3), .val (.int p4), .unset, .unset, .unset, .unset, .unset, .unset, .unset, .unset, .unset, .unset, .unset] [(.int p1)])) _
    refine X0.ldcInt hx hown (mvT hZ (hw _ (List.mem_of_getElem? (i := 0) rfl))) (g := (mkF m 1 #[.val (.int p1), .val (.int p2), .val (.int p3), .val (.int p4), .unset, .unset, .unset, .unset, .unset, .unset, .unset, .unset, .unset, .unset, .unset] [(.int p1)])) rfl (hb hby at_1) _ ?_
    show Steps p.tables e below (s₁.setTop (mkF m 3 #[.val (.int p1), .val (.int p2), .val (.int p3), .val (.int p4), .unset, .unset, .unset, .unset, .unset, .unset, .unset, .unset, .unset, .unset, .unset] [(.int (2147483647 : Int32)), (.int p1)])) _
    refine XS.iand X0.here hx rfl (hb hby at_3) rfl ?_
    refine XS.bipush X0.here hx rfl (hb hby at_4) ?_
    show Steps p.tables e below (s₁.setTop (mkF m 6 #[.val (.int p1), .val (.int p2), .val (.int p3), .val (.int p4), .unset, .unset, .unset, .unset, .unset, .unset, .unset, .unset, .unset, .unset, .unset] [(.int (6 : Int32)), (.int (p1 &&& (2147483647 : Int32)))])) _
    refine iremM X0 hx rfl (hb hby at_6) rfl (by decide) ?_
    show Steps p.tables e below (s₁.setTop (mkF m 7 #[.val (.int p1), .val (.int p2), .val (.int p3), .val (.int p4), .unset, .unset, .unset, .unset, .unset, .unset, .unset, .unset, .unset, .unset, .unset] [(.int ((p1 &&& (2147483647 : Int32)) % (6 : Int32)))])) _
    rw [hk]
    show Steps p.tables e below (s₁.setTop (mkF m 7 #[.val (.int p1), .val (.int p2), .val (.int p3), .val (.int p4), .unset, .unset, .unset, .unset, .unset, .unset, .unset, .unset, .unset, .unset, .unset] [(.int (0 : Int32))])) _
    refine XS.istore X0.here hx rfl (hb hby at_7) rfl (l' := #[.val (.int p1), .val (.int p2), .val (.int p3), .val (.int p4), .val (.int (0 : Int32)), .unset, .unset, .unset, .unset, .unset, .unset, .unset, .unset, .unset, .unset]) rfl ?_
    refine XS.iload X0.here hx rfl (hb hby at_9) rfl ?_
    show Steps p.tables e below (s₁.setTop (mkF m 11 #[.val (.int p1), .val (.int p2), .val (.int p3), .val (.int p4), .val (.int (0 : Int32)), .unset, .unset, .unset, .unset, .unset, .unset, .unset, .unset, .unset, .unset] [(.int (0 : Int32))])) _
    refine st1 _ ?_
    show Steps p.tables e below (T1.setTop (mkF m 14 #[.val (.int p1), .val (.int p2), .val (.int p3), .val (.int p4), .val (.int (0 : Int32)), .unset, .unset, .unset, .unset, .unset, .unset, .unset, .unset, .unset, .unset] [.null])) _
    refine XS.astore X1.here hx rfl (hb hby at_14) rfl rfl (l' := #[.val (.int p1), .val (.int p2), .val (.int p3), .val (.int p4), .val (.int (0 : Int32)), .val .null, .unset, .unset, .unset, .unset, .unset, .unset, .unset, .unset, .unset]) rfl ?_
    refine XS.iloadN X1.here hx rfl (hb hby at_16) rfl ?_
    refine XS.iconst X1.here hx rfl (hb hby at_17) ?_
    refine XS.iand X1.here hx rfl (hb hby at_18) rfl ?_
    refine XS.ifNo X1.here hx rfl (hb hby at_19) rfl ((if0 _ _).trans (feq (hf0_ : ¬ ((p2 &&& (1 : Int32)) = (0 : Int32)))).1) ?_
    show Steps p.tables e below (T1.setTop (mkF m 22 #[.val (.int p1), .val (.int p2), .val (.int p3), .val (.int p4), .val (.int (0 : Int32)), .val .null, .unset, .unset, .unset, .unset, .unset, .unset, .unset, .unset, .unset] [])) _
    refine XS.iconst X1.here hx rfl (hb hby at_22) ?_
    refine XS.goto X1.here hx rfl (pc0 := 23) (pc' := 27) rfl (hb hby at_23) (by decide) (by decide) ?_
    refine XS.istore X1.here hx rfl (hb hby at_27) rfl (l' := #[.val (.int p1), .val (.int p2), .val (.int p3), .val (.int p4), .val (.int (0 : Int32)), .val .null, .val (.int (1 : Int32)), .unset, .unset, .unset, .unset, .unset, .unset, .unset, .unset]) rfl ?_
    refine XS.iloadN X1.here hx rfl (hb hby at_29) rfl ?_
    refine XS.iconst X1.here hx rfl (hb hby at_30) ?_
    show Steps p.tables e below (T1.setTop (mkF m 31 #[.val (.int p1), .val (.int p2), .val (.int p3), .val (.int p4), .val (.int (0 : Int32)), .val .null, .val (.int (1 : Int32)), .unset, .unset, .unset, .unset, .unset, .unset, .unset, .unset] [(.int (2 : Int32)), (.int p2)])) _
    refine XS.iand X1.here hx rfl (hb hby at_31) rfl ?_
    refine XS.ifYes X1.here hx rfl (pc0 := 32) (pc' := 39) rfl (hb hby at_32) rfl ((if0 _ _).trans (teq (hf1_ : (p2 &&& (2 : Int32)) = (0 : Int32))).1) (by decide) (by decide) ?_
    refine XS.iconst X1.here hx rfl (hb hby at_39) ?_
    refine XS.istore X1.here hx rfl (hb hby at_40) rfl (l' := #[.val (.int p1), .val (.int p2), .val (.int p3), .val (.int p4), .val (.int (0 : Int32)), .val .null, .val (.int (1 : Int32)), .val (.int (0 : Int32)), .unset, .unset, .unset, .unset, .unset, .unset, .unset]) rfl ?_
    refine XS.iloadN X1.here hx rfl (hb hby at_42) rfl ?_
    show Steps p.tables e below (T1.setTop (mkF m 43 #[.val (.int p1), .val (.int p2), .val (.int p3), .val (.int p4), .val (.int (0 : Int32)), .val .null, .val (.int (1 : Int32)), .val (.int (0 : Int32)), .unset, .unset, .unset, .unset, .unset, .unset, .unset] [(.int p2)])) _
    refine XS.iconst X1.here hx rfl (hb hby at_43) ?_
    refine XS.iand X1.here hx rfl (hb hby at_44) rfl ?_
    refine XS.ifYes X1.here hx rfl (pc0 := 45) (pc' := 52) rfl (hb hby at_45) rfl ((if0 _ _).trans (teq (hf2_ : (p2 &&& (4 : Int32)) = (0 : Int32))).1) (by decide) (by decide) ?_
    refine XS.iconst X1.here hx rfl (hb hby at_52) ?_
    refine XS.istore X1.here hx rfl (hb hby at_53) rfl (l' := #[.val (.int p1), .val (.int p2), .val (.int p3), .val (.int p4), .val (.int (0 : Int32)), .val .null, .val (.int (1 : Int32)), .val (.int (0 : Int32)), .val (.int (0 : Int32)), .unset, .unset, .unset, .unset, .unset, .unset]) rfl ?_
    show Steps p.tables e below (T1.setTop (mkF m 55 #[.val (.int p1), .val (.int p2), .val (.int p3), .val (.int p4), .val (.int (0 : Int32)), .val .null, .val (.int (1 : Int32)), .val (.int (0 : Int32)), .val (.int (0 : Int32)), .unset, .unset, .unset, .unset, .unset, .unset] [])) _
    refine XS.iconst X1.here hx rfl (hb hby at_55) ?_
    show Steps p.tables e below (T1.setTop (mkF m 56 #[.val (.int p1), .val (.int p2), .val (.int p3), .val (.int p4), .val (.int (0 : Int32)), .val .null, .val (.int (1 : Int32)), .val (.int (0 : Int32)), .val (.int (0 : Int32)), .unset, .unset, .unset, .unset, .unset, .unset] [(.int (2 : Int32))])) _
    refine st2 _ ?_
    show Steps p.tables e below (T2.setTop (mkF m 58 #[.val (.int p1), .val (.int p2), .val (.int p3), .val (.int p4), .val (.int (0 : Int32)), .val .null, .val (.int (1 : Int32)), .val (.int (0 : Int32)), .val (.int (0 : Int32)), .unset, .unset, .unset, .unset, .unset, .unset] [(.ref b2)])) _
    refine XS.astore X2.here hx rfl (hb hby at_58) rfl rfl (l' := #[.val (.int p1), .val (.int p2), .val (.int p3), .val (.int p4), .val (.int (0 : Int32)), .val .null, .val (.int (1 : Int32)), .val (.int (0 : Int32)), .val (.int (0 : Int32)), .val (.ref b2), .unset, .unset, .unset, .unset, .unset]) rfl ?_
    refine XS.aload X2.here hx rfl (hb hby at_60) rfl rfl ?_
    refine XS.iconst X2.here hx rfl (hb hby at_62) ?_
    refine XS.iloadN X2.here hx rfl (hb hby at_63) rfl ?_
    refine XS.sipush X2.here hx rfl (hb hby at_64) ?_
    show Steps p.tables e below (T2.setTop (mkF m 67 #[.val (.int p1), .val (.int p2), .val (.int p3), .val (.int p4), .val (.int (0 : Int32)), .val .null, .val (.int (1 : Int32)), .val (.int (0 : Int32)), .val (.int (0 : Int32)), .val (.ref b2), .unset, .unset, .unset, .unset, .unset] [(.int (255 : Int32)), (.int p3), (.int (0 : Int32)), (.ref b2)])) _
    refine XS.iand X2.here hx rfl (hb hby at_67) rfl ?_
    refine XS.i2c X2.here hx rfl (hb hby at_68) rfl ?_
    show Steps p.tables e below (T2.setTop (mkF m 69 #[.val (.int p1), .val (.int p2), .val (.int p3), .val (.int p4), .val (.int (0 : Int32)), .val .null, .val (.int (1 : Int32)), .val (.int (0 : Int32)), .val (.int (0 : Int32)), .val (.ref b2), .unset, .unset, .unset, .unset, .unset] [(.int ((p3 &&& (255 : Int32)).toUInt32.toUInt16.toUInt32.toInt32)), (.int (0 : Int32)), (.ref b2)])) _
    refine st5 _ ?_
    show Steps p.tables e below (T5.setTop (mkF m 70 #[.val (.int p1), .val (.int p2), .val (.int p3), .val (.int p4), .val (.int (0 : Int32)), .val .null, .val (.int (1 : Int32)), .val (.int (0 : Int32)), .val (.int (0 : Int32)), .val (.ref b2), .unset, .unset, .unset, .unset, .unset] [])) _
    refine XS.aload X5.here hx rfl (hb hby at_70) rfl rfl ?_
    refine XS.iconst X5.here hx rfl (hb hby at_72) ?_
    refine XS.iloadN X5.here hx rfl (hb hby at_73) rfl ?_
    refine XS.sipush X5.here hx rfl (hb hby at_74) ?_
    refine XS.iand X5.here hx rfl (hb hby at_77) rfl ?_
    show Steps p.tables e below (T5.setTop (mkF m 78 #[.val (.int p1), .val (.int p2), .val (.int p3), .val (.int p4), .val (.int (0 : Int32)), .val .null, .val (.int (1 : Int32)), .val (.int (0 : Int32)), .val (.int (0 : Int32)), .val (.ref b2), .unset, .unset, .unset, .unset, .unset] [(.int (p4 &&& (255 : Int32))), (.int (1 : Int32)), (.ref b2)])) _
    refine XS.i2c X5.here hx rfl (hb hby at_78) rfl ?_
    show Steps p.tables e below (T5.setTop (mkF m 79 #[.val (.int p1), .val (.int p2), .val (.int p3), .val (.int p4), .val (.int (0 : Int32)), .val .null, .val (.int (1 : Int32)), .val (.int (0 : Int32)), .val (.int (0 : Int32)), .val (.ref b2), .unset, .unset, .unset, .unset, .unset] [(.int ((p4 &&& (255 : Int32)).toUInt32.toUInt16.toUInt32.toInt32)), (.int (1 : Int32)), (.ref b2)])) _
    refine st9 _ ?_
    show Steps p.tables e below (T9.setTop (mkF m 80 #[.val (.int p1), .val (.int p2), .val (.int p3), .val (.int p4), .val (.int (0 : Int32)), .val .null, .val (.int (1 : Int32)), .val (.int (0 : Int32)), .val (.int (0 : Int32)), .val (.ref b2), .unset, .unset, .unset, .unset, .unset] [])) _
    refine XS.iload X9.here hx rfl (hb hby at_80) rfl ?_
    refine XS.ifYes X9.here hx rfl (pc0 := 82) (pc' := 98) rfl (hb hby at_82) rfl ((if0 _ _).trans (teq (by decide : (0 : Int32) = (0 : Int32))).1) (by decide) (by decide) ?_
    show Steps p.tables e below (T9.setTop (mkF m 98 #[.val (.int p1), .val (.int p2), .val (.int p3), .val (.int p4), .val (.int (0 : Int32)), .val .null, .val (.int (1 : Int32)), .val (.int (0 : Int32)), .val (.int (0 : Int32)), .val (.ref b2), .unset, .unset, .unset, .unset, .unset] [])) _
    refine st12 _ ?_
    show Steps p.tables e below (T12.setTop (mkF m 101 #[.val (.int p1), .val (.int p2), .val (.int p3), .val (.int p4), .val (.int (0 : Int32)), .val .null, .val (.int (1 : Int32)), .val (.int (0 : Int32)), .val (.int (0 : Int32)), .val (.ref b2), .unset, .unset, .unset, .unset, .unset] [(.ref b12)])) _
    refine XS.dup X12.here hx rfl (hb hby at_101) rfl rfl ?_
    refine XS.aload X12.here hx rfl (hb hby at_102) rfl rfl ?_
    show Steps p.tables e below (T12.setTop (mkF m 104 #[.val (.int p1), .val (.int p2), .val (.int p3), .val (.int p4), .val (.int (0 : Int32)), .val .null, .val (.int (1 : Int32)), .val (.int (0 : Int32)), .val (.int (0 : Int32)), .val (.ref b2), .unset, .unset, .unset, .unset, .unset] [(.ref b2), (.ref b12), (.ref b12)])) _
    refine st17.trans ?_
    show Steps p.tables e below (T17.setTop (mkF m 107 #[.val (.int p1), .val (.int p2), .val (.int p3), .val (.int p4), .val (.int (0 : Int32)), .val .null, .val (.int (1 : Int32)), .val (.int (0 : Int32)), .val (.int (0 : Int32)), .val (.ref b2), .unset, .unset, .unset, .unset, .unset] [(.ref b12)])) _
    refine XS.astore X17.here hx rfl (hb hby at_107) rfl rfl (l' := #[.val (.int p1), .val (.int p2), .val (.int p3), .val (.int p4), .val (.int (0 : Int32)), .val .null, .val (.int (1 : Int32)), .val (.int (0 : Int32)), .val (.int (0 : Int32)), .val (.ref b2), .val (.ref b12), .unset, .unset, .unset, .unset]) rfl ?_
    refine XS.iload X17.here hx rfl (hb hby at_109) rfl ?_
    refine XS.ifNo X17.here hx rfl (hb hby at_111) rfl ((if0 _ _).trans (feq (by decide : ¬ ((1 : Int32) = (0 : Int32)))).1) ?_
    refine XS.aload X17.here hx rfl (hb hby at_114) rfl rfl ?_
    refine XS.goto X17.here hx rfl (pc0 := 116) (pc' := 120) rfl (hb hby at_116) (by decide) (by decide) ?_
    show Steps p.tables e below (T17.setTop (mkF m 120 #[.val (.int p1), .val (.int p2), .val (.int p3), .val (.int p4), .val (.int (0 : Int32)), .val .null, .val (.int (1 : Int32)), .val (.int (0 : Int32)), .val (.int (0 : Int32)), .val (.ref b2), .val (.ref b12), .unset, .unset, .unset, .unset] [(.ref b12)])) _
    refine XS.astore X17.here hx rfl (hb hby at_120) rfl rfl (l' := #[.val (.int p1), .val (.int p2), .val (.int p3), .val (.int p4), .val (.int (0 : Int32)), .val .null, .val (.int (1 : Int32)), .val (.int (0 : Int32)), .val (.int (0 : Int32)), .val (.ref b2), .val (.ref b12), .val (.ref b12), .unset, .unset, .unset]) rfl ?_
    refine XS.iload X17.here hx rfl (hb hby at_122) rfl ?_
    refine XS.ifYes X17.here hx rfl (pc0 := 124) (pc' := 139) rfl (hb hby at_124) rfl ((if0 _ _).trans (teq (by decide : (0 : Int32) = (0 : Int32))).1) (by decide) (by decide) ?_
    refine XS.aconstNull X17.here hx rfl (hb hby at_139) ?_
    refine XS.astore X17.here hx rfl (hb hby at_140) rfl rfl (l' := #[.val (.int p1), .val (.int p2), .val (.int p3), .val (.int p4), .val (.int (0 : Int32)), .val .null, .val (.int (1 : Int32)), .val (.int (0 : Int32)), .val (.int (0 : Int32)), .val (.ref b2), .val (.ref b12), .val (.ref b12), .val .null, .unset, .unset]) rfl ?_
    show Steps p.tables e below (T17.setTop (mkF m 142 #[.val (.int p1), .val (.int p2), .val (.int p3), .val (.int p4), .val (.int (0 : Int32)), .val .null, .val (.int (1 : Int32)), .val (.int (0 : Int32)), .val (.int (0 : Int32)), .val (.ref b2), .val (.ref b12), .val (.ref b12), .val .null, .unset, .unset] [])) _
    refine st22 _ ?_
    show Steps p.tables e below (T22.setTop (mkF m 145 #[.val (.int p1), .val (.int p2), .val (.int p3), .val (.int p4), .val (.int (0 : Int32)), .val .null, .val (.int (1 : Int32)), .val (.int (0 : Int32)), .val (.int (0 : Int32)), .val (.ref b2), .val (.ref b12), .val (.ref b12), .val .null, .unset, .unset] [(.ref b22)])) _
    refine XS.dup X22.here hx rfl (hb hby at_145) rfl rfl ?_
    refine XS.aload X22.here hx rfl (hb hby at_146) rfl rfl ?_
    refine XS.aload X22.here hx rfl (hb hby at_148) rfl rfl ?_
    refine XS.aload X22.here hx rfl (hb hby at_150) rfl rfl ?_
    show Steps p.tables e below (T22.setTop (mkF m 152 #[.val (.int p1), .val (.int p2), .val (.int p3), .val (.int p4), .val (.int (0 : Int32)), .val .null, .val (.int (1 : Int32)), .val (.int (0 : Int32)), .val (.int (0 : Int32)), .val (.ref b2), .val (.ref b12), .val (.ref b12), .val .null, .unset, .unset] [.null, (.ref b12), .null, (.ref b22), (.ref b22)])) _
    refine st28.trans ?_
    show Steps p.tables e below (T28.setTop (mkF m 155 #[.val (.int p1), .val (.int p2), .val (.int p3), .val (.int p4), .val (.int (0 : Int32)), .val .null, .val (.int (1 : Int32)), .val (.int (0 : Int32)), .val (.int (0 : Int32)), .val (.ref b2), .val (.ref b12), .val (.ref b12), .val .null, .unset, .unset] [(.ref b22)])) _
    refine XS.astore X28.here hx rfl (hb hby at_155) rfl rfl (l' := #[.val (.int p1), .val (.int p2), .val (.int p3), .val (.int p4), .val (.int (0 : Int32)), .val .null, .val (.int (1 : Int32)), .val (.int (0 : Int32)), .val (.int (0 : Int32)), .val (.ref b2), .val (.ref b12), .val (.ref b12), .val .null, .val (.ref b22), .unset]) rfl ?_
    refine XS.iload X28.here hx rfl (hb hby at_157) rfl ?_
    refine XS.ifYes X28.here hx rfl (pc0 := 159) (pc' := 171) rfl (hb hby at_159) rfl ((if0 _ _).trans (teq (by decide : (0 : Int32) = (0 : Int32))).1) (by decide) (by decide) ?_
    refine XS.iconst X28.here hx rfl (hb hby at_171) ?_
    refine XS.istore X28.here hx rfl (hb hby at_172) rfl (l' := #[.val (.int p1), .val (.int p2), .val (.int p3), .val (.int p4), .val (.int (0 : Int32)), .val .null, .val (.int (1 : Int32)), .val (.int (0 : Int32)), .val (.int (0 : Int32)), .val (.ref b2), .val (.ref b12), .val (.ref b12), .val .null, .val (.ref b22), .val (.int (0 : Int32))]) rfl ?_
    show Steps p.tables e below (T28.setTop (mkF m 174 #[.val (.int p1), .val (.int p2), .val (.int p3), .val (.int p4), .val (.int (0 : Int32)), .val .null, .val (.int (1 : Int32)), .val (.int (0 : Int32)), .val (.int (0 : Int32)), .val (.ref b2), .val (.ref b12), .val (.ref b12), .val .null, .val (.ref b22), .val (.int (0 : Int32))] [])) _
    refine XS.aload X28.here hx rfl (hb hby at_174) rfl rfl ?_
    show Steps p.tables e below (T28.setTop (mkF m 176 #[.val (.int p1), .val (.int p2), .val (.int p3), .val (.int p4), .val (.int (0 : Int32)), .val .null, .val (.int (1 : Int32)), .val (.int (0 : Int32)), .val (.int (0 : Int32)), .val (.ref b2), .val (.ref b12), .val (.ref b12), .val .null, .val (.ref b22), .val (.int (0 : Int32))] [(.ref b22)])) _
    refine st35.trans ?_
    show Steps p.tables e below (T35.setTop (mkF m 179 #[.val (.int p1), .val (.int p2), .val (.int p3), .val (.int p4), .val (.int (0 : Int32)), .val .null, .val (.int (1 : Int32)), .val (.int (0 : Int32)), .val (.int (0 : Int32)), .val (.ref b2), .val (.ref b12), .val (.ref b12), .val .null, .val (.ref b22), .val (.int (0 : Int32))] [(.int (0 : Int32))])) _
    refine XS.iload X35.here hx rfl (hb hby at_179) rfl ?_
    refine XS.icmpNo X35.here hx rfl (hb hby at_181) rfl (teq (by decide : (0 : Int32) = (0 : Int32))).2 ?_
    refine XS.iconst X35.here hx rfl (hb hby at_184) ?_
    refine XS.goto X35.here hx rfl (pc0 := 185) (pc' := 189) rfl (hb hby at_185) (by decide) (by decide) ?_
    show Steps p.tables e below (T35.setTop (mkF m 189 #[.val (.int p1), .val (.int p2), .val (.int p3), .val (.int p4), .val (.int (0 : Int32)), .val .null, .val (.int (1 : Int32)), .val (.int (0 : Int32)), .val (.int (0 : Int32)), .val (.ref b2), .val (.ref b12), .val (.ref b12), .val .null, .val (.ref b22), .val (.int (0 : Int32))] [(.int (1 : Int32))])) _
    exact retN X35 hx (t := .boolean) Bd.returns (by simp) (hb hby at_189) hr
  · show own_Qk (some (.int (1 : Int32))) [] h0 n0 _ T35.heap _
    rw [e35]
    exact ⟨rfl, N35, K28⟩
  · show CHr Z own_EL s.vm s.heap T35.vm T35.heap
    rw [hh, e35]
    exact R28.trans (CHv.at (s := s) (vm0 := s.vm) X35 hZ hEL C28)
set_option maxRecDepth 65536 in
set_option maxHeartbeats 40000000 in
theorem r_law3 (l : Launch) (Z : State) (a0 : Array Value) (hw : ∀ d ∈ tables_1, d.before a0 Z = true) (ws : List Jvm.Cond) (s_L1 s_L4 s_L3 s_L5 s_L2 : Addr) (cs1 : Int32) (h0 : Heap) (n0 : Nat) (O0 : Old Z n0 h0) (G : own_Ctx Z Z.heap s_L1 s_L4 s_L3 s_L5 s_L2 cs1) (hEL : EW Z a0 own_EL) (wS : ∀ a ∈ Bundle.stringAtoms, a.before a0 Z = true) (p1 p2 p3 p4 : Int32) (kk : Int32) (hk : (p1 &&& (2147483647 : Int32)) % (6 : Int32) = kk) (hk1 : kk = (1 : Int32) ∨ kk = (2 : Int32) ∨ kk = (3 : Int32) ∨ kk = (4 : Int32) ∨ kk = (5 : Int32)) (hf0_ : ¬ ((p2 &&& (1 : Int32)) = (0 : Int32))) (hf1_ : (p2 &&& (2 : Int32)) = (0 : Int32)) (hf2_ : (p2 &&& (4 : Int32)) = (0 : Int32)) :
    MetFree l x (head1 (Jvm.Cond.code x code maxLocals ret :: ws) room_1) (fun a U => a = #[(.int p1), (.int p2), (.int p3), (.int p4)] ∧ Z.Warmed39 U.vm ∧ U.heap = h0 ∧ CHv Z own_EL U.vm h0) (fun _ _ _ _ _ => True) (fun _ U o U' => ∃ v L, o = .returned v ∧ own_Qk (some (.int (1 : Int32))) [] h0 n0 v U'.heap L ∧ CHr Z own_EL U.vm U.heap U'.vm U'.heap ∧ ReturnedEndW U o U' L 24 1152) := by
  have G0 := G
  obtain ⟨S_L1, E_L1, S_L4, E_L4, S_L3, E_L3, S_L5, E_L5, S_L2, E_L2, S_CS, N_CS⟩ := G
  refine MetFree.of_bodySF (plainFor_of_name pn_0) hisR ?_
  intro p e s m args below meth c s₁ Bd hml0 hP hK
  obtain ⟨rfl, hZ, hh, hC⟩ := hP
  have hx := Bd.exec
  have hby := Bd.bytes
  have hml : c.maxLocals = 15 := hml0
  have hown : s.vm.findClass "com/example/pending_actions/pendingactions/policy/AssessmentIsAutoApprovedPinLaw" = some m.cls := findClass_of_methodNamed Bd.named
  have hnm := (name_of_methodNamed Bd.named Bd.method).1
  have X0 : Stand p l e room_1 (s.setVm s.vm) m #[(.int p1), (.int p2), (.int p3), (.int p4)] below meth c s₁ [] 0 0 := Stand.of_body Bd
  have e0 : s₁.heap = h0 := by rw [← hh, Bd.state]; rfl
  have N0 := Fr.nil n0
  have hS0 : s.Since s.vm h0.size := State.WarmedH.since (State.WarmedH.refl s) _
  have hk0 : h0.size ≤ h0.size := Nat.le_refl _
  have pre0 : ∀ t, Steps p.tables e below (s₁.setTop (mkF m 0 #[.val (.int p1), .val (.int p2), .val (.int p3), .val (.int p4), .unset, .unset, .unset, .unset, .unset, .unset, .unset, .unset, .unset, .unset, .unset] [])) t → Steps p.tables e below (s₁.setTop (entryFrame m #[(.int p1), (.int p2), (.int p3), (.int p4)] maxLocals)) t := fun t k => castTop (ef_0_15 m p1 p2 p3 p4) k
  obtain ⟨_, _, ⟨T1, L1, k1, n1⟩, -, X1, ⟨Lc1, hQ1, l1, y1, z1⟩, st1⟩ := Jvm.LawKit.callS X0 hx (y := (⟨"com/example/pending_actions/pendingactions/policy/AssessmentIsAutoApprovedPinLaw", "pick", "(I)Lcom/example/pending_actions/pendingactions/policy/RiskTier;"⟩ : MethodName)) hown (mvT hZ (hw _ (List.mem_of_getElem? (i := 1) rfl))) (mvT hZ (hw _ (List.mem_of_getElem? (i := 2) rfl))) (mvT hZ (hw _ (List.mem_of_getElem? (i := 3) rfl))) (mvT hZ (hw _ (List.mem_of_getElem? (i := 4) rfl))) (by decide) (backOf (W := 0) (r_tierN l Z a0 hw [] s_L1 s_L4 s_L3 s_L5 s_L2 cs1 h0 n0 O0 G0 kk hk1) hZ (hw _ (List.mem_of_getElem? (i := 4) rfl)) (hw _ (List.mem_of_getElem? (i := 3) rfl)) (by decide) (by decide)) (g := (mkF m 11 #[.val (.int p1), .val (.int p2), .val (.int p3), .val (.int p4), .val (.int kk), .unset, .unset, .unset, .unset, .unset, .unset, .unset, .unset, .unset, .unset] [(.int kk)])) rfl (by rw [hml]; rfl) (argsL := [(.int kk)]) (rest := []) (lenOf pd_4 rfl) rfl (by show 2 * 0 + _ ≤ _; exact Nat.le_of_eq rfl) (hb hby at_11) (fun _ _ => ⟨rfl, e0, (by decide : 0 + 0 ≤ _), (by decide : 0 + 0 ≤ _)⟩)
  dsimp only [Pt.U, Pt.locs, Pt.cells, Pt.slots] at X1 l1 y1 z1 st1 hQ1
  subst l1 y1 z1
  obtain ⟨ta1, rfl, N1q, e1⟩ := hQ1
  have N1 := Fr.app N0 N1q
  obtain ⟨T2, h2, k2, X2, e2, E2, A2, st2⟩ := newP X1 hx hZ (hw _ (List.mem_of_getElem? (i := 5) rfl)) e1 (g := (mkF m 56 #[.val (.int p1), .val (.int p2), .val (.int p3), .val (.int p4), .val (.int kk), .val (.ref ta1), .val (.int (1 : Int32)), .val (.int (0 : Int32)), .val (.int (0 : Int32)), .unset, .unset, .unset, .unset, .unset, .unset] [(.int (2 : Int32))])) rfl (hb hby at_56) rfl (by decide) (cap := 2) (by decide) (by decide) (by decide) (by decide)
  obtain ⟨b2, g2⟩ : ∃ z, z = h0.size := ⟨_, rfl⟩
  have ne_s_L1_b2 : s_L1 ≠ b2 := Nat.ne_of_lt (Nat.lt_of_lt_of_le (E_L1.ext O0.2).lt (Nat.le_of_eq g2.symm))
  have ne_s_L4_b2 : s_L4 ≠ b2 := Nat.ne_of_lt (Nat.lt_of_lt_of_le (E_L4.ext O0.2).lt (Nat.le_of_eq g2.symm))
  have ne_s_L3_b2 : s_L3 ≠ b2 := Nat.ne_of_lt (Nat.lt_of_lt_of_le (E_L3.ext O0.2).lt (Nat.le_of_eq g2.symm))
  have ne_s_L5_b2 : s_L5 ≠ b2 := Nat.ne_of_lt (Nat.lt_of_lt_of_le (E_L5.ext O0.2).lt (Nat.le_of_eq g2.symm))
  have ne_s_L2_b2 : s_L2 ≠ b2 := Nat.ne_of_lt (Nat.lt_of_lt_of_le (E_L2.ext O0.2).lt (Nat.le_of_eq g2.symm))
  have g_b2 : n0 ≤ b2 := Nat.le_trans (O0.1 ▸ O0.2.1) (Nat.le_of_eq g2.symm)
  have sz_b2 : h0.size ≤ b2 := Nat.le_trans (Keep.refl h0 []).1 (Nat.le_of_eq g2.symm)
  have sn2 : Safe Z own_EL s.vm h0 b2 := Safe.new (Nat.le_of_eq g2.symm)
  rw [← g2] at A2 st2
  have O2 := O0.ext E2
  have K2 : Keep h0 h2 [] := (Keep.refl h0 []).ext E2
  have sf3 := Safe.ext E2 hC sn2
  have C2 : CHv Z own_EL s.vm h2 := hC.ext E2
  have R2 : CHr Z own_EL s.vm h0 s.vm h2 := (CHr.refl hC).trans (CHr.ext E2 hC)
  have hk2 := Nat.le_trans hk0 E2.1
  have V2 : Arv Z h2 b2 k2 .char (2 : Int32) [(.int (0 : Int32)), (.int (0 : Int32))] (.int (0 : Int32)) := (Arv.new A2 (by decide)).pad (pad_rep [] (.int (0 : Int32)) 2)
  have vc4 := V2
  obtain ⟨cl4, Ar4, qk4, S4, Nn4, Hs4, Gf4⟩ := vc4
  have hin4 : ¬ ((0 : Int32) < 0 ∨ cl4.slots.size ≤ ((0 : Int32)).toNatClampNeg) := inb_of S4 ⟨by decide, by decide⟩
  obtain ⟨T5, h5, X5, e5, W5, st5⟩ := stC X2 hx hZ e2 Ar4 (j := (0 : Int32)) hin4 (g := (mkF m 69 #[.val (.int p1), .val (.int p2), .val (.int p3), .val (.int p4), .val (.int kk), .val (.ref ta1), .val (.int (1 : Int32)), .val (.int (0 : Int32)), .val (.int (0 : Int32)), .val (.ref b2), .unset, .unset, .unset, .unset, .unset] [(.int ((p3 &&& (255 : Int32)).toUInt32.toUInt16.toUInt32.toInt32)), (.int (0 : Int32)), (.ref b2)])) rfl rfl (hb hby at_69)
  have O5 := O2.wr W5 g_b2
  have K5 : Keep h0 h5 [] := K2.wr W5 (Or.inr sz_b2)
  have N5 := Fr.snoc X5 N1 g_b2
  have sf6 := Safe.wr W5 sf3 C2 sf3
  have C5 : CHv Z own_EL s.vm h5 := C2.wr W5 sf3
  have R5 : CHr Z own_EL s.vm h0 s.vm h5 := R2.trans (CHr.wr W5 sf3 C2)
  have hk5 := Nat.le_trans hk2 (Keep.of_wr W5).1
  have f7 : Arv Z h5 b2 k2 .char (2 : Int32) [(.int (nar .char ((p3 &&& (255 : Int32)).toUInt32.toUInt16.toUInt32.toInt32))), (.int (0 : Int32))] (.int (0 : Int32)) := Arv.set Ar4 qk4 S4 Nn4 Hs4 Gf4 (fits_nar_char _) W5 0 rfl (Nat.le_of_ble_eq_true rfl)
  have vc8 := f7
  obtain ⟨cl8, Ar8, qk8, S8, Nn8, Hs8, Gf8⟩ := vc8
  have hin8 : ¬ ((1 : Int32) < 0 ∨ cl8.slots.size ≤ ((1 : Int32)).toNatClampNeg) := inb_of S8 ⟨by decide, by decide⟩
  obtain ⟨T9, h9, X9, e9, W9, st9⟩ := stC X5 hx hZ e5 Ar8 (j := (1 : Int32)) hin8 (g := (mkF m 79 #[.val (.int p1), .val (.int p2), .val (.int p3), .val (.int p4), .val (.int kk), .val (.ref ta1), .val (.int (1 : Int32)), .val (.int (0 : Int32)), .val (.int (0 : Int32)), .val (.ref b2), .unset, .unset, .unset, .unset, .unset] [(.int ((p4 &&& (255 : Int32)).toUInt32.toUInt16.toUInt32.toInt32)), (.int (1 : Int32)), (.ref b2)])) rfl rfl (hb hby at_79)
  have O9 := O5.wr W9 g_b2
  have K9 : Keep h0 h9 [] := K5.wr W9 (Or.inr sz_b2)
  have N9 := Fr.snoc X9 N5 g_b2
  have sf10 := Safe.wr W9 sf6 C5 sf6
  have C9 : CHv Z own_EL s.vm h9 := C5.wr W9 sf6
  have R9 : CHr Z own_EL s.vm h0 s.vm h9 := R5.trans (CHr.wr W9 sf6 C5)
  have hk9 := Nat.le_trans hk5 (Keep.of_wr W9).1
  have f11 : Arv Z h9 b2 k2 .char (2 : Int32) [(.int (nar .char ((p3 &&& (255 : Int32)).toUInt32.toUInt16.toUInt32.toInt32))), (.int (nar .char ((p4 &&& (255 : Int32)).toUInt32.toUInt16.toUInt32.toInt32)))] (.int (0 : Int32)) := Arv.set Ar8 qk8 S8 Nn8 Hs8 Gf8 (fits_nar_char _) W9 1 rfl (Nat.le_of_ble_eq_true rfl)
  obtain ⟨T12, h12, X12, e12, E12, A12, D12, -, st12⟩ := newO X9 hx hZ hown (hw _ (List.mem_of_getElem? (i := 6) rfl)) (hw _ (List.mem_of_getElem? (i := 7) rfl)) (hw _ (List.mem_of_getElem? (i := 8) rfl)) e9 (g := (mkF m 98 #[.val (.int p1), .val (.int p2), .val (.int p3), .val (.int p4), .val (.int kk), .val (.ref ta1), .val (.int (1 : Int32)), .val (.int (0 : Int32)), .val (.int (0 : Int32)), .val (.ref b2), .unset, .unset, .unset, .unset, .unset] [])) rfl (hb hby at_98) (by decide) (by decide)
  obtain ⟨b12, g12⟩ : ∃ z, z = h9.size := ⟨_, rfl⟩
  have ne_b2_b12 : b2 ≠ b12 := Nat.ne_of_lt (Nat.lt_of_lt_of_le f11.lt (Nat.le_of_eq g12.symm))
  have ne_s_L1_b12 : s_L1 ≠ b12 := Nat.ne_of_lt (Nat.lt_of_lt_of_le (E_L1.ext O9.2).lt (Nat.le_of_eq g12.symm))
  have ne_s_L4_b12 : s_L4 ≠ b12 := Nat.ne_of_lt (Nat.lt_of_lt_of_le (E_L4.ext O9.2).lt (Nat.le_of_eq g12.symm))
  have ne_s_L3_b12 : s_L3 ≠ b12 := Nat.ne_of_lt (Nat.lt_of_lt_of_le (E_L3.ext O9.2).lt (Nat.le_of_eq g12.symm))
  have ne_s_L5_b12 : s_L5 ≠ b12 := Nat.ne_of_lt (Nat.lt_of_lt_of_le (E_L5.ext O9.2).lt (Nat.le_of_eq g12.symm))
  have ne_s_L2_b12 : s_L2 ≠ b12 := Nat.ne_of_lt (Nat.lt_of_lt_of_le (E_L2.ext O9.2).lt (Nat.le_of_eq g12.symm))
  have g_b12 : n0 ≤ b12 := Nat.le_trans (O9.1 ▸ O9.2.1) (Nat.le_of_eq g12.symm)
  have sz_b12 : h0.size ≤ b12 := Nat.le_trans K9.1 (Nat.le_of_eq g12.symm)
  have sn12 : Safe Z own_EL s.vm h9 b12 := Safe.new (Nat.le_of_eq g12.symm)
  rw [← g12] at A12 D12 st12
  have f13 := f11.ext E12
  have O12 := O9.ext E12
  have K12 : Keep h0 h12 [] := K9.ext E12
  have sf14 := Safe.ext E12 C9 sf10
  have sf15 := Safe.ext E12 C9 sn12
  have C12 : CHv Z own_EL s.vm h12 := C9.ext E12
  have R12 : CHr Z own_EL s.vm h0 s.vm h12 := R9.trans (CHr.ext E12 C9)
  have hk12 := Nat.le_trans hk9 E12.1
  have F12_21 : Fld Z h12 b12 "java/lang/String" "value" "[B" .null := D12 (Or.inr (hw _ (List.mem_of_getElem? (i := 21) rfl))) (ty := (.array .byte)) (by decide)
  have F12_22 : Fld Z h12 b12 "java/lang/String" "coder" "B" (.int (0 : Int32)) := D12 (Or.inr (hw _ (List.mem_of_getElem? (i := 22) rfl))) (ty := .byte) (by decide)
  obtain ⟨LL16, X16, N16⟩ : ∃ LL, Stand p l e room_1 (s.setVm s.vm) m #[(.int p1), (.int p2), (.int p3), (.int p4)] below meth c T12 LL 2 6 ∧ Fr n0 LL := ⟨_, X12, N9⟩
  obtain ⟨_, _, ⟨T17, L17, k17, n17⟩, -, X17, ⟨Lc17, hQ17, l17, y17, z17⟩, st17⟩ := X16.specialBack hx (y := (⟨"java/lang/String", "<init>", "([C)V"⟩ : MethodName)) rfl hown (mvT hZ (hw _ (List.mem_of_getElem? (i := 9) rfl))) (mvT hZ (hw _ (List.mem_of_getElem? (i := 10) rfl))) (mvT hZ (hw _ (List.mem_of_getElem? (i := 11) rfl))) (by decide) (backOf (W := 1) (r_s2 l Z a0 hw [] s_L1 s_L4 s_L3 s_L5 s_L2 cs1 h12 n0 O12 G0 b12 b2 k2 (nar .char ((p3 &&& (255 : Int32)).toUInt32.toUInt16.toUInt32.toInt32)) (nar .char ((p4 &&& (255 : Int32)).toUInt32.toUInt16.toUInt32.toInt32)) A12 g_b12 F12_22 F12_21 f13 (own_ch _) (own_ch _) ne_b2_b12) hZ (hw _ (List.mem_of_getElem? (i := 11) rfl)) (hw _ (List.mem_of_getElem? (i := 8) rfl)) (by decide) (by decide)) (g := (mkF m 104 #[.val (.int p1), .val (.int p2), .val (.int p3), .val (.int p4), .val (.int kk), .val (.ref ta1), .val (.int (1 : Int32)), .val (.int (0 : Int32)), .val (.int (0 : Int32)), .val (.ref b2), .unset, .unset, .unset, .unset, .unset] [(.ref b2), (.ref b12), (.ref b12)])) rfl (by rw [hml]; rfl) (Steps.refl _) (a := b12) (argsL := [(.ref b2)]) (rest := [(.ref b12)]) (lenOf pd_5 rfl) rfl (by show 2 * 0 + _ ≤ _; exact Nat.le_of_eq rfl) (hb hby at_104) (fun _ _ => ⟨rfl, e12, (by decide : 2 + 1 ≤ _), (by decide : 6 + 2 ≤ _)⟩)
  dsimp only [Pt.U, Pt.locs, Pt.cells, Pt.slots] at X17 l17 y17 z17 st17 hQ17
  subst l17 y17 z17
  obtain ⟨rfl, N17q, Kq17⟩ := hQ17
  have N17 := Fr.app N16 N17q
  have f18 := f13.keep Kq17 (fun q => (List.mem_cons.mp q).elim ne_b2_b12 (fun q => nomatch q))
  have f19 := A12.keep Kq17
  have O17 := O12.keep Kq17 (allS g_b12 all0)
  have K17 : Keep h0 T17.heap [] := K12.trans Kq17 (allS (Or.inr sz_b12) all0)
  have sf20 := Safe.keep Kq17 (sfS sf15 sf0) C12 sf14
  have sf21 := Safe.keep Kq17 (sfS sf15 sf0) C12 sf15
  have C17 : CHv Z own_EL s.vm T17.heap := C12.keep Kq17 (sfS sf15 sf0)
  have R17 : CHr Z own_EL s.vm h0 s.vm T17.heap := R12.trans (CHr.keep Kq17 (sfS sf15 sf0) C12)
  have hk17 := Nat.le_trans hk12 Kq17.1
  obtain ⟨T22, h22, X22, e22, E22, A22, D22, -, st22⟩ := newO X17 hx hZ hown (hw _ (List.mem_of_getElem? (i := 27) rfl)) (hw _ (List.mem_of_getElem? (i := 28) rfl)) (hw _ (List.mem_of_getElem? (i := 29) rfl)) rfl (g := (mkF m 142 #[.val (.int p1), .val (.int p2), .val (.int p3), .val (.int p4), .val (.int kk), .val (.ref ta1), .val (.int (1 : Int32)), .val (.int (0 : Int32)), .val (.int (0 : Int32)), .val (.ref b2), .val (.ref b12), .val (.ref b12), .val .null, .unset, .unset] [])) rfl (hb hby at_142) (by decide) (by decide)
  obtain ⟨b22, g22⟩ : ∃ z, z = T17.heap.size := ⟨_, rfl⟩
  have ne_b2_b22 : b2 ≠ b22 := Nat.ne_of_lt (Nat.lt_of_lt_of_le f18.lt (Nat.le_of_eq g22.symm))
  have ne_b12_b22 : b12 ≠ b22 := Nat.ne_of_lt (Nat.lt_of_lt_of_le f19.lt (Nat.le_of_eq g22.symm))
  have ne_s_L1_b22 : s_L1 ≠ b22 := Nat.ne_of_lt (Nat.lt_of_lt_of_le (E_L1.ext O17.2).lt (Nat.le_of_eq g22.symm))
  have ne_s_L4_b22 : s_L4 ≠ b22 := Nat.ne_of_lt (Nat.lt_of_lt_of_le (E_L4.ext O17.2).lt (Nat.le_of_eq g22.symm))
  have ne_s_L3_b22 : s_L3 ≠ b22 := Nat.ne_of_lt (Nat.lt_of_lt_of_le (E_L3.ext O17.2).lt (Nat.le_of_eq g22.symm))
  have ne_s_L5_b22 : s_L5 ≠ b22 := Nat.ne_of_lt (Nat.lt_of_lt_of_le (E_L5.ext O17.2).lt (Nat.le_of_eq g22.symm))
  have ne_s_L2_b22 : s_L2 ≠ b22 := Nat.ne_of_lt (Nat.lt_of_lt_of_le (E_L2.ext O17.2).lt (Nat.le_of_eq g22.symm))
  have g_b22 : n0 ≤ b22 := Nat.le_trans (O17.1 ▸ O17.2.1) (Nat.le_of_eq g22.symm)
  have sz_b22 : h0.size ≤ b22 := Nat.le_trans K17.1 (Nat.le_of_eq g22.symm)
  have sn22 : Safe Z own_EL s.vm T17.heap b22 := Safe.new (Nat.le_of_eq g22.symm)
  rw [← g22] at A22 D22 st22
  have f23 := f18.ext E22
  have f24 := f19.ext E22
  have O22 := O17.ext E22
  have K22 : Keep h0 h22 [] := K17.ext E22
  have sf25 := Safe.ext E22 C17 sf20
  have sf26 := Safe.ext E22 C17 sf21
  have sf27 := Safe.ext E22 C17 sn22
  have C22 : CHv Z own_EL s.vm h22 := C17.ext E22
  have R22 : CHr Z own_EL s.vm h0 s.vm h22 := R17.trans (CHr.ext E22 C17)
  have hk22 := Nat.le_trans hk17 E22.1
  have F22_35 : Fld Z h22 b22 "com/example/pending_actions/pendingactions/policy/Assessment" "tier" "Lcom/example/pending_actions/pendingactions/policy/RiskTier;" .null := D22 (Or.inr (hw _ (List.mem_of_getElem? (i := 35) rfl))) (ty := (.object "com/example/pending_actions/pendingactions/policy/RiskTier")) (by decide)
  have F22_37 : Fld Z h22 b22 "com/example/pending_actions/pendingactions/policy/Assessment" "decider" "Ljava/lang/String;" .null := D22 (Or.inr (hw _ (List.mem_of_getElem? (i := 37) rfl))) (ty := (.object "java/lang/String")) (by decide)
  have F22_39 : Fld Z h22 b22 "com/example/pending_actions/pendingactions/policy/Assessment" "policyVersion" "Ljava/lang/String;" .null := D22 (Or.inr (hw _ (List.mem_of_getElem? (i := 39) rfl))) (ty := (.object "java/lang/String")) (by decide)
  obtain ⟨_, _, ⟨T28, L28, k28, n28⟩, -, X28, ⟨Lc28, hQ28, l28, y28, z28⟩, st28⟩ := X22.specialBack hx (y := (⟨"com/example/pending_actions/pendingactions/policy/Assessment", "<init>", "(Lcom/example/pending_actions/pendingactions/policy/RiskTier;Ljava/lang/String;Ljava/lang/String;)V"⟩ : MethodName)) rfl hown (mvT hZ (hw _ (List.mem_of_getElem? (i := 30) rfl))) (mvT hZ (hw _ (List.mem_of_getElem? (i := 31) rfl))) (mvT hZ (hw _ (List.mem_of_getElem? (i := 32) rfl))) (by decide) (backOf (W := 1) (r_ai3 l Z a0 hw [] s_L1 s_L4 s_L3 s_L5 s_L2 cs1 h22 n0 O22 G0 b22 ta1 b12 A22 g_b22 F22_35 F22_37 F22_39) hZ (hw _ (List.mem_of_getElem? (i := 32) rfl)) (hw _ (List.mem_of_getElem? (i := 29) rfl)) (by decide) (by decide)) (g := (mkF m 152 #[.val (.int p1), .val (.int p2), .val (.int p3), .val (.int p4), .val (.int kk), .val (.ref ta1), .val (.int (1 : Int32)), .val (.int (0 : Int32)), .val (.int (0 : Int32)), .val (.ref b2), .val (.ref b12), .val (.ref b12), .val .null, .unset, .unset] [.null, (.ref b12), (.ref ta1), (.ref b22), (.ref b22)])) rfl (by rw [hml]; rfl) (Steps.refl _) (a := b22) (argsL := [(.ref ta1), (.ref b12), .null]) (rest := [(.ref b22)]) (lenOf pd_6 rfl) rfl (by show 2 * 0 + _ ≤ _; exact Nat.le_of_eq rfl) (hb hby at_152) (fun _ _ => ⟨rfl, e22, (by decide : 4 + 0 ≤ _), (by decide : 11 + 0 ≤ _)⟩)
  dsimp only [Pt.U, Pt.locs, Pt.cells, Pt.slots] at X28 l28 y28 z28 st28 hQ28
  subst l28 y28 z28
  obtain ⟨rfl, N28q, Kq28, Ft28, Fd28⟩ := hQ28
  have N28 := Fr.app N17 N28q
  have f29 := f23.keep Kq28 (fun q => (List.mem_cons.mp q).elim ne_b2_b22 (fun q => nomatch q))
  have f30 := f24.keep Kq28
  have f31 := A22.keep Kq28
  have O28 := O22.keep Kq28 (allS g_b22 all0)
  have K28 : Keep h0 T28.heap [] := K22.trans Kq28 (allS (Or.inr sz_b22) all0)
  have sf32 := Safe.keep Kq28 (sfS sf27 sf0) C22 sf25
  have sf33 := Safe.keep Kq28 (sfS sf27 sf0) C22 sf26
  have sf34 := Safe.keep Kq28 (sfS sf27 sf0) C22 sf27
  have C28 : CHv Z own_EL s.vm T28.heap := C22.keep Kq28 (sfS sf27 sf0)
  have R28 : CHr Z own_EL s.vm h0 s.vm T28.heap := R22.trans (CHr.keep Kq28 (sfS sf27 sf0) C22)
  have hk28 := Nat.le_trans hk22 Kq28.1
  obtain ⟨cq35, kq35, q35a, q35b, q35c⟩ := isOf hZ rfl f31
  obtain ⟨_, _, ⟨T35, L35, k35, n35⟩, -, X35, ⟨Lc35, hQ35, l35, y35, z35⟩, st35⟩ := X28.virtualBack hx (y := (⟨"com/example/pending_actions/pendingactions/policy/Assessment", "isAutoApproved", "()Z"⟩ : MethodName)) (z := (⟨"com/example/pending_actions/pendingactions/policy/Assessment", "isAutoApproved", "()Z"⟩ : MethodName)) hown (mvT hZ (hw _ (List.mem_of_getElem? (i := 40) rfl))) (mvT hZ (hw _ (List.mem_of_getElem? (i := 41) rfl))) (notFace_of_selects (args := #[]) (mvT hZ (hw _ (List.mem_of_getElem? (i := 43) rfl)))) (mvT hZ (hw _ (List.mem_of_getElem? (i := 43) rfl))) (mvT hZ (hw _ (List.mem_of_getElem? (i := 42) rfl))) (by decide) (backOf (W := 0) (r_aa3 l Z a0 hw [] s_L1 s_L4 s_L3 s_L5 s_L2 cs1 T28.heap n0 O28 G0 b22 ta1 b12 Ft28 Fd28) hZ (hw _ (List.mem_of_getElem? (i := 44) rfl)) (hw _ (List.mem_of_getElem? (i := 29) rfl)) (by decide) (by decide)) q35a q35c (g := (mkF m 176 #[.val (.int p1), .val (.int p2), .val (.int p3), .val (.int p4), .val (.int kk), .val (.ref ta1), .val (.int (1 : Int32)), .val (.int (0 : Int32)), .val (.int (0 : Int32)), .val (.ref b2), .val (.ref b12), .val (.ref b12), .val .null, .val (.ref b22), .val (.int (1 : Int32))] [(.ref b22)])) rfl (by rw [hml]; rfl) (Steps.refl _) (argsL := []) (rest := []) (lenOf pd_7 rfl) rfl (by show 2 * 0 + _ ≤ _; exact Nat.le_of_eq rfl) (hb hby at_176) (fun _ _ => ⟨rfl, rfl, (by decide : 4 + 0 ≤ _), (by decide : 11 + 0 ≤ _)⟩)
  dsimp only [Pt.U, Pt.locs, Pt.cells, Pt.slots] at X35 l35 y35 z35 st35 hQ35
  subst l35 y35 z35
  obtain ⟨rfl, N35q, e35⟩ := hQ35
  have N35 := Fr.app N28 N35q
  obtain ⟨fs, hr, hrun, hended, hRW⟩ := X35.leaveW hS0 (by rw [e35]; exact hk28) (v := some (.int (1 : Int32))) (fun h => by rw [Bd.returns] at h; cases h)
  refine ⟨_, _, pre0 _ ?_, hrun, hended, _, _, rfl, ?_, ?_, hRW.1, hRW.2.1, hRW.2.2.1, hRW.2.2.2.mono (by decide) (by decide)⟩
  · show Steps p.tables e below (s₁.setTop (mkF m 0 #[.val (.int p1), .val (.int p2), .val (.int p3), .val (.int p4), .unset, .unset, .unset, .unset, .unset, .unset, .unset, .unset, .unset, .unset, .unset] [])) _
    refine XS.iloadN X0.here hx rfl (hb hby at_0) rfl ?_
    show Steps p.tables e below (s₁.setTop (mkF m 1 #[.val (.int p1), .val (.int p2), .val (.int p3), .val (.int p4), .unset, .unset, .unset, .unset, .unset, .unset, .unset, .unset, .unset, .unset, .unset] [(.int p1)])) _
    refine X0.ldcInt hx hown (mvT hZ (hw _ (List.mem_of_getElem? (i := 0) rfl))) (g := (mkF m 1 #[.val (.int p1), .val (.int p2), .val (.int p3), .val (.int p4), .unset, .unset, .unset, .unset, .unset, .unset, .unset, .unset, .unset, .unset, .unset] [(.int p1)])) rfl (hb hby at_1) _ ?_
    show Steps p.tables e below (s₁.setTop (mkF m 3 #[.val (.int p1), .val (.int p2), .val (.int p3), .val (.int p4), .unset, .unset, .unset, .unset, .unset, .unset, .unset, .unset, .unset, .unset, .unset] [(.int (2147483647 : Int32)), (.int p1)])) _
    refine XS.iand X0.here hx rfl (hb hby at_3) rfl ?_
    refine XS.bipush X0.here hx rfl (hb hby at_4) ?_
    show Steps p.tables e below (s₁.setTop (mkF m 6 #[.val (.int p1), .val (.int p2), .val (.int p3), .val (.int p4), .unset, .unset, .unset, .unset, .unset, .unset, .unset, .unset, .unset, .unset, .unset] [(.int (6 : Int32)), (.int (p1 &&& (2147483647 : Int32)))])) _
    refine iremM X0 hx rfl (hb hby at_6) rfl (by decide) ?_
    show Steps p.tables e below (s₁.setTop (mkF m 7 #[.val (.int p1), .val (.int p2), .val (.int p3), .val (.int p4), .unset, .unset, .unset, .unset, .unset, .unset, .unset, .unset, .unset, .unset, .unset] [(.int ((p1 &&& (2147483647 : Int32)) % (6 : Int32)))])) _
    rw [hk]
    show Steps p.tables e below (s₁.setTop (mkF m 7 #[.val (.int p1), .val (.int p2), .val (.int p3), .val (.int p4), .unset, .unset, .unset, .unset, .unset, .unset, .unset, .unset, .unset, .unset, .unset] [(.int kk)])) _
    refine XS.istore X0.here hx rfl (hb hby at_7) rfl (l' := #[.val (.int p1), .val (.int p2), .val (.int p3), .val (.int p4), .val (.int kk), .unset, .unset, .unset, .unset, .unset, .unset, .unset, .unset, .unset, .unset]) rfl ?_
    refine XS.iload X0.here hx rfl (hb hby at_9) rfl ?_
    show Steps p.tables e below (s₁.setTop (mkF m 11 #[.val (.int p1), .val (.int p2), .val (.int p3), .val (.int p4), .val (.int kk), .unset, .unset, .unset, .unset, .unset, .unset, .unset, .unset, .unset, .unset] [(.int kk)])) _
    refine st1 _ ?_
    show Steps p.tables e below (T1.setTop (mkF m 14 #[.val (.int p1), .val (.int p2), .val (.int p3), .val (.int p4), .val (.int kk), .unset, .unset, .unset, .unset, .unset, .unset, .unset, .unset, .unset, .unset] [(.ref ta1)])) _
    refine XS.astore X1.here hx rfl (hb hby at_14) rfl rfl (l' := #[.val (.int p1), .val (.int p2), .val (.int p3), .val (.int p4), .val (.int kk), .val (.ref ta1), .unset, .unset, .unset, .unset, .unset, .unset, .unset, .unset, .unset]) rfl ?_
    refine XS.iloadN X1.here hx rfl (hb hby at_16) rfl ?_
    refine XS.iconst X1.here hx rfl (hb hby at_17) ?_
    refine XS.iand X1.here hx rfl (hb hby at_18) rfl ?_
    refine XS.ifNo X1.here hx rfl (hb hby at_19) rfl ((if0 _ _).trans (feq (hf0_ : ¬ ((p2 &&& (1 : Int32)) = (0 : Int32)))).1) ?_
    show Steps p.tables e below (T1.setTop (mkF m 22 #[.val (.int p1), .val (.int p2), .val (.int p3), .val (.int p4), .val (.int kk), .val (.ref ta1), .unset, .unset, .unset, .unset, .unset, .unset, .unset, .unset, .unset] [])) _
    refine XS.iconst X1.here hx rfl (hb hby at_22) ?_
    refine XS.goto X1.here hx rfl (pc0 := 23) (pc' := 27) rfl (hb hby at_23) (by decide) (by decide) ?_
    refine XS.istore X1.here hx rfl (hb hby at_27) rfl (l' := #[.val (.int p1), .val (.int p2), .val (.int p3), .val (.int p4), .val (.int kk), .val (.ref ta1), .val (.int (1 : Int32)), .unset, .unset, .unset, .unset, .unset, .unset, .unset, .unset]) rfl ?_
    refine XS.iloadN X1.here hx rfl (hb hby at_29) rfl ?_
    refine XS.iconst X1.here hx rfl (hb hby at_30) ?_
    show Steps p.tables e below (T1.setTop (mkF m 31 #[.val (.int p1), .val (.int p2), .val (.int p3), .val (.int p4), .val (.int kk), .val (.ref ta1), .val (.int (1 : Int32)), .unset, .unset, .unset, .unset, .unset, .unset, .unset, .unset] [(.int (2 : Int32)), (.int p2)])) _
    refine XS.iand X1.here hx rfl (hb hby at_31) rfl ?_
    refine XS.ifYes X1.here hx rfl (pc0 := 32) (pc' := 39) rfl (hb hby at_32) rfl ((if0 _ _).trans (teq (hf1_ : (p2 &&& (2 : Int32)) = (0 : Int32))).1) (by decide) (by decide) ?_
    refine XS.iconst X1.here hx rfl (hb hby at_39) ?_
    refine XS.istore X1.here hx rfl (hb hby at_40) rfl (l' := #[.val (.int p1), .val (.int p2), .val (.int p3), .val (.int p4), .val (.int kk), .val (.ref ta1), .val (.int (1 : Int32)), .val (.int (0 : Int32)), .unset, .unset, .unset, .unset, .unset, .unset, .unset]) rfl ?_
    refine XS.iloadN X1.here hx rfl (hb hby at_42) rfl ?_
    show Steps p.tables e below (T1.setTop (mkF m 43 #[.val (.int p1), .val (.int p2), .val (.int p3), .val (.int p4), .val (.int kk), .val (.ref ta1), .val (.int (1 : Int32)), .val (.int (0 : Int32)), .unset, .unset, .unset, .unset, .unset, .unset, .unset] [(.int p2)])) _
    refine XS.iconst X1.here hx rfl (hb hby at_43) ?_
    refine XS.iand X1.here hx rfl (hb hby at_44) rfl ?_
    refine XS.ifYes X1.here hx rfl (pc0 := 45) (pc' := 52) rfl (hb hby at_45) rfl ((if0 _ _).trans (teq (hf2_ : (p2 &&& (4 : Int32)) = (0 : Int32))).1) (by decide) (by decide) ?_
    refine XS.iconst X1.here hx rfl (hb hby at_52) ?_
    refine XS.istore X1.here hx rfl (hb hby at_53) rfl (l' := #[.val (.int p1), .val (.int p2), .val (.int p3), .val (.int p4), .val (.int kk), .val (.ref ta1), .val (.int (1 : Int32)), .val (.int (0 : Int32)), .val (.int (0 : Int32)), .unset, .unset, .unset, .unset, .unset, .unset]) rfl ?_
    show Steps p.tables e below (T1.setTop (mkF m 55 #[.val (.int p1), .val (.int p2), .val (.int p3), .val (.int p4), .val (.int kk), .val (.ref ta1), .val (.int (1 : Int32)), .val (.int (0 : Int32)), .val (.int (0 : Int32)), .unset, .unset, .unset, .unset, .unset, .unset] [])) _
    refine XS.iconst X1.here hx rfl (hb hby at_55) ?_
    show Steps p.tables e below (T1.setTop (mkF m 56 #[.val (.int p1), .val (.int p2), .val (.int p3), .val (.int p4), .val (.int kk), .val (.ref ta1), .val (.int (1 : Int32)), .val (.int (0 : Int32)), .val (.int (0 : Int32)), .unset, .unset, .unset, .unset, .unset, .unset] [(.int (2 : Int32))])) _
    refine st2 _ ?_
    show Steps p.tables e below (T2.setTop (mkF m 58 #[.val (.int p1), .val (.int p2), .val (.int p3), .val (.int p4), .val (.int kk), .val (.ref ta1), .val (.int (1 : Int32)), .val (.int (0 : Int32)), .val (.int (0 : Int32)), .unset, .unset, .unset, .unset, .unset, .unset] [(.ref b2)])) _
    refine XS.astore X2.here hx rfl (hb hby at_58) rfl rfl (l' := #[.val (.int p1), .val (.int p2), .val (.int p3), .val (.int p4), .val (.int kk), .val (.ref ta1), .val (.int (1 : Int32)), .val (.int (0 : Int32)), .val (.int (0 : Int32)), .val (.ref b2), .unset, .unset, .unset, .unset, .unset]) rfl ?_
    refine XS.aload X2.here hx rfl (hb hby at_60) rfl rfl ?_
    refine XS.iconst X2.here hx rfl (hb hby at_62) ?_
    refine XS.iloadN X2.here hx rfl (hb hby at_63) rfl ?_
    refine XS.sipush X2.here hx rfl (hb hby at_64) ?_
    show Steps p.tables e below (T2.setTop (mkF m 67 #[.val (.int p1), .val (.int p2), .val (.int p3), .val (.int p4), .val (.int kk), .val (.ref ta1), .val (.int (1 : Int32)), .val (.int (0 : Int32)), .val (.int (0 : Int32)), .val (.ref b2), .unset, .unset, .unset, .unset, .unset] [(.int (255 : Int32)), (.int p3), (.int (0 : Int32)), (.ref b2)])) _
    refine XS.iand X2.here hx rfl (hb hby at_67) rfl ?_
    refine XS.i2c X2.here hx rfl (hb hby at_68) rfl ?_
    show Steps p.tables e below (T2.setTop (mkF m 69 #[.val (.int p1), .val (.int p2), .val (.int p3), .val (.int p4), .val (.int kk), .val (.ref ta1), .val (.int (1 : Int32)), .val (.int (0 : Int32)), .val (.int (0 : Int32)), .val (.ref b2), .unset, .unset, .unset, .unset, .unset] [(.int ((p3 &&& (255 : Int32)).toUInt32.toUInt16.toUInt32.toInt32)), (.int (0 : Int32)), (.ref b2)])) _
    refine st5 _ ?_
    show Steps p.tables e below (T5.setTop (mkF m 70 #[.val (.int p1), .val (.int p2), .val (.int p3), .val (.int p4), .val (.int kk), .val (.ref ta1), .val (.int (1 : Int32)), .val (.int (0 : Int32)), .val (.int (0 : Int32)), .val (.ref b2), .unset, .unset, .unset, .unset, .unset] [])) _
    refine XS.aload X5.here hx rfl (hb hby at_70) rfl rfl ?_
    refine XS.iconst X5.here hx rfl (hb hby at_72) ?_
    refine XS.iloadN X5.here hx rfl (hb hby at_73) rfl ?_
    refine XS.sipush X5.here hx rfl (hb hby at_74) ?_
    refine XS.iand X5.here hx rfl (hb hby at_77) rfl ?_
    show Steps p.tables e below (T5.setTop (mkF m 78 #[.val (.int p1), .val (.int p2), .val (.int p3), .val (.int p4), .val (.int kk), .val (.ref ta1), .val (.int (1 : Int32)), .val (.int (0 : Int32)), .val (.int (0 : Int32)), .val (.ref b2), .unset, .unset, .unset, .unset, .unset] [(.int (p4 &&& (255 : Int32))), (.int (1 : Int32)), (.ref b2)])) _
    refine XS.i2c X5.here hx rfl (hb hby at_78) rfl ?_
    show Steps p.tables e below (T5.setTop (mkF m 79 #[.val (.int p1), .val (.int p2), .val (.int p3), .val (.int p4), .val (.int kk), .val (.ref ta1), .val (.int (1 : Int32)), .val (.int (0 : Int32)), .val (.int (0 : Int32)), .val (.ref b2), .unset, .unset, .unset, .unset, .unset] [(.int ((p4 &&& (255 : Int32)).toUInt32.toUInt16.toUInt32.toInt32)), (.int (1 : Int32)), (.ref b2)])) _
    refine st9 _ ?_
    show Steps p.tables e below (T9.setTop (mkF m 80 #[.val (.int p1), .val (.int p2), .val (.int p3), .val (.int p4), .val (.int kk), .val (.ref ta1), .val (.int (1 : Int32)), .val (.int (0 : Int32)), .val (.int (0 : Int32)), .val (.ref b2), .unset, .unset, .unset, .unset, .unset] [])) _
    refine XS.iload X9.here hx rfl (hb hby at_80) rfl ?_
    refine XS.ifYes X9.here hx rfl (pc0 := 82) (pc' := 98) rfl (hb hby at_82) rfl ((if0 _ _).trans (teq (by decide : (0 : Int32) = (0 : Int32))).1) (by decide) (by decide) ?_
    show Steps p.tables e below (T9.setTop (mkF m 98 #[.val (.int p1), .val (.int p2), .val (.int p3), .val (.int p4), .val (.int kk), .val (.ref ta1), .val (.int (1 : Int32)), .val (.int (0 : Int32)), .val (.int (0 : Int32)), .val (.ref b2), .unset, .unset, .unset, .unset, .unset] [])) _
    refine st12 _ ?_
    show Steps p.tables e below (T12.setTop (mkF m 101 #[.val (.int p1), .val (.int p2), .val (.int p3), .val (.int p4), .val (.int kk), .val (.ref ta1), .val (.int (1 : Int32)), .val (.int (0 : Int32)), .val (.int (0 : Int32)), .val (.ref b2), .unset, .unset, .unset, .unset, .unset] [(.ref b12)])) _
    refine XS.dup X12.here hx rfl (hb hby at_101) rfl rfl ?_
    refine XS.aload X12.here hx rfl (hb hby at_102) rfl rfl ?_
    show Steps p.tables e below (T12.setTop (mkF m 104 #[.val (.int p1), .val (.int p2), .val (.int p3), .val (.int p4), .val (.int kk), .val (.ref ta1), .val (.int (1 : Int32)), .val (.int (0 : Int32)), .val (.int (0 : Int32)), .val (.ref b2), .unset, .unset, .unset, .unset, .unset] [(.ref b2), (.ref b12), (.ref b12)])) _
    refine st17.trans ?_
    show Steps p.tables e below (T17.setTop (mkF m 107 #[.val (.int p1), .val (.int p2), .val (.int p3), .val (.int p4), .val (.int kk), .val (.ref ta1), .val (.int (1 : Int32)), .val (.int (0 : Int32)), .val (.int (0 : Int32)), .val (.ref b2), .unset, .unset, .unset, .unset, .unset] [(.ref b12)])) _
    refine XS.astore X17.here hx rfl (hb hby at_107) rfl rfl (l' := #[.val (.int p1), .val (.int p2), .val (.int p3), .val (.int p4), .val (.int kk), .val (.ref ta1), .val (.int (1 : Int32)), .val (.int (0 : Int32)), .val (.int (0 : Int32)), .val (.ref b2), .val (.ref b12), .unset, .unset, .unset, .unset]) rfl ?_
    refine XS.iload X17.here hx rfl (hb hby at_109) rfl ?_
    refine XS.ifNo X17.here hx rfl (hb hby at_111) rfl ((if0 _ _).trans (feq (by decide : ¬ ((1 : Int32) = (0 : Int32)))).1) ?_
    refine XS.aload X17.here hx rfl (hb hby at_114) rfl rfl ?_
    refine XS.goto X17.here hx rfl (pc0 := 116) (pc' := 120) rfl (hb hby at_116) (by decide) (by decide) ?_
    show Steps p.tables e below (T17.setTop (mkF m 120 #[.val (.int p1), .val (.int p2), .val (.int p3), .val (.int p4), .val (.int kk), .val (.ref ta1), .val (.int (1 : Int32)), .val (.int (0 : Int32)), .val (.int (0 : Int32)), .val (.ref b2), .val (.ref b12), .unset, .unset, .unset, .unset] [(.ref b12)])) _
    refine XS.astore X17.here hx rfl (hb hby at_120) rfl rfl (l' := #[.val (.int p1), .val (.int p2), .val (.int p3), .val (.int p4), .val (.int kk), .val (.ref ta1), .val (.int (1 : Int32)), .val (.int (0 : Int32)), .val (.int (0 : Int32)), .val (.ref b2), .val (.ref b12), .val (.ref b12), .unset, .unset, .unset]) rfl ?_
    refine XS.iload X17.here hx rfl (hb hby at_122) rfl ?_
    refine XS.ifYes X17.here hx rfl (pc0 := 124) (pc' := 139) rfl (hb hby at_124) rfl ((if0 _ _).trans (teq (by decide : (0 : Int32) = (0 : Int32))).1) (by decide) (by decide) ?_
    refine XS.aconstNull X17.here hx rfl (hb hby at_139) ?_
    refine XS.astore X17.here hx rfl (hb hby at_140) rfl rfl (l' := #[.val (.int p1), .val (.int p2), .val (.int p3), .val (.int p4), .val (.int kk), .val (.ref ta1), .val (.int (1 : Int32)), .val (.int (0 : Int32)), .val (.int (0 : Int32)), .val (.ref b2), .val (.ref b12), .val (.ref b12), .val .null, .unset, .unset]) rfl ?_
    show Steps p.tables e below (T17.setTop (mkF m 142 #[.val (.int p1), .val (.int p2), .val (.int p3), .val (.int p4), .val (.int kk), .val (.ref ta1), .val (.int (1 : Int32)), .val (.int (0 : Int32)), .val (.int (0 : Int32)), .val (.ref b2), .val (.ref b12), .val (.ref b12), .val .null, .unset, .unset] [])) _
    refine st22 _ ?_
    show Steps p.tables e below (T22.setTop (mkF m 145 #[.val (.int p1), .val (.int p2), .val (.int p3), .val (.int p4), .val (.int kk), .val (.ref ta1), .val (.int (1 : Int32)), .val (.int (0 : Int32)), .val (.int (0 : Int32)), .val (.ref b2), .val (.ref b12), .val (.ref b12), .val .null, .unset, .unset] [(.ref b22)])) _
    refine XS.dup X22.here hx rfl (hb hby at_145) rfl rfl ?_
    refine XS.aload X22.here hx rfl (hb hby at_146) rfl rfl ?_
    refine XS.aload X22.here hx rfl (hb hby at_148) rfl rfl ?_
    refine XS.aload X22.here hx rfl (hb hby at_150) rfl rfl ?_
    show Steps p.tables e below (T22.setTop (mkF m 152 #[.val (.int p1), .val (.int p2), .val (.int p3), .val (.int p4), .val (.int kk), .val (.ref ta1), .val (.int (1 : Int32)), .val (.int (0 : Int32)), .val (.int (0 : Int32)), .val (.ref b2), .val (.ref b12), .val (.ref b12), .val .null, .unset, .unset] [.null, (.ref b12), (.ref ta1), (.ref b22), (.ref b22)])) _
    refine st28.trans ?_
    show Steps p.tables e below (T28.setTop (mkF m 155 #[.val (.int p1), .val (.int p2), .val (.int p3), .val (.int p4), .val (.int kk), .val (.ref ta1), .val (.int (1 : Int32)), .val (.int (0 : Int32)), .val (.int (0 : Int32)), .val (.ref b2), .val (.ref b12), .val (.ref b12), .val .null, .unset, .unset] [(.ref b22)])) _
    refine XS.astore X28.here hx rfl (hb hby at_155) rfl rfl (l' := #[.val (.int p1), .val (.int p2), .val (.int p3), .val (.int p4), .val (.int kk), .val (.ref ta1), .val (.int (1 : Int32)), .val (.int (0 : Int32)), .val (.int (0 : Int32)), .val (.ref b2), .val (.ref b12), .val (.ref b12), .val .null, .val (.ref b22), .unset]) rfl ?_
    refine XS.iload X28.here hx rfl (hb hby at_157) rfl ?_
    refine XS.ifNo X28.here hx rfl (hb hby at_159) rfl ((if0 _ _).trans (feq ((by rcases hk1 with h | h | h | h | h <;> rw [h] <;> decide) : ¬ (kk = (0 : Int32)))).1) ?_
    refine XS.iload X28.here hx rfl (hb hby at_162) rfl ?_
    refine XS.ifNo X28.here hx rfl (hb hby at_164) rfl ((if0 _ _).trans (feq (by decide : ¬ ((1 : Int32) = (0 : Int32)))).1) ?_
    show Steps p.tables e below (T28.setTop (mkF m 167 #[.val (.int p1), .val (.int p2), .val (.int p3), .val (.int p4), .val (.int kk), .val (.ref ta1), .val (.int (1 : Int32)), .val (.int (0 : Int32)), .val (.int (0 : Int32)), .val (.ref b2), .val (.ref b12), .val (.ref b12), .val .null, .val (.ref b22), .unset] [])) _
    refine XS.iconst X28.here hx rfl (hb hby at_167) ?_
    refine XS.goto X28.here hx rfl (pc0 := 168) (pc' := 172) rfl (hb hby at_168) (by decide) (by decide) ?_
    refine XS.istore X28.here hx rfl (hb hby at_172) rfl (l' := #[.val (.int p1), .val (.int p2), .val (.int p3), .val (.int p4), .val (.int kk), .val (.ref ta1), .val (.int (1 : Int32)), .val (.int (0 : Int32)), .val (.int (0 : Int32)), .val (.ref b2), .val (.ref b12), .val (.ref b12), .val .null, .val (.ref b22), .val (.int (1 : Int32))]) rfl ?_
    refine XS.aload X28.here hx rfl (hb hby at_174) rfl rfl ?_
    show Steps p.tables e below (T28.setTop (mkF m 176 #[.val (.int p1), .val (.int p2), .val (.int p3), .val (.int p4), .val (.int kk), .val (.ref ta1), .val (.int (1 : Int32)), .val (.int (0 : Int32)), .val (.int (0 : Int32)), .val (.ref b2), .val (.ref b12), .val (.ref b12), .val .null, .val (.ref b22), .val (.int (1 : Int32))] [(.ref b22)])) _
    refine st35.trans ?_
    show Steps p.tables e below (T35.setTop (mkF m 179 #[.val (.int p1), .val (.int p2), .val (.int p3), .val (.int p4), .val (.int kk), .val (.ref ta1), .val (.int (1 : Int32)), .val (.int (0 : Int32)), .val (.int (0 : Int32)), .val (.ref b2), .val (.ref b12), .val (.ref b12), .val .null, .val (.ref b22), .val (.int (1 : Int32))] [(.int (1 : Int32))])) _
    refine XS.iload X35.here hx rfl (hb hby at_179) rfl ?_
    refine XS.icmpNo X35.here hx rfl (hb hby at_181) rfl (teq (by decide : (1 : Int32) = (1 : Int32))).2 ?_
    refine XS.iconst X35.here hx rfl (hb hby at_184) ?_
    refine XS.goto X35.here hx rfl (pc0 := 185) (pc' := 189) rfl (hb hby at_185) (by decide) (by decide) ?_
    show Steps p.tables e below (T35.setTop (mkF m 189 #[.val (.int p1), .val (.int p2), .val (.int p3), .val (.int p4), .val (.int kk), .val (.ref ta1), .val (.int (1 : Int32)), .val (.int (0 : Int32)), .val (.int (0 : Int32)), .val (.ref b2), .val (.ref b12), .val (.ref b12), .val .null, .val (.ref b22), .val (.int (1 : Int32))] [(.int (1 : Int32))])) _
    exact retN X35 hx (t := .boolean) Bd.returns (by simp) (hb hby at_189) hr
  · show own_Qk (some (.int (1 : Int32))) [] h0 n0 _ T35.heap _
    rw [e35]
    exact ⟨rfl, N35, K28⟩
  · show CHr Z own_EL s.vm s.heap T35.vm T35.heap
    rw [hh, e35]
    exact R28.trans (CHv.at (s := s) (vm0 := s.vm) X35 hZ hEL C28)
set_option maxRecDepth 65536 in
set_option maxHeartbeats 40000000 in
theorem r_law4 (l : Launch) (Z : State) (a0 : Array Value) (hw : ∀ d ∈ tables_1, d.before a0 Z = true) (ws : List Jvm.Cond) (s_L1 s_L4 s_L3 s_L5 s_L2 : Addr) (cs1 : Int32) (h0 : Heap) (n0 : Nat) (O0 : Old Z n0 h0) (G : own_Ctx Z Z.heap s_L1 s_L4 s_L3 s_L5 s_L2 cs1) (hEL : EW Z a0 own_EL) (wS : ∀ a ∈ Bundle.stringAtoms, a.before a0 Z = true) (p1 p2 p3 p4 : Int32) (hk : (p1 &&& (2147483647 : Int32)) % (6 : Int32) = (0 : Int32)) (hf0_ : (p2 &&& (1 : Int32)) = (0 : Int32)) (hf1_ : ¬ ((p2 &&& (2 : Int32)) = (0 : Int32))) (hf2_ : (p2 &&& (4 : Int32)) = (0 : Int32)) :
    MetFree l x (head1 (Jvm.Cond.code x code maxLocals ret :: ws) room_1) (fun a U => a = #[(.int p1), (.int p2), (.int p3), (.int p4)] ∧ Z.Warmed39 U.vm ∧ U.heap = h0 ∧ CHv Z own_EL U.vm h0) (fun _ _ _ _ _ => True) (fun _ U o U' => ∃ v L, o = .returned v ∧ own_Qk (some (.int (1 : Int32))) [] h0 n0 v U'.heap L ∧ CHr Z own_EL U.vm U.heap U'.vm U'.heap ∧ ReturnedEndW U o U' L 24 1152) := by
  have G0 := G
  obtain ⟨S_L1, E_L1, S_L4, E_L4, S_L3, E_L3, S_L5, E_L5, S_L2, E_L2, S_CS, N_CS⟩ := G
  refine MetFree.of_bodySF (plainFor_of_name pn_0) hisR ?_
  intro p e s m args below meth c s₁ Bd hml0 hP hK
  obtain ⟨rfl, hZ, hh, hC⟩ := hP
  have hx := Bd.exec
  have hby := Bd.bytes
  have hml : c.maxLocals = 15 := hml0
  have hown : s.vm.findClass "com/example/pending_actions/pendingactions/policy/AssessmentIsAutoApprovedPinLaw" = some m.cls := findClass_of_methodNamed Bd.named
  have hnm := (name_of_methodNamed Bd.named Bd.method).1
  have X0 : Stand p l e room_1 (s.setVm s.vm) m #[(.int p1), (.int p2), (.int p3), (.int p4)] below meth c s₁ [] 0 0 := Stand.of_body Bd
  have e0 : s₁.heap = h0 := by rw [← hh, Bd.state]; rfl
  have N0 := Fr.nil n0
  have hS0 : s.Since s.vm h0.size := State.WarmedH.since (State.WarmedH.refl s) _
  have hk0 : h0.size ≤ h0.size := Nat.le_refl _
  have pre0 : ∀ t, Steps p.tables e below (s₁.setTop (mkF m 0 #[.val (.int p1), .val (.int p2), .val (.int p3), .val (.int p4), .unset, .unset, .unset, .unset, .unset, .unset, .unset, .unset, .unset, .unset, .unset] [])) t → Steps p.tables e below (s₁.setTop (entryFrame m #[(.int p1), (.int p2), (.int p3), (.int p4)] maxLocals)) t := fun t k => castTop (ef_0_15 m p1 p2 p3 p4) k
  obtain ⟨_, _, ⟨T1, L1, k1, n1⟩, -, X1, ⟨Lc1, hQ1, l1, y1, z1⟩, st1⟩ := Jvm.LawKit.callS X0 hx (y := (⟨"com/example/pending_actions/pendingactions/policy/AssessmentIsAutoApprovedPinLaw", "pick", "(I)Lcom/example/pending_actions/pendingactions/policy/RiskTier;"⟩ : MethodName)) hown (mvT hZ (hw _ (List.mem_of_getElem? (i := 1) rfl))) (mvT hZ (hw _ (List.mem_of_getElem? (i := 2) rfl))) (mvT hZ (hw _ (List.mem_of_getElem? (i := 3) rfl))) (mvT hZ (hw _ (List.mem_of_getElem? (i := 4) rfl))) (by decide) (backOf (W := 0) (r_tier_0 l Z a0 hw [] s_L1 s_L4 s_L3 s_L5 s_L2 cs1 h0 n0 O0 G0) hZ (hw _ (List.mem_of_getElem? (i := 4) rfl)) (hw _ (List.mem_of_getElem? (i := 3) rfl)) (by decide) (by decide)) (g := (mkF m 11 #[.val (.int p1), .val (.int p2), .val (.int p3), .val (.int p4), .val (.int (0 : Int32)), .unset, .unset, .unset, .unset, .unset, .unset, .unset, .unset, .unset, .unset] [(.int (0 : Int32))])) rfl (by rw [hml]; rfl) (argsL := [(.int (0 : Int32))]) (rest := []) (lenOf pd_4 rfl) rfl (by show 2 * 0 + _ ≤ _; exact Nat.le_of_eq rfl) (hb hby at_11) (fun _ _ => ⟨rfl, e0, (by decide : 0 + 0 ≤ _), (by decide : 0 + 0 ≤ _)⟩)
  dsimp only [Pt.U, Pt.locs, Pt.cells, Pt.slots] at X1 l1 y1 z1 st1 hQ1
  subst l1 y1 z1
  obtain ⟨rfl, N1q, e1⟩ := hQ1
  have N1 := Fr.app N0 N1q
  obtain ⟨T2, h2, k2, X2, e2, E2, A2, st2⟩ := newP X1 hx hZ (hw _ (List.mem_of_getElem? (i := 5) rfl)) e1 (g := (mkF m 56 #[.val (.int p1), .val (.int p2), .val (.int p3), .val (.int p4), .val (.int (0 : Int32)), .val .null, .val (.int (0 : Int32)), .val (.int (1 : Int32)), .val (.int (0 : Int32)), .unset, .unset, .unset, .unset, .unset, .unset] [(.int (2 : Int32))])) rfl (hb hby at_56) rfl (by decide) (cap := 2) (by decide) (by decide) (by decide) (by decide)
  obtain ⟨b2, g2⟩ : ∃ z, z = h0.size := ⟨_, rfl⟩
  have ne_s_L1_b2 : s_L1 ≠ b2 := Nat.ne_of_lt (Nat.lt_of_lt_of_le (E_L1.ext O0.2).lt (Nat.le_of_eq g2.symm))
  have ne_s_L4_b2 : s_L4 ≠ b2 := Nat.ne_of_lt (Nat.lt_of_lt_of_le (E_L4.ext O0.2).lt (Nat.le_of_eq g2.symm))
  have ne_s_L3_b2 : s_L3 ≠ b2 := Nat.ne_of_lt (Nat.lt_of_lt_of_le (E_L3.ext O0.2).lt (Nat.le_of_eq g2.symm))
  have ne_s_L5_b2 : s_L5 ≠ b2 := Nat.ne_of_lt (Nat.lt_of_lt_of_le (E_L5.ext O0.2).lt (Nat.le_of_eq g2.symm))
  have ne_s_L2_b2 : s_L2 ≠ b2 := Nat.ne_of_lt (Nat.lt_of_lt_of_le (E_L2.ext O0.2).lt (Nat.le_of_eq g2.symm))
  have g_b2 : n0 ≤ b2 := Nat.le_trans (O0.1 ▸ O0.2.1) (Nat.le_of_eq g2.symm)
  have sz_b2 : h0.size ≤ b2 := Nat.le_trans (Keep.refl h0 []).1 (Nat.le_of_eq g2.symm)
  have sn2 : Safe Z own_EL s.vm h0 b2 := Safe.new (Nat.le_of_eq g2.symm)
  rw [← g2] at A2 st2
  have O2 := O0.ext E2
  have K2 : Keep h0 h2 [] := (Keep.refl h0 []).ext E2
  have sf3 := Safe.ext E2 hC sn2
  have C2 : CHv Z own_EL s.vm h2 := hC.ext E2
  have R2 : CHr Z own_EL s.vm h0 s.vm h2 := (CHr.refl hC).trans (CHr.ext E2 hC)
  have hk2 := Nat.le_trans hk0 E2.1
  have V2 : Arv Z h2 b2 k2 .char (2 : Int32) [(.int (0 : Int32)), (.int (0 : Int32))] (.int (0 : Int32)) := (Arv.new A2 (by decide)).pad (pad_rep [] (.int (0 : Int32)) 2)
  have vc4 := V2
  obtain ⟨cl4, Ar4, qk4, S4, Nn4, Hs4, Gf4⟩ := vc4
  have hin4 : ¬ ((0 : Int32) < 0 ∨ cl4.slots.size ≤ ((0 : Int32)).toNatClampNeg) := inb_of S4 ⟨by decide, by decide⟩
  obtain ⟨T5, h5, X5, e5, W5, st5⟩ := stC X2 hx hZ e2 Ar4 (j := (0 : Int32)) hin4 (g := (mkF m 69 #[.val (.int p1), .val (.int p2), .val (.int p3), .val (.int p4), .val (.int (0 : Int32)), .val .null, .val (.int (0 : Int32)), .val (.int (1 : Int32)), .val (.int (0 : Int32)), .val (.ref b2), .unset, .unset, .unset, .unset, .unset] [(.int ((p3 &&& (255 : Int32)).toUInt32.toUInt16.toUInt32.toInt32)), (.int (0 : Int32)), (.ref b2)])) rfl rfl (hb hby at_69)
  have O5 := O2.wr W5 g_b2
  have K5 : Keep h0 h5 [] := K2.wr W5 (Or.inr sz_b2)
  have N5 := Fr.snoc X5 N1 g_b2
  have sf6 := Safe.wr W5 sf3 C2 sf3
  have C5 : CHv Z own_EL s.vm h5 := C2.wr W5 sf3
  have R5 : CHr Z own_EL s.vm h0 s.vm h5 := R2.trans (CHr.wr W5 sf3 C2)
  have hk5 := Nat.le_trans hk2 (Keep.of_wr W5).1
  have f7 : Arv Z h5 b2 k2 .char (2 : Int32) [(.int (nar .char ((p3 &&& (255 : Int32)).toUInt32.toUInt16.toUInt32.toInt32))), (.int (0 : Int32))] (.int (0 : Int32)) := Arv.set Ar4 qk4 S4 Nn4 Hs4 Gf4 (fits_nar_char _) W5 0 rfl (Nat.le_of_ble_eq_true rfl)
  have vc8 := f7
  obtain ⟨cl8, Ar8, qk8, S8, Nn8, Hs8, Gf8⟩ := vc8
  have hin8 : ¬ ((1 : Int32) < 0 ∨ cl8.slots.size ≤ ((1 : Int32)).toNatClampNeg) := inb_of S8 ⟨by decide, by decide⟩
  obtain ⟨T9, h9, X9, e9, W9, st9⟩ := stC X5 hx hZ e5 Ar8 (j := (1 : Int32)) hin8 (g := (mkF m 79 #[.val (.int p1), .val (.int p2), .val (.int p3), .val (.int p4), .val (.int (0 : Int32)), .val .null, .val (.int (0 : Int32)), .val (.int (1 : Int32)), .val (.int (0 : Int32)), .val (.ref b2), .unset, .unset, .unset, .unset, .unset] [(.int ((p4 &&& (255 : Int32)).toUInt32.toUInt16.toUInt32.toInt32)), (.int (1 : Int32)), (.ref b2)])) rfl rfl (hb hby at_79)
  have O9 := O5.wr W9 g_b2
  have K9 : Keep h0 h9 [] := K5.wr W9 (Or.inr sz_b2)
  have N9 := Fr.snoc X9 N5 g_b2
  have sf10 := Safe.wr W9 sf6 C5 sf6
  have C9 : CHv Z own_EL s.vm h9 := C5.wr W9 sf6
  have R9 : CHr Z own_EL s.vm h0 s.vm h9 := R5.trans (CHr.wr W9 sf6 C5)
  have hk9 := Nat.le_trans hk5 (Keep.of_wr W9).1
  have f11 : Arv Z h9 b2 k2 .char (2 : Int32) [(.int (nar .char ((p3 &&& (255 : Int32)).toUInt32.toUInt16.toUInt32.toInt32))), (.int (nar .char ((p4 &&& (255 : Int32)).toUInt32.toUInt16.toUInt32.toInt32)))] (.int (0 : Int32)) := Arv.set Ar8 qk8 S8 Nn8 Hs8 Gf8 (fits_nar_char _) W9 1 rfl (Nat.le_of_ble_eq_true rfl)
  obtain ⟨T12, h12, X12, e12, E12, A12, D12, -, st12⟩ := newO X9 hx hZ hown (hw _ (List.mem_of_getElem? (i := 6) rfl)) (hw _ (List.mem_of_getElem? (i := 7) rfl)) (hw _ (List.mem_of_getElem? (i := 8) rfl)) e9 (g := (mkF m 85 #[.val (.int p1), .val (.int p2), .val (.int p3), .val (.int p4), .val (.int (0 : Int32)), .val .null, .val (.int (0 : Int32)), .val (.int (1 : Int32)), .val (.int (0 : Int32)), .val (.ref b2), .unset, .unset, .unset, .unset, .unset] [])) rfl (hb hby at_85) (by decide) (by decide)
  obtain ⟨b12, g12⟩ : ∃ z, z = h9.size := ⟨_, rfl⟩
  have ne_b2_b12 : b2 ≠ b12 := Nat.ne_of_lt (Nat.lt_of_lt_of_le f11.lt (Nat.le_of_eq g12.symm))
  have ne_s_L1_b12 : s_L1 ≠ b12 := Nat.ne_of_lt (Nat.lt_of_lt_of_le (E_L1.ext O9.2).lt (Nat.le_of_eq g12.symm))
  have ne_s_L4_b12 : s_L4 ≠ b12 := Nat.ne_of_lt (Nat.lt_of_lt_of_le (E_L4.ext O9.2).lt (Nat.le_of_eq g12.symm))
  have ne_s_L3_b12 : s_L3 ≠ b12 := Nat.ne_of_lt (Nat.lt_of_lt_of_le (E_L3.ext O9.2).lt (Nat.le_of_eq g12.symm))
  have ne_s_L5_b12 : s_L5 ≠ b12 := Nat.ne_of_lt (Nat.lt_of_lt_of_le (E_L5.ext O9.2).lt (Nat.le_of_eq g12.symm))
  have ne_s_L2_b12 : s_L2 ≠ b12 := Nat.ne_of_lt (Nat.lt_of_lt_of_le (E_L2.ext O9.2).lt (Nat.le_of_eq g12.symm))
  have g_b12 : n0 ≤ b12 := Nat.le_trans (O9.1 ▸ O9.2.1) (Nat.le_of_eq g12.symm)
  have sz_b12 : h0.size ≤ b12 := Nat.le_trans K9.1 (Nat.le_of_eq g12.symm)
  have sn12 : Safe Z own_EL s.vm h9 b12 := Safe.new (Nat.le_of_eq g12.symm)
  rw [← g12] at A12 D12 st12
  have f13 := f11.ext E12
  have O12 := O9.ext E12
  have K12 : Keep h0 h12 [] := K9.ext E12
  have sf14 := Safe.ext E12 C9 sf10
  have sf15 := Safe.ext E12 C9 sn12
  have C12 : CHv Z own_EL s.vm h12 := C9.ext E12
  have R12 : CHr Z own_EL s.vm h0 s.vm h12 := R9.trans (CHr.ext E12 C9)
  have hk12 := Nat.le_trans hk9 E12.1
  have F12_21 : Fld Z h12 b12 "java/lang/String" "value" "[B" .null := D12 (Or.inr (hw _ (List.mem_of_getElem? (i := 21) rfl))) (ty := (.array .byte)) (by decide)
  have F12_22 : Fld Z h12 b12 "java/lang/String" "coder" "B" (.int (0 : Int32)) := D12 (Or.inr (hw _ (List.mem_of_getElem? (i := 22) rfl))) (ty := .byte) (by decide)
  obtain ⟨T16, h16, k16, X16, e16, E16, A16, st16⟩ := newP X12 hx hZ (hw _ (List.mem_of_getElem? (i := 5) rfl)) e12 (g := (mkF m 90 #[.val (.int p1), .val (.int p2), .val (.int p3), .val (.int p4), .val (.int (0 : Int32)), .val .null, .val (.int (0 : Int32)), .val (.int (1 : Int32)), .val (.int (0 : Int32)), .val (.ref b2), .unset, .unset, .unset, .unset, .unset] [(.int (0 : Int32)), (.ref b12), (.ref b12)])) rfl (hb hby at_90) rfl (by decide) (cap := 0) (by decide) (by decide) (by decide) (by decide)
  obtain ⟨b16, g16⟩ : ∃ z, z = h12.size := ⟨_, rfl⟩
  have ne_b2_b16 : b2 ≠ b16 := Nat.ne_of_lt (Nat.lt_of_lt_of_le f13.lt (Nat.le_of_eq g16.symm))
  have ne_b12_b16 : b12 ≠ b16 := Nat.ne_of_lt (Nat.lt_of_lt_of_le A12.lt (Nat.le_of_eq g16.symm))
  have ne_s_L1_b16 : s_L1 ≠ b16 := Nat.ne_of_lt (Nat.lt_of_lt_of_le (E_L1.ext O12.2).lt (Nat.le_of_eq g16.symm))
  have ne_s_L4_b16 : s_L4 ≠ b16 := Nat.ne_of_lt (Nat.lt_of_lt_of_le (E_L4.ext O12.2).lt (Nat.le_of_eq g16.symm))
  have ne_s_L3_b16 : s_L3 ≠ b16 := Nat.ne_of_lt (Nat.lt_of_lt_of_le (E_L3.ext O12.2).lt (Nat.le_of_eq g16.symm))
  have ne_s_L5_b16 : s_L5 ≠ b16 := Nat.ne_of_lt (Nat.lt_of_lt_of_le (E_L5.ext O12.2).lt (Nat.le_of_eq g16.symm))
  have ne_s_L2_b16 : s_L2 ≠ b16 := Nat.ne_of_lt (Nat.lt_of_lt_of_le (E_L2.ext O12.2).lt (Nat.le_of_eq g16.symm))
  have g_b16 : n0 ≤ b16 := Nat.le_trans (O12.1 ▸ O12.2.1) (Nat.le_of_eq g16.symm)
  have sz_b16 : h0.size ≤ b16 := Nat.le_trans K12.1 (Nat.le_of_eq g16.symm)
  have sn16 : Safe Z own_EL s.vm h12 b16 := Safe.new (Nat.le_of_eq g16.symm)
  rw [← g16] at A16 st16
  have f17 := f13.ext E16
  have f18 := A12.ext E16
  have f19 := F12_21.ext E16
  have f20 := F12_22.ext E16
  have O16 := O12.ext E16
  have K16 : Keep h0 h16 [] := K12.ext E16
  have sf21 := Safe.ext E16 C12 sf14
  have sf22 := Safe.ext E16 C12 sf15
  have sf23 := Safe.ext E16 C12 sn16
  have C16 : CHv Z own_EL s.vm h16 := C12.ext E16
  have R16 : CHr Z own_EL s.vm h0 s.vm h16 := R12.trans (CHr.ext E16 C12)
  have hk16 := Nat.le_trans hk12 E16.1
  have V16 : Arv Z h16 b16 k16 .char (0 : Int32) [] (.int (0 : Int32)) := Arv.new A16 (by decide)
  obtain ⟨LL24, X24, N24⟩ : ∃ LL, Stand p l e room_1 (s.setVm s.vm) m #[(.int p1), (.int p2), (.int p3), (.int p4)] below meth c T16 LL 3 6 ∧ Fr n0 LL := ⟨_, X16, N9⟩
  obtain ⟨_, _, ⟨T25, L25, k25, n25⟩, -, X25, S25a, z25a, ⟨Lc25, hQ25, l25, y25, z25, R25q⟩, st25⟩ := X24.specialBackS hx (y := (⟨"java/lang/String", "<init>", "([C)V"⟩ : MethodName)) rfl hown (mvT hZ (hw _ (List.mem_of_getElem? (i := 9) rfl))) (mvT hZ (hw _ (List.mem_of_getElem? (i := 10) rfl))) (mvT hZ (hw _ (List.mem_of_getElem? (i := 11) rfl))) (by decide) (backOfSH (s := s) (vm0 := s.vm) (EL := own_EL) (W := 1) (r_s0 l Z a0 hw [] s_L1 s_L4 s_L3 s_L5 s_L2 cs1 h16 n0 O16 G0 hEL wS b12 b16 k16 f18 g_b12 f20 f19 V16 (Ne.symm ne_b12_b16)) hZ (hw _ (List.mem_of_getElem? (i := 11) rfl)) (hw _ (List.mem_of_getElem? (i := 8) rfl)) (by decide) (by decide) hEL C16) (g := (mkF m 92 #[.val (.int p1), .val (.int p2), .val (.int p3), .val (.int p4), .val (.int (0 : Int32)), .val .null, .val (.int (0 : Int32)), .val (.int (1 : Int32)), .val (.int (0 : Int32)), .val (.ref b2), .unset, .unset, .unset, .unset, .unset] [(.ref b16), (.ref b12), (.ref b12)])) rfl (by rw [hml]; rfl) (Steps.refl _) (a := b12) (argsL := [(.ref b16)]) (rest := [(.ref b12)]) (lenOf pd_5 rfl) rfl (by show 2 * 0 + _ ≤ _; exact Nat.le_of_eq rfl) (hb hby at_92) (fun _ _ => ⟨rfl, e16, (by decide : 3 + 2 ≤ _), (by decide : 6 + 4 ≤ _)⟩)
  dsimp only [Pt.U, Pt.locs, Pt.cells, Pt.slots] at X25 S25a z25a l25 y25 z25 st25 hQ25 R25q
  subst l25 y25 z25
  have X25 : Stand p l e room_1 (s.setVm T25.vm) m #[(.int p1), (.int p2), (.int p3), (.int p4)] below meth c T25 _ _ _ := X25
  have S25f : s.Since T25.vm T25.heap.size := foldS (T := T16) hS0 (by rw [e16]; exact hk16) S25a z25a
  have hZ25 : Z.Warmed39 T25.vm := State.Warmed39.trans (t := s.setVm s.vm) hZ S25a.1
  have hown25 : (s.setVm T25.vm).vm.findClass "com/example/pending_actions/pendingactions/policy/AssessmentIsAutoApprovedPinLaw" = some m.cls := by rw [show (s.setVm T25.vm).vm = T25.vm from rfl, S25a.1.alike.findClass]; exact hown
  obtain ⟨rfl, N25q, Kq25⟩ := hQ25
  have N25 := Fr.app N24 N25q
  have f26 := f17.keep Kq25 (fun q => (List.mem_cons.mp q).elim ne_b2_b12 (fun q => nomatch q))
  have f27 := f18.keep Kq25
  have f28 := V16.keep Kq25 (fun q => (List.mem_cons.mp q).elim (Ne.symm ne_b12_b16) (fun q => nomatch q))
  have O25 := O16.keep Kq25 (allS g_b12 all0)
  have K25 : Keep h0 T25.heap [] := K16.trans Kq25 (allS (Or.inr sz_b12) all0)
  have sf29 := R25q.safe f17.lt sf21
  have sf30 := R25q.safe f18.lt sf22
  have sf31 := R25q.safe V16.lt sf23
  have R25 : CHr Z own_EL s.vm h0 T25.vm T25.heap := R16.trans R25q
  have C25 := R25q.1
  obtain ⟨T32, h32, X32, e32, E32, A32, D32, -, st32⟩ := newO X25 hx hZ25 hown25 (hw _ (List.mem_of_getElem? (i := 27) rfl)) (hw _ (List.mem_of_getElem? (i := 28) rfl)) (hw _ (List.mem_of_getElem? (i := 29) rfl)) rfl (g := (mkF m 142 #[.val (.int p1), .val (.int p2), .val (.int p3), .val (.int p4), .val (.int (0 : Int32)), .val .null, .val (.int (0 : Int32)), .val (.int (1 : Int32)), .val (.int (0 : Int32)), .val (.ref b2), .val (.ref b12), .val .null, .val .null, .unset, .unset] [])) rfl (hb hby at_142) (by decide) (by decide)
  obtain ⟨b32, g32⟩ : ∃ z, z = T25.heap.size := ⟨_, rfl⟩
  have ne_b2_b32 : b2 ≠ b32 := Nat.ne_of_lt (Nat.lt_of_lt_of_le f26.lt (Nat.le_of_eq g32.symm))
  have ne_b12_b32 : b12 ≠ b32 := Nat.ne_of_lt (Nat.lt_of_lt_of_le f27.lt (Nat.le_of_eq g32.symm))
  have ne_b16_b32 : b16 ≠ b32 := Nat.ne_of_lt (Nat.lt_of_lt_of_le f28.lt (Nat.le_of_eq g32.symm))
  have ne_s_L1_b32 : s_L1 ≠ b32 := Nat.ne_of_lt (Nat.lt_of_lt_of_le (E_L1.ext O25.2).lt (Nat.le_of_eq g32.symm))
  have ne_s_L4_b32 : s_L4 ≠ b32 := Nat.ne_of_lt (Nat.lt_of_lt_of_le (E_L4.ext O25.2).lt (Nat.le_of_eq g32.symm))
  have ne_s_L3_b32 : s_L3 ≠ b32 := Nat.ne_of_lt (Nat.lt_of_lt_of_le (E_L3.ext O25.2).lt (Nat.le_of_eq g32.symm))
  have ne_s_L5_b32 : s_L5 ≠ b32 := Nat.ne_of_lt (Nat.lt_of_lt_of_le (E_L5.ext O25.2).lt (Nat.le_of_eq g32.symm))
  have ne_s_L2_b32 : s_L2 ≠ b32 := Nat.ne_of_lt (Nat.lt_of_lt_of_le (E_L2.ext O25.2).lt (Nat.le_of_eq g32.symm))
  have g_b32 : n0 ≤ b32 := Nat.le_trans (O25.1 ▸ O25.2.1) (Nat.le_of_eq g32.symm)
  have sz_b32 : h0.size ≤ b32 := Nat.le_trans K25.1 (Nat.le_of_eq g32.symm)
  have sn32 : Safe Z own_EL T25.vm T25.heap b32 := Safe.new (Nat.le_of_eq g32.symm)
  rw [← g32] at A32 D32 st32
  have f33 := f26.ext E32
  have f34 := f27.ext E32
  have f35 := f28.ext E32
  have O32 := O25.ext E32
  have K32 : Keep h0 h32 [] := K25.ext E32
  have sf36 := Safe.ext E32 C25 sf29
  have sf37 := Safe.ext E32 C25 sf30
  have sf38 := Safe.ext E32 C25 sf31
  have sf39 := Safe.ext E32 C25 sn32
  have C32 : CHv Z own_EL T25.vm h32 := C25.ext E32
  have R32 : CHr Z own_EL s.vm h0 T25.vm h32 := R25.trans (CHr.ext E32 C25)
  have hk32 := Nat.le_trans (Nat.le_refl _) E32.1
  have F32_35 : Fld Z h32 b32 "com/example/pending_actions/pendingactions/policy/Assessment" "tier" "Lcom/example/pending_actions/pendingactions/policy/RiskTier;" .null := D32 (Or.inr (hw _ (List.mem_of_getElem? (i := 35) rfl))) (ty := (.object "com/example/pending_actions/pendingactions/policy/RiskTier")) (by decide)
  have F32_37 : Fld Z h32 b32 "com/example/pending_actions/pendingactions/policy/Assessment" "decider" "Ljava/lang/String;" .null := D32 (Or.inr (hw _ (List.mem_of_getElem? (i := 37) rfl))) (ty := (.object "java/lang/String")) (by decide)
  have F32_39 : Fld Z h32 b32 "com/example/pending_actions/pendingactions/policy/Assessment" "policyVersion" "Ljava/lang/String;" .null := D32 (Or.inr (hw _ (List.mem_of_getElem? (i := 39) rfl))) (ty := (.object "java/lang/String")) (by decide)
  obtain ⟨_, _, ⟨T40, L40, k40, n40⟩, -, X40, ⟨Lc40, hQ40, l40, y40, z40⟩, st40⟩ := X32.specialBack hx (y := (⟨"com/example/pending_actions/pendingactions/policy/Assessment", "<init>", "(Lcom/example/pending_actions/pendingactions/policy/RiskTier;Ljava/lang/String;Ljava/lang/String;)V"⟩ : MethodName)) rfl hown25 (mvT hZ25 (hw _ (List.mem_of_getElem? (i := 30) rfl))) (mvT hZ25 (hw _ (List.mem_of_getElem? (i := 31) rfl))) (mvT hZ25 (hw _ (List.mem_of_getElem? (i := 32) rfl))) (by decide) (backOf (W := 1) (r_ai0 l Z a0 hw [] s_L1 s_L4 s_L3 s_L5 s_L2 cs1 h32 n0 O32 G0 b32  A32 g_b32 F32_35 F32_37 F32_39) hZ25 (hw _ (List.mem_of_getElem? (i := 32) rfl)) (hw _ (List.mem_of_getElem? (i := 29) rfl)) (by decide) (by decide)) (g := (mkF m 152 #[.val (.int p1), .val (.int p2), .val (.int p3), .val (.int p4), .val (.int (0 : Int32)), .val .null, .val (.int (0 : Int32)), .val (.int (1 : Int32)), .val (.int (0 : Int32)), .val (.ref b2), .val (.ref b12), .val .null, .val .null, .unset, .unset] [.null, .null, .null, (.ref b32), (.ref b32)])) rfl (by rw [hml]; rfl) (Steps.refl _) (a := b32) (argsL := [.null, .null, .null]) (rest := [(.ref b32)]) (lenOf pd_6 rfl) rfl (by show 2 * 0 + _ ≤ _; exact Nat.le_of_eq rfl) (hb hby at_152) (fun _ _ => ⟨rfl, e32, (by decide : 6 + 0 ≤ _), (by decide : 13 + 0 ≤ _)⟩)
  dsimp only [Pt.U, Pt.locs, Pt.cells, Pt.slots] at X40 l40 y40 z40 st40 hQ40
  subst l40 y40 z40
  obtain ⟨rfl, N40q, Kq40, Ft40, Fd40⟩ := hQ40
  have N40 := Fr.app N25 N40q
  have f41 := f33.keep Kq40 (fun q => (List.mem_cons.mp q).elim ne_b2_b32 (fun q => nomatch q))
  have f42 := f34.keep Kq40
  have f43 := f35.keep Kq40 (fun q => (List.mem_cons.mp q).elim ne_b16_b32 (fun q => nomatch q))
  have f44 := A32.keep Kq40
  have O40 := O32.keep Kq40 (allS g_b32 all0)
  have K40 : Keep h0 T40.heap [] := K32.trans Kq40 (allS (Or.inr sz_b32) all0)
  have sf45 := Safe.keep Kq40 (sfS sf39 sf0) C32 sf36
  have sf46 := Safe.keep Kq40 (sfS sf39 sf0) C32 sf37
  have sf47 := Safe.keep Kq40 (sfS sf39 sf0) C32 sf38
  have sf48 := Safe.keep Kq40 (sfS sf39 sf0) C32 sf39
  have C40 : CHv Z own_EL T25.vm T40.heap := C32.keep Kq40 (sfS sf39 sf0)
  have R40 : CHr Z own_EL s.vm h0 T25.vm T40.heap := R32.trans (CHr.keep Kq40 (sfS sf39 sf0) C32)
  have hk40 := Nat.le_trans hk32 Kq40.1
  obtain ⟨cq49, kq49, q49a, q49b, q49c⟩ := isOf hZ25 rfl f44
  obtain ⟨_, _, ⟨T49, L49, k49, n49⟩, -, X49, ⟨Lc49, hQ49, l49, y49, z49⟩, st49⟩ := X40.virtualBack hx (y := (⟨"com/example/pending_actions/pendingactions/policy/Assessment", "isAutoApproved", "()Z"⟩ : MethodName)) (z := (⟨"com/example/pending_actions/pendingactions/policy/Assessment", "isAutoApproved", "()Z"⟩ : MethodName)) hown25 (mvT hZ25 (hw _ (List.mem_of_getElem? (i := 40) rfl))) (mvT hZ25 (hw _ (List.mem_of_getElem? (i := 41) rfl))) (notFace_of_selects (args := #[]) (mvT hZ25 (hw _ (List.mem_of_getElem? (i := 43) rfl)))) (mvT hZ25 (hw _ (List.mem_of_getElem? (i := 43) rfl))) (mvT hZ25 (hw _ (List.mem_of_getElem? (i := 42) rfl))) (by decide) (backOf (W := 0) (r_aa0 l Z a0 hw [] s_L1 s_L4 s_L3 s_L5 s_L2 cs1 T40.heap n0 O40 G0 b32  Ft40 Fd40) hZ25 (hw _ (List.mem_of_getElem? (i := 44) rfl)) (hw _ (List.mem_of_getElem? (i := 29) rfl)) (by decide) (by decide)) q49a q49c (g := (mkF m 176 #[.val (.int p1), .val (.int p2), .val (.int p3), .val (.int p4), .val (.int (0 : Int32)), .val .null, .val (.int (0 : Int32)), .val (.int (1 : Int32)), .val (.int (0 : Int32)), .val (.ref b2), .val (.ref b12), .val .null, .val .null, .val (.ref b32), .val (.int (0 : Int32))] [(.ref b32)])) rfl (by rw [hml]; rfl) (Steps.refl _) (argsL := []) (rest := []) (lenOf pd_7 rfl) rfl (by show 2 * 0 + _ ≤ _; exact Nat.le_of_eq rfl) (hb hby at_176) (fun _ _ => ⟨rfl, rfl, (by decide : 6 + 0 ≤ _), (by decide : 13 + 0 ≤ _)⟩)
  dsimp only [Pt.U, Pt.locs, Pt.cells, Pt.slots] at X49 l49 y49 z49 st49 hQ49
  subst l49 y49 z49
  obtain ⟨rfl, N49q, e49⟩ := hQ49
  have N49 := Fr.app N40 N49q
  obtain ⟨fs, hr, hrun, hended, hRW⟩ := X49.leaveW S25f (by rw [e49]; exact hk40) (v := some (.int (1 : Int32))) (fun h => by rw [Bd.returns] at h; cases h)
  refine ⟨_, _, pre0 _ ?_, hrun, hended, _, _, rfl, ?_, ?_, hRW.1, hRW.2.1, hRW.2.2.1, hRW.2.2.2.mono (by decide) (by decide)⟩
  · show Steps p.tables e below (s₁.setTop (mkF m 0 #[.val (.int p1), .val (.int p2), .val (.int p3), .val (.int p4), .unset, .unset, .unset, .unset, .unset, .unset, .unset, .unset, .unset, .unset, .unset] [])) _
    refine XS.iloadN X0.here hx rfl (hb hby at_0) rfl ?_
    show Steps p.tables e below (s₁.setTop (mkF m 1 #[.val (.int p1), .val (.int p2), .val (.int p3), .val (.int p4), .unset, .unset, .unset, .unset, .unset, .unset, .unset, .unset, .unset, .unset, .unset] [(.int p1)])) _
    refine X0.ldcInt hx hown (mvT hZ (hw _ (List.mem_of_getElem? (i := 0) rfl))) (g := (mkF m 1 #[.val (.int p1), .val (.int p2), .val (.int p3), .val (.int p4), .unset, .unset, .unset, .unset, .unset, .unset, .unset, .unset, .unset, .unset, .unset] [(.int p1)])) rfl (hb hby at_1) _ ?_
    show Steps p.tables e below (s₁.setTop (mkF m 3 #[.val (.int p1), .val (.int p2), .val (.int p3), .val (.int p4), .unset, .unset, .unset, .unset, .unset, .unset, .unset, .unset, .unset, .unset, .unset] [(.int (2147483647 : Int32)), (.int p1)])) _
    refine XS.iand X0.here hx rfl (hb hby at_3) rfl ?_
    refine XS.bipush X0.here hx rfl (hb hby at_4) ?_
    show Steps p.tables e below (s₁.setTop (mkF m 6 #[.val (.int p1), .val (.int p2), .val (.int p3), .val (.int p4), .unset, .unset, .unset, .unset, .unset, .unset, .unset, .unset, .unset, .unset, .unset] [(.int (6 : Int32)), (.int (p1 &&& (2147483647 : Int32)))])) _
    refine iremM X0 hx rfl (hb hby at_6) rfl (by decide) ?_
    show Steps p.tables e below (s₁.setTop (mkF m 7 #[.val (.int p1), .val (.int p2), .val (.int p3), .val (.int p4), .unset, .unset, .unset, .unset, .unset, .unset, .unset, .unset, .unset, .unset, .unset] [(.int ((p1 &&& (2147483647 : Int32)) % (6 : Int32)))])) _
    rw [hk]
    show Steps p.tables e below (s₁.setTop (mkF m 7 #[.val (.int p1), .val (.int p2), .val (.int p3), .val (.int p4), .unset, .unset, .unset, .unset, .unset, .unset, .unset, .unset, .unset, .unset, .unset] [(.int (0 : Int32))])) _
    refine XS.istore X0.here hx rfl (hb hby at_7) rfl (l' := #[.val (.int p1), .val (.int p2), .val (.int p3), .val (.int p4), .val (.int (0 : Int32)), .unset, .unset, .unset, .unset, .unset, .unset, .unset, .unset, .unset, .unset]) rfl ?_
    refine XS.iload X0.here hx rfl (hb hby at_9) rfl ?_
    show Steps p.tables e below (s₁.setTop (mkF m 11 #[.val (.int p1), .val (.int p2), .val (.int p3), .val (.int p4), .val (.int (0 : Int32)), .unset, .unset, .unset, .unset, .unset, .unset, .unset, .unset, .unset, .unset] [(.int (0 : Int32))])) _
    refine st1 _ ?_
    show Steps p.tables e below (T1.setTop (mkF m 14 #[.val (.int p1), .val (.int p2), .val (.int p3), .val (.int p4), .val (.int (0 : Int32)), .unset, .unset, .unset, .unset, .unset, .unset, .unset, .unset, .unset, .unset] [.null])) _
    refine XS.astore X1.here hx rfl (hb hby at_14) rfl rfl (l' := #[.val (.int p1), .val (.int p2), .val (.int p3), .val (.int p4), .val (.int (0 : Int32)), .val .null, .unset, .unset, .unset, .unset, .unset, .unset, .unset, .unset, .unset]) rfl ?_
    refine XS.iloadN X1.here hx rfl (hb hby at_16) rfl ?_
    refine XS.iconst X1.here hx rfl (hb hby at_17) ?_
    refine XS.iand X1.here hx rfl (hb hby at_18) rfl ?_
    refine XS.ifYes X1.here hx rfl (pc0 := 19) (pc' := 26) rfl (hb hby at_19) rfl ((if0 _ _).trans (teq (hf0_ : (p2 &&& (1 : Int32)) = (0 : Int32))).1) (by decide) (by decide) ?_
    show Steps p.tables e below (T1.setTop (mkF m 26 #[.val (.int p1), .val (.int p2), .val (.int p3), .val (.int p4), .val (.int (0 : Int32)), .val .null, .unset, .unset, .unset, .unset, .unset, .unset, .unset, .unset, .unset] [])) _
    refine XS.iconst X1.here hx rfl (hb hby at_26) ?_
    refine XS.istore X1.here hx rfl (hb hby at_27) rfl (l' := #[.val (.int p1), .val (.int p2), .val (.int p3), .val (.int p4), .val (.int (0 : Int32)), .val .null, .val (.int (0 : Int32)), .unset, .unset, .unset, .unset, .unset, .unset, .unset, .unset]) rfl ?_
    refine XS.iloadN X1.here hx rfl (hb hby at_29) rfl ?_
    refine XS.iconst X1.here hx rfl (hb hby at_30) ?_
    refine XS.iand X1.here hx rfl (hb hby at_31) rfl ?_
    show Steps p.tables e below (T1.setTop (mkF m 32 #[.val (.int p1), .val (.int p2), .val (.int p3), .val (.int p4), .val (.int (0 : Int32)), .val .null, .val (.int (0 : Int32)), .unset, .unset, .unset, .unset, .unset, .unset, .unset, .unset] [(.int (p2 &&& (2 : Int32)))])) _
    refine XS.ifNo X1.here hx rfl (hb hby at_32) rfl ((if0 _ _).trans (feq (hf1_ : ¬ ((p2 &&& (2 : Int32)) = (0 : Int32)))).1) ?_
    refine XS.iconst X1.here hx rfl (hb hby at_35) ?_
    refine XS.goto X1.here hx rfl (pc0 := 36) (pc' := 40) rfl (hb hby at_36) (by decide) (by decide) ?_
    refine XS.istore X1.here hx rfl (hb hby at_40) rfl (l' := #[.val (.int p1), .val (.int p2), .val (.int p3), .val (.int p4), .val (.int (0 : Int32)), .val .null, .val (.int (0 : Int32)), .val (.int (1 : Int32)), .unset, .unset, .unset, .unset, .unset, .unset, .unset]) rfl ?_
    refine XS.iloadN X1.here hx rfl (hb hby at_42) rfl ?_
    show Steps p.tables e below (T1.setTop (mkF m 43 #[.val (.int p1), .val (.int p2), .val (.int p3), .val (.int p4), .val (.int (0 : Int32)), .val .null, .val (.int (0 : Int32)), .val (.int (1 : Int32)), .unset, .unset, .unset, .unset, .unset, .unset, .unset] [(.int p2)])) _
    refine XS.iconst X1.here hx rfl (hb hby at_43) ?_
    refine XS.iand X1.here hx rfl (hb hby at_44) rfl ?_
    refine XS.ifYes X1.here hx rfl (pc0 := 45) (pc' := 52) rfl (hb hby at_45) rfl ((if0 _ _).trans (teq (hf2_ : (p2 &&& (4 : Int32)) = (0 : Int32))).1) (by decide) (by decide) ?_
    refine XS.iconst X1.here hx rfl (hb hby at_52) ?_
    refine XS.istore X1.here hx rfl (hb hby at_53) rfl (l' := #[.val (.int p1), .val (.int p2), .val (.int p3), .val (.int p4), .val (.int (0 : Int32)), .val .null, .val (.int (0 : Int32)), .val (.int (1 : Int32)), .val (.int (0 : Int32)), .unset, .unset, .unset, .unset, .unset, .unset]) rfl ?_
    show Steps p.tables e below (T1.setTop (mkF m 55 #[.val (.int p1), .val (.int p2), .val (.int p3), .val (.int p4), .val (.int (0 : Int32)), .val .null, .val (.int (0 : Int32)), .val (.int (1 : Int32)), .val (.int (0 : Int32)), .unset, .unset, .unset, .unset, .unset, .unset] [])) _
    refine XS.iconst X1.here hx rfl (hb hby at_55) ?_
    show Steps p.tables e below (T1.setTop (mkF m 56 #[.val (.int p1), .val (.int p2), .val (.int p3), .val (.int p4), .val (.int (0 : Int32)), .val .null, .val (.int (0 : Int32)), .val (.int (1 : Int32)), .val (.int (0 : Int32)), .unset, .unset, .unset, .unset, .unset, .unset] [(.int (2 : Int32))])) _
    refine st2 _ ?_
    show Steps p.tables e below (T2.setTop (mkF m 58 #[.val (.int p1), .val (.int p2), .val (.int p3), .val (.int p4), .val (.int (0 : Int32)), .val .null, .val (.int (0 : Int32)), .val (.int (1 : Int32)), .val (.int (0 : Int32)), .unset, .unset, .unset, .unset, .unset, .unset] [(.ref b2)])) _
    refine XS.astore X2.here hx rfl (hb hby at_58) rfl rfl (l' := #[.val (.int p1), .val (.int p2), .val (.int p3), .val (.int p4), .val (.int (0 : Int32)), .val .null, .val (.int (0 : Int32)), .val (.int (1 : Int32)), .val (.int (0 : Int32)), .val (.ref b2), .unset, .unset, .unset, .unset, .unset]) rfl ?_
    refine XS.aload X2.here hx rfl (hb hby at_60) rfl rfl ?_
    refine XS.iconst X2.here hx rfl (hb hby at_62) ?_
    refine XS.iloadN X2.here hx rfl (hb hby at_63) rfl ?_
    refine XS.sipush X2.here hx rfl (hb hby at_64) ?_
    show Steps p.tables e below (T2.setTop (mkF m 67 #[.val (.int p1), .val (.int p2), .val (.int p3), .val (.int p4), .val (.int (0 : Int32)), .val .null, .val (.int (0 : Int32)), .val (.int (1 : Int32)), .val (.int (0 : Int32)), .val (.ref b2), .unset, .unset, .unset, .unset, .unset] [(.int (255 : Int32)), (.int p3), (.int (0 : Int32)), (.ref b2)])) _
    refine XS.iand X2.here hx rfl (hb hby at_67) rfl ?_
    refine XS.i2c X2.here hx rfl (hb hby at_68) rfl ?_
    show Steps p.tables e below (T2.setTop (mkF m 69 #[.val (.int p1), .val (.int p2), .val (.int p3), .val (.int p4), .val (.int (0 : Int32)), .val .null, .val (.int (0 : Int32)), .val (.int (1 : Int32)), .val (.int (0 : Int32)), .val (.ref b2), .unset, .unset, .unset, .unset, .unset] [(.int ((p3 &&& (255 : Int32)).toUInt32.toUInt16.toUInt32.toInt32)), (.int (0 : Int32)), (.ref b2)])) _
    refine st5 _ ?_
    show Steps p.tables e below (T5.setTop (mkF m 70 #[.val (.int p1), .val (.int p2), .val (.int p3), .val (.int p4), .val (.int (0 : Int32)), .val .null, .val (.int (0 : Int32)), .val (.int (1 : Int32)), .val (.int (0 : Int32)), .val (.ref b2), .unset, .unset, .unset, .unset, .unset] [])) _
    refine XS.aload X5.here hx rfl (hb hby at_70) rfl rfl ?_
    refine XS.iconst X5.here hx rfl (hb hby at_72) ?_
    refine XS.iloadN X5.here hx rfl (hb hby at_73) rfl ?_
    refine XS.sipush X5.here hx rfl (hb hby at_74) ?_
    refine XS.iand X5.here hx rfl (hb hby at_77) rfl ?_
    show Steps p.tables e below (T5.setTop (mkF m 78 #[.val (.int p1), .val (.int p2), .val (.int p3), .val (.int p4), .val (.int (0 : Int32)), .val .null, .val (.int (0 : Int32)), .val (.int (1 : Int32)), .val (.int (0 : Int32)), .val (.ref b2), .unset, .unset, .unset, .unset, .unset] [(.int (p4 &&& (255 : Int32))), (.int (1 : Int32)), (.ref b2)])) _
    refine XS.i2c X5.here hx rfl (hb hby at_78) rfl ?_
    show Steps p.tables e below (T5.setTop (mkF m 79 #[.val (.int p1), .val (.int p2), .val (.int p3), .val (.int p4), .val (.int (0 : Int32)), .val .null, .val (.int (0 : Int32)), .val (.int (1 : Int32)), .val (.int (0 : Int32)), .val (.ref b2), .unset, .unset, .unset, .unset, .unset] [(.int ((p4 &&& (255 : Int32)).toUInt32.toUInt16.toUInt32.toInt32)), (.int (1 : Int32)), (.ref b2)])) _
    refine st9 _ ?_
    show Steps p.tables e below (T9.setTop (mkF m 80 #[.val (.int p1), .val (.int p2), .val (.int p3), .val (.int p4), .val (.int (0 : Int32)), .val .null, .val (.int (0 : Int32)), .val (.int (1 : Int32)), .val (.int (0 : Int32)), .val (.ref b2), .unset, .unset, .unset, .unset, .unset] [])) _
    refine XS.iload X9.here hx rfl (hb hby at_80) rfl ?_
    refine XS.ifNo X9.here hx rfl (hb hby at_82) rfl ((if0 _ _).trans (feq (by decide : ¬ ((1 : Int32) = (0 : Int32)))).1) ?_
    show Steps p.tables e below (T9.setTop (mkF m 85 #[.val (.int p1), .val (.int p2), .val (.int p3), .val (.int p4), .val (.int (0 : Int32)), .val .null, .val (.int (0 : Int32)), .val (.int (1 : Int32)), .val (.int (0 : Int32)), .val (.ref b2), .unset, .unset, .unset, .unset, .unset] [])) _
    refine st12 _ ?_
    show Steps p.tables e below (T12.setTop (mkF m 88 #[.val (.int p1), .val (.int p2), .val (.int p3), .val (.int p4), .val (.int (0 : Int32)), .val .null, .val (.int (0 : Int32)), .val (.int (1 : Int32)), .val (.int (0 : Int32)), .val (.ref b2), .unset, .unset, .unset, .unset, .unset] [(.ref b12)])) _
    refine XS.dup X12.here hx rfl (hb hby at_88) rfl rfl ?_
    refine XS.iconst X12.here hx rfl (hb hby at_89) ?_
    show Steps p.tables e below (T12.setTop (mkF m 90 #[.val (.int p1), .val (.int p2), .val (.int p3), .val (.int p4), .val (.int (0 : Int32)), .val .null, .val (.int (0 : Int32)), .val (.int (1 : Int32)), .val (.int (0 : Int32)), .val (.ref b2), .unset, .unset, .unset, .unset, .unset] [(.int (0 : Int32)), (.ref b12), (.ref b12)])) _
    refine st16 _ ?_
    show Steps p.tables e below (T16.setTop (mkF m 92 #[.val (.int p1), .val (.int p2), .val (.int p3), .val (.int p4), .val (.int (0 : Int32)), .val .null, .val (.int (0 : Int32)), .val (.int (1 : Int32)), .val (.int (0 : Int32)), .val (.ref b2), .unset, .unset, .unset, .unset, .unset] [(.ref b16), (.ref b12), (.ref b12)])) _
    refine st25.trans ?_
    show Steps p.tables e below (T25.setTop (mkF m 95 #[.val (.int p1), .val (.int p2), .val (.int p3), .val (.int p4), .val (.int (0 : Int32)), .val .null, .val (.int (0 : Int32)), .val (.int (1 : Int32)), .val (.int (0 : Int32)), .val (.ref b2), .unset, .unset, .unset, .unset, .unset] [(.ref b12)])) _
    refine XS.goto X25.here hx rfl (pc0 := 95) (pc' := 107) rfl (hb hby at_95) (by decide) (by decide) ?_
    refine XS.astore X25.here hx rfl (hb hby at_107) rfl rfl (l' := #[.val (.int p1), .val (.int p2), .val (.int p3), .val (.int p4), .val (.int (0 : Int32)), .val .null, .val (.int (0 : Int32)), .val (.int (1 : Int32)), .val (.int (0 : Int32)), .val (.ref b2), .val (.ref b12), .unset, .unset, .unset, .unset]) rfl ?_
    refine XS.iload X25.here hx rfl (hb hby at_109) rfl ?_
    refine XS.ifYes X25.here hx rfl (pc0 := 111) (pc' := 119) rfl (hb hby at_111) rfl ((if0 _ _).trans (teq (by decide : (0 : Int32) = (0 : Int32))).1) (by decide) (by decide) ?_
    refine XS.aconstNull X25.here hx rfl (hb hby at_119) ?_
    show Steps p.tables e below (T25.setTop (mkF m 120 #[.val (.int p1), .val (.int p2), .val (.int p3), .val (.int p4), .val (.int (0 : Int32)), .val .null, .val (.int (0 : Int32)), .val (.int (1 : Int32)), .val (.int (0 : Int32)), .val (.ref b2), .val (.ref b12), .unset, .unset, .unset, .unset] [.null])) _
    refine XS.astore X25.here hx rfl (hb hby at_120) rfl rfl (l' := #[.val (.int p1), .val (.int p2), .val (.int p3), .val (.int p4), .val (.int (0 : Int32)), .val .null, .val (.int (0 : Int32)), .val (.int (1 : Int32)), .val (.int (0 : Int32)), .val (.ref b2), .val (.ref b12), .val .null, .unset, .unset, .unset]) rfl ?_
    refine XS.iload X25.here hx rfl (hb hby at_122) rfl ?_
    refine XS.ifYes X25.here hx rfl (pc0 := 124) (pc' := 139) rfl (hb hby at_124) rfl ((if0 _ _).trans (teq (by decide : (0 : Int32) = (0 : Int32))).1) (by decide) (by decide) ?_
    refine XS.aconstNull X25.here hx rfl (hb hby at_139) ?_
    refine XS.astore X25.here hx rfl (hb hby at_140) rfl rfl (l' := #[.val (.int p1), .val (.int p2), .val (.int p3), .val (.int p4), .val (.int (0 : Int32)), .val .null, .val (.int (0 : Int32)), .val (.int (1 : Int32)), .val (.int (0 : Int32)), .val (.ref b2), .val (.ref b12), .val .null, .val .null, .unset, .unset]) rfl ?_
    show Steps p.tables e below (T25.setTop (mkF m 142 #[.val (.int p1), .val (.int p2), .val (.int p3), .val (.int p4), .val (.int (0 : Int32)), .val .null, .val (.int (0 : Int32)), .val (.int (1 : Int32)), .val (.int (0 : Int32)), .val (.ref b2), .val (.ref b12), .val .null, .val .null, .unset, .unset] [])) _
    refine st32 _ ?_
    show Steps p.tables e below (T32.setTop (mkF m 145 #[.val (.int p1), .val (.int p2), .val (.int p3), .val (.int p4), .val (.int (0 : Int32)), .val .null, .val (.int (0 : Int32)), .val (.int (1 : Int32)), .val (.int (0 : Int32)), .val (.ref b2), .val (.ref b12), .val .null, .val .null, .unset, .unset] [(.ref b32)])) _
    refine XS.dup X32.here hx rfl (hb hby at_145) rfl rfl ?_
    refine XS.aload X32.here hx rfl (hb hby at_146) rfl rfl ?_
    refine XS.aload X32.here hx rfl (hb hby at_148) rfl rfl ?_
    refine XS.aload X32.here hx rfl (hb hby at_150) rfl rfl ?_
    show Steps p.tables e below (T32.setTop (mkF m 152 #[.val (.int p1), .val (.int p2), .val (.int p3), .val (.int p4), .val (.int (0 : Int32)), .val .null, .val (.int (0 : Int32)), .val (.int (1 : Int32)), .val (.int (0 : Int32)), .val (.ref b2), .val (.ref b12), .val .null, .val .null, .unset, .unset] [.null, .null, .null, (.ref b32), (.ref b32)])) _
    refine st40.trans ?_
    show Steps p.tables e below (T40.setTop (mkF m 155 #[.val (.int p1), .val (.int p2), .val (.int p3), .val (.int p4), .val (.int (0 : Int32)), .val .null, .val (.int (0 : Int32)), .val (.int (1 : Int32)), .val (.int (0 : Int32)), .val (.ref b2), .val (.ref b12), .val .null, .val .null, .unset, .unset] [(.ref b32)])) _
    refine XS.astore X40.here hx rfl (hb hby at_155) rfl rfl (l' := #[.val (.int p1), .val (.int p2), .val (.int p3), .val (.int p4), .val (.int (0 : Int32)), .val .null, .val (.int (0 : Int32)), .val (.int (1 : Int32)), .val (.int (0 : Int32)), .val (.ref b2), .val (.ref b12), .val .null, .val .null, .val (.ref b32), .unset]) rfl ?_
    refine XS.iload X40.here hx rfl (hb hby at_157) rfl ?_
    refine XS.ifYes X40.here hx rfl (pc0 := 159) (pc' := 171) rfl (hb hby at_159) rfl ((if0 _ _).trans (teq (by decide : (0 : Int32) = (0 : Int32))).1) (by decide) (by decide) ?_
    refine XS.iconst X40.here hx rfl (hb hby at_171) ?_
    refine XS.istore X40.here hx rfl (hb hby at_172) rfl (l' := #[.val (.int p1), .val (.int p2), .val (.int p3), .val (.int p4), .val (.int (0 : Int32)), .val .null, .val (.int (0 : Int32)), .val (.int (1 : Int32)), .val (.int (0 : Int32)), .val (.ref b2), .val (.ref b12), .val .null, .val .null, .val (.ref b32), .val (.int (0 : Int32))]) rfl ?_
    show Steps p.tables e below (T40.setTop (mkF m 174 #[.val (.int p1), .val (.int p2), .val (.int p3), .val (.int p4), .val (.int (0 : Int32)), .val .null, .val (.int (0 : Int32)), .val (.int (1 : Int32)), .val (.int (0 : Int32)), .val (.ref b2), .val (.ref b12), .val .null, .val .null, .val (.ref b32), .val (.int (0 : Int32))] [])) _
    refine XS.aload X40.here hx rfl (hb hby at_174) rfl rfl ?_
    show Steps p.tables e below (T40.setTop (mkF m 176 #[.val (.int p1), .val (.int p2), .val (.int p3), .val (.int p4), .val (.int (0 : Int32)), .val .null, .val (.int (0 : Int32)), .val (.int (1 : Int32)), .val (.int (0 : Int32)), .val (.ref b2), .val (.ref b12), .val .null, .val .null, .val (.ref b32), .val (.int (0 : Int32))] [(.ref b32)])) _
    refine st49.trans ?_
    show Steps p.tables e below (T49.setTop (mkF m 179 #[.val (.int p1), .val (.int p2), .val (.int p3), .val (.int p4), .val (.int (0 : Int32)), .val .null, .val (.int (0 : Int32)), .val (.int (1 : Int32)), .val (.int (0 : Int32)), .val (.ref b2), .val (.ref b12), .val .null, .val .null, .val (.ref b32), .val (.int (0 : Int32))] [(.int (0 : Int32))])) _
    refine XS.iload X49.here hx rfl (hb hby at_179) rfl ?_
    refine XS.icmpNo X49.here hx rfl (hb hby at_181) rfl (teq (by decide : (0 : Int32) = (0 : Int32))).2 ?_
    refine XS.iconst X49.here hx rfl (hb hby at_184) ?_
    refine XS.goto X49.here hx rfl (pc0 := 185) (pc' := 189) rfl (hb hby at_185) (by decide) (by decide) ?_
    show Steps p.tables e below (T49.setTop (mkF m 189 #[.val (.int p1), .val (.int p2), .val (.int p3), .val (.int p4), .val (.int (0 : Int32)), .val .null, .val (.int (0 : Int32)), .val (.int (1 : Int32)), .val (.int (0 : Int32)), .val (.ref b2), .val (.ref b12), .val .null, .val .null, .val (.ref b32), .val (.int (0 : Int32))] [(.int (1 : Int32))])) _
    exact retN X49 hx (t := .boolean) Bd.returns (by simp) (hb hby at_189) hr
  · show own_Qk (some (.int (1 : Int32))) [] h0 n0 _ T49.heap _
    rw [e49]
    exact ⟨rfl, N49, K40⟩
  · show CHr Z own_EL s.vm s.heap T49.vm T49.heap
    rw [hh, e49]
    exact R40.trans (CHv.at (s := s) (vm0 := T25.vm) X49 hZ25 hEL C40)
set_option maxRecDepth 65536 in
set_option maxHeartbeats 40000000 in
theorem r_law5 (l : Launch) (Z : State) (a0 : Array Value) (hw : ∀ d ∈ tables_1, d.before a0 Z = true) (ws : List Jvm.Cond) (s_L1 s_L4 s_L3 s_L5 s_L2 : Addr) (cs1 : Int32) (h0 : Heap) (n0 : Nat) (O0 : Old Z n0 h0) (G : own_Ctx Z Z.heap s_L1 s_L4 s_L3 s_L5 s_L2 cs1) (hEL : EW Z a0 own_EL) (wS : ∀ a ∈ Bundle.stringAtoms, a.before a0 Z = true) (p1 p2 p3 p4 : Int32) (kk : Int32) (hk : (p1 &&& (2147483647 : Int32)) % (6 : Int32) = kk) (hk1 : kk = (1 : Int32) ∨ kk = (2 : Int32) ∨ kk = (3 : Int32) ∨ kk = (4 : Int32) ∨ kk = (5 : Int32)) (hf0_ : (p2 &&& (1 : Int32)) = (0 : Int32)) (hf1_ : ¬ ((p2 &&& (2 : Int32)) = (0 : Int32))) (hf2_ : (p2 &&& (4 : Int32)) = (0 : Int32)) :
    MetFree l x (head1 (Jvm.Cond.code x code maxLocals ret :: ws) room_1) (fun a U => a = #[(.int p1), (.int p2), (.int p3), (.int p4)] ∧ Z.Warmed39 U.vm ∧ U.heap = h0 ∧ CHv Z own_EL U.vm h0) (fun _ _ _ _ _ => True) (fun _ U o U' => ∃ v L, o = .returned v ∧ own_Qk (some (.int (1 : Int32))) [] h0 n0 v U'.heap L ∧ CHr Z own_EL U.vm U.heap U'.vm U'.heap ∧ ReturnedEndW U o U' L 24 1152) := by
  have G0 := G
  obtain ⟨S_L1, E_L1, S_L4, E_L4, S_L3, E_L3, S_L5, E_L5, S_L2, E_L2, S_CS, N_CS⟩ := G
  refine MetFree.of_bodySF (plainFor_of_name pn_0) hisR ?_
  intro p e s m args below meth c s₁ Bd hml0 hP hK
  obtain ⟨rfl, hZ, hh, hC⟩ := hP
  have hx := Bd.exec
  have hby := Bd.bytes
  have hml : c.maxLocals = 15 := hml0
  have hown : s.vm.findClass "com/example/pending_actions/pendingactions/policy/AssessmentIsAutoApprovedPinLaw" = some m.cls := findClass_of_methodNamed Bd.named
  have hnm := (name_of_methodNamed Bd.named Bd.method).1
  have X0 : Stand p l e room_1 (s.setVm s.vm) m #[(.int p1), (.int p2), (.int p3), (.int p4)] below meth c s₁ [] 0 0 := Stand.of_body Bd
  have e0 : s₁.heap = h0 := by rw [← hh, Bd.state]; rfl
  have N0 := Fr.nil n0
  have hS0 : s.Since s.vm h0.size := State.WarmedH.since (State.WarmedH.refl s) _
  have hk0 : h0.size ≤ h0.size := Nat.le_refl _
  have pre0 : ∀ t, Steps p.tables e below (s₁.setTop (mkF m 0 #[.val (.int p1), .val (.int p2), .val (.int p3), .val (.int p4), .unset, .unset, .unset, .unset, .unset, .unset, .unset, .unset, .unset, .unset, .unset] [])) t → Steps p.tables e below (s₁.setTop (entryFrame m #[(.int p1), (.int p2), (.int p3), (.int p4)] maxLocals)) t := fun t k => castTop (ef_0_15 m p1 p2 p3 p4) k
  obtain ⟨_, _, ⟨T1, L1, k1, n1⟩, -, X1, ⟨Lc1, hQ1, l1, y1, z1⟩, st1⟩ := Jvm.LawKit.callS X0 hx (y := (⟨"com/example/pending_actions/pendingactions/policy/AssessmentIsAutoApprovedPinLaw", "pick", "(I)Lcom/example/pending_actions/pendingactions/policy/RiskTier;"⟩ : MethodName)) hown (mvT hZ (hw _ (List.mem_of_getElem? (i := 1) rfl))) (mvT hZ (hw _ (List.mem_of_getElem? (i := 2) rfl))) (mvT hZ (hw _ (List.mem_of_getElem? (i := 3) rfl))) (mvT hZ (hw _ (List.mem_of_getElem? (i := 4) rfl))) (by decide) (backOf (W := 0) (r_tierN l Z a0 hw [] s_L1 s_L4 s_L3 s_L5 s_L2 cs1 h0 n0 O0 G0 kk hk1) hZ (hw _ (List.mem_of_getElem? (i := 4) rfl)) (hw _ (List.mem_of_getElem? (i := 3) rfl)) (by decide) (by decide)) (g := (mkF m 11 #[.val (.int p1), .val (.int p2), .val (.int p3), .val (.int p4), .val (.int kk), .unset, .unset, .unset, .unset, .unset, .unset, .unset, .unset, .unset, .unset] [(.int kk)])) rfl (by rw [hml]; rfl) (argsL := [(.int kk)]) (rest := []) (lenOf pd_4 rfl) rfl (by show 2 * 0 + _ ≤ _; exact Nat.le_of_eq rfl) (hb hby at_11) (fun _ _ => ⟨rfl, e0, (by decide : 0 + 0 ≤ _), (by decide : 0 + 0 ≤ _)⟩)
  dsimp only [Pt.U, Pt.locs, Pt.cells, Pt.slots] at X1 l1 y1 z1 st1 hQ1
  subst l1 y1 z1
  obtain ⟨ta1, rfl, N1q, e1⟩ := hQ1
  have N1 := Fr.app N0 N1q
  obtain ⟨T2, h2, k2, X2, e2, E2, A2, st2⟩ := newP X1 hx hZ (hw _ (List.mem_of_getElem? (i := 5) rfl)) e1 (g := (mkF m 56 #[.val (.int p1), .val (.int p2), .val (.int p3), .val (.int p4), .val (.int kk), .val (.ref ta1), .val (.int (0 : Int32)), .val (.int (1 : Int32)), .val (.int (0 : Int32)), .unset, .unset, .unset, .unset, .unset, .unset] [(.int (2 : Int32))])) rfl (hb hby at_56) rfl (by decide) (cap := 2) (by decide) (by decide) (by decide) (by decide)
  obtain ⟨b2, g2⟩ : ∃ z, z = h0.size := ⟨_, rfl⟩
  have ne_s_L1_b2 : s_L1 ≠ b2 := Nat.ne_of_lt (Nat.lt_of_lt_of_le (E_L1.ext O0.2).lt (Nat.le_of_eq g2.symm))
  have ne_s_L4_b2 : s_L4 ≠ b2 := Nat.ne_of_lt (Nat.lt_of_lt_of_le (E_L4.ext O0.2).lt (Nat.le_of_eq g2.symm))
  have ne_s_L3_b2 : s_L3 ≠ b2 := Nat.ne_of_lt (Nat.lt_of_lt_of_le (E_L3.ext O0.2).lt (Nat.le_of_eq g2.symm))
  have ne_s_L5_b2 : s_L5 ≠ b2 := Nat.ne_of_lt (Nat.lt_of_lt_of_le (E_L5.ext O0.2).lt (Nat.le_of_eq g2.symm))
  have ne_s_L2_b2 : s_L2 ≠ b2 := Nat.ne_of_lt (Nat.lt_of_lt_of_le (E_L2.ext O0.2).lt (Nat.le_of_eq g2.symm))
  have g_b2 : n0 ≤ b2 := Nat.le_trans (O0.1 ▸ O0.2.1) (Nat.le_of_eq g2.symm)
  have sz_b2 : h0.size ≤ b2 := Nat.le_trans (Keep.refl h0 []).1 (Nat.le_of_eq g2.symm)
  have sn2 : Safe Z own_EL s.vm h0 b2 := Safe.new (Nat.le_of_eq g2.symm)
  rw [← g2] at A2 st2
  have O2 := O0.ext E2
  have K2 : Keep h0 h2 [] := (Keep.refl h0 []).ext E2
  have sf3 := Safe.ext E2 hC sn2
  have C2 : CHv Z own_EL s.vm h2 := hC.ext E2
  have R2 : CHr Z own_EL s.vm h0 s.vm h2 := (CHr.refl hC).trans (CHr.ext E2 hC)
  have hk2 := Nat.le_trans hk0 E2.1
  have V2 : Arv Z h2 b2 k2 .char (2 : Int32) [(.int (0 : Int32)), (.int (0 : Int32))] (.int (0 : Int32)) := (Arv.new A2 (by decide)).pad (pad_rep [] (.int (0 : Int32)) 2)
  have vc4 := V2
  obtain ⟨cl4, Ar4, qk4, S4, Nn4, Hs4, Gf4⟩ := vc4
  have hin4 : ¬ ((0 : Int32) < 0 ∨ cl4.slots.size ≤ ((0 : Int32)).toNatClampNeg) := inb_of S4 ⟨by decide, by decide⟩
  obtain ⟨T5, h5, X5, e5, W5, st5⟩ := stC X2 hx hZ e2 Ar4 (j := (0 : Int32)) hin4 (g := (mkF m 69 #[.val (.int p1), .val (.int p2), .val (.int p3), .val (.int p4), .val (.int kk), .val (.ref ta1), .val (.int (0 : Int32)), .val (.int (1 : Int32)), .val (.int (0 : Int32)), .val (.ref b2), .unset, .unset, .unset, .unset, .unset] [(.int ((p3 &&& (255 : Int32)).toUInt32.toUInt16.toUInt32.toInt32)), (.int (0 : Int32)), (.ref b2)])) rfl rfl (hb hby at_69)
  have O5 := O2.wr W5 g_b2
  have K5 : Keep h0 h5 [] := K2.wr W5 (Or.inr sz_b2)
  have N5 := Fr.snoc X5 N1 g_b2
  have sf6 := Safe.wr W5 sf3 C2 sf3
  have C5 : CHv Z own_EL s.vm h5 := C2.wr W5 sf3
  have R5 : CHr Z own_EL s.vm h0 s.vm h5 := R2.trans (CHr.wr W5 sf3 C2)
  have hk5 := Nat.le_trans hk2 (Keep.of_wr W5).1
  have f7 : Arv Z h5 b2 k2 .char (2 : Int32) [(.int (nar .char ((p3 &&& (255 : Int32)).toUInt32.toUInt16.toUInt32.toInt32))), (.int (0 : Int32))] (.int (0 : Int32)) := Arv.set Ar4 qk4 S4 Nn4 Hs4 Gf4 (fits_nar_char _) W5 0 rfl (Nat.le_of_ble_eq_true rfl)
  have vc8 := f7
  obtain ⟨cl8, Ar8, qk8, S8, Nn8, Hs8, Gf8⟩ := vc8
  have hin8 : ¬ ((1 : Int32) < 0 ∨ cl8.slots.size ≤ ((1 : Int32)).toNatClampNeg) := inb_of S8 ⟨by decide, by decide⟩
  obtain ⟨T9, h9, X9, e9, W9, st9⟩ := stC X5 hx hZ e5 Ar8 (j := (1 : Int32)) hin8 (g := (mkF m 79 #[.val (.int p1), .val (.int p2), .val (.int p3), .val (.int p4), .val (.int kk), .val (.ref ta1), .val (.int (0 : Int32)), .val (.int (1 : Int32)), .val (.int (0 : Int32)), .val (.ref b2), .unset, .unset, .unset, .unset, .unset] [(.int ((p4 &&& (255 : Int32)).toUInt32.toUInt16.toUInt32.toInt32)), (.int (1 : Int32)), (.ref b2)])) rfl rfl (hb hby at_79)
  have O9 := O5.wr W9 g_b2
  have K9 : Keep h0 h9 [] := K5.wr W9 (Or.inr sz_b2)
  have N9 := Fr.snoc X9 N5 g_b2
  have sf10 := Safe.wr W9 sf6 C5 sf6
  have C9 : CHv Z own_EL s.vm h9 := C5.wr W9 sf6
  have R9 : CHr Z own_EL s.vm h0 s.vm h9 := R5.trans (CHr.wr W9 sf6 C5)
  have hk9 := Nat.le_trans hk5 (Keep.of_wr W9).1
  have f11 : Arv Z h9 b2 k2 .char (2 : Int32) [(.int (nar .char ((p3 &&& (255 : Int32)).toUInt32.toUInt16.toUInt32.toInt32))), (.int (nar .char ((p4 &&& (255 : Int32)).toUInt32.toUInt16.toUInt32.toInt32)))] (.int (0 : Int32)) := Arv.set Ar8 qk8 S8 Nn8 Hs8 Gf8 (fits_nar_char _) W9 1 rfl (Nat.le_of_ble_eq_true rfl)
  obtain ⟨T12, h12, X12, e12, E12, A12, D12, -, st12⟩ := newO X9 hx hZ hown (hw _ (List.mem_of_getElem? (i := 6) rfl)) (hw _ (List.mem_of_getElem? (i := 7) rfl)) (hw _ (List.mem_of_getElem? (i := 8) rfl)) e9 (g := (mkF m 85 #[.val (.int p1), .val (.int p2), .val (.int p3), .val (.int p4), .val (.int kk), .val (.ref ta1), .val (.int (0 : Int32)), .val (.int (1 : Int32)), .val (.int (0 : Int32)), .val (.ref b2), .unset, .unset, .unset, .unset, .unset] [])) rfl (hb hby at_85) (by decide) (by decide)
  obtain ⟨b12, g12⟩ : ∃ z, z = h9.size := ⟨_, rfl⟩
  have ne_b2_b12 : b2 ≠ b12 := Nat.ne_of_lt (Nat.lt_of_lt_of_le f11.lt (Nat.le_of_eq g12.symm))
  have ne_s_L1_b12 : s_L1 ≠ b12 := Nat.ne_of_lt (Nat.lt_of_lt_of_le (E_L1.ext O9.2).lt (Nat.le_of_eq g12.symm))
  have ne_s_L4_b12 : s_L4 ≠ b12 := Nat.ne_of_lt (Nat.lt_of_lt_of_le (E_L4.ext O9.2).lt (Nat.le_of_eq g12.symm))
  have ne_s_L3_b12 : s_L3 ≠ b12 := Nat.ne_of_lt (Nat.lt_of_lt_of_le (E_L3.ext O9.2).lt (Nat.le_of_eq g12.symm))
  have ne_s_L5_b12 : s_L5 ≠ b12 := Nat.ne_of_lt (Nat.lt_of_lt_of_le (E_L5.ext O9.2).lt (Nat.le_of_eq g12.symm))
  have ne_s_L2_b12 : s_L2 ≠ b12 := Nat.ne_of_lt (Nat.lt_of_lt_of_le (E_L2.ext O9.2).lt (Nat.le_of_eq g12.symm))
  have g_b12 : n0 ≤ b12 := Nat.le_trans (O9.1 ▸ O9.2.1) (Nat.le_of_eq g12.symm)
  have sz_b12 : h0.size ≤ b12 := Nat.le_trans K9.1 (Nat.le_of_eq g12.symm)
  have sn12 : Safe Z own_EL s.vm h9 b12 := Safe.new (Nat.le_of_eq g12.symm)
  rw [← g12] at A12 D12 st12
  have f13 := f11.ext E12
  have O12 := O9.ext E12
  have K12 : Keep h0 h12 [] := K9.ext E12
  have sf14 := Safe.ext E12 C9 sf10
  have sf15 := Safe.ext E12 C9 sn12
  have C12 : CHv Z own_EL s.vm h12 := C9.ext E12
  have R12 : CHr Z own_EL s.vm h0 s.vm h12 := R9.trans (CHr.ext E12 C9)
  have hk12 := Nat.le_trans hk9 E12.1
  have F12_21 : Fld Z h12 b12 "java/lang/String" "value" "[B" .null := D12 (Or.inr (hw _ (List.mem_of_getElem? (i := 21) rfl))) (ty := (.array .byte)) (by decide)
  have F12_22 : Fld Z h12 b12 "java/lang/String" "coder" "B" (.int (0 : Int32)) := D12 (Or.inr (hw _ (List.mem_of_getElem? (i := 22) rfl))) (ty := .byte) (by decide)
  obtain ⟨T16, h16, k16, X16, e16, E16, A16, st16⟩ := newP X12 hx hZ (hw _ (List.mem_of_getElem? (i := 5) rfl)) e12 (g := (mkF m 90 #[.val (.int p1), .val (.int p2), .val (.int p3), .val (.int p4), .val (.int kk), .val (.ref ta1), .val (.int (0 : Int32)), .val (.int (1 : Int32)), .val (.int (0 : Int32)), .val (.ref b2), .unset, .unset, .unset, .unset, .unset] [(.int (0 : Int32)), (.ref b12), (.ref b12)])) rfl (hb hby at_90) rfl (by decide) (cap := 0) (by decide) (by decide) (by decide) (by decide)
  obtain ⟨b16, g16⟩ : ∃ z, z = h12.size := ⟨_, rfl⟩
  have ne_b2_b16 : b2 ≠ b16 := Nat.ne_of_lt (Nat.lt_of_lt_of_le f13.lt (Nat.le_of_eq g16.symm))
  have ne_b12_b16 : b12 ≠ b16 := Nat.ne_of_lt (Nat.lt_of_lt_of_le A12.lt (Nat.le_of_eq g16.symm))
  have ne_s_L1_b16 : s_L1 ≠ b16 := Nat.ne_of_lt (Nat.lt_of_lt_of_le (E_L1.ext O12.2).lt (Nat.le_of_eq g16.symm))
  have ne_s_L4_b16 : s_L4 ≠ b16 := Nat.ne_of_lt (Nat.lt_of_lt_of_le (E_L4.ext O12.2).lt (Nat.le_of_eq g16.symm))
  have ne_s_L3_b16 : s_L3 ≠ b16 := Nat.ne_of_lt (Nat.lt_of_lt_of_le (E_L3.ext O12.2).lt (Nat.le_of_eq g16.symm))
  have ne_s_L5_b16 : s_L5 ≠ b16 := Nat.ne_of_lt (Nat.lt_of_lt_of_le (E_L5.ext O12.2).lt (Nat.le_of_eq g16.symm))
  have ne_s_L2_b16 : s_L2 ≠ b16 := Nat.ne_of_lt (Nat.lt_of_lt_of_le (E_L2.ext O12.2).lt (Nat.le_of_eq g16.symm))
  have g_b16 : n0 ≤ b16 := Nat.le_trans (O12.1 ▸ O12.2.1) (Nat.le_of_eq g16.symm)
  have sz_b16 : h0.size ≤ b16 := Nat.le_trans K12.1 (Nat.le_of_eq g16.symm)
  have sn16 : Safe Z own_EL s.vm h12 b16 := Safe.new (Nat.le_of_eq g16.symm)
  rw [← g16] at A16 st16
  have f17 := f13.ext E16
  have f18 := A12.ext E16
  have f19 := F12_21.ext E16
  have f20 := F12_22.ext E16
  have O16 := O12.ext E16
  have K16 : Keep h0 h16 [] := K12.ext E16
  have sf21 := Safe.ext E16 C12 sf14
  have sf22 := Safe.ext E16 C12 sf15
  have sf23 := Safe.ext E16 C12 sn16
  have C16 : CHv Z own_EL s.vm h16 := C12.ext E16
  have R16 : CHr Z own_EL s.vm h0 s.vm h16 := R12.trans (CHr.ext E16 C12)
  have hk16 := Nat.le_trans hk12 E16.1
  have V16 : Arv Z h16 b16 k16 .char (0 : Int32) [] (.int (0 : Int32)) := Arv.new A16 (by decide)
  obtain ⟨LL24, X24, N24⟩ : ∃ LL, Stand p l e room_1 (s.setVm s.vm) m #[(.int p1), (.int p2), (.int p3), (.int p4)] below meth c T16 LL 3 6 ∧ Fr n0 LL := ⟨_, X16, N9⟩
  obtain ⟨_, _, ⟨T25, L25, k25, n25⟩, -, X25, S25a, z25a, ⟨Lc25, hQ25, l25, y25, z25, R25q⟩, st25⟩ := X24.specialBackS hx (y := (⟨"java/lang/String", "<init>", "([C)V"⟩ : MethodName)) rfl hown (mvT hZ (hw _ (List.mem_of_getElem? (i := 9) rfl))) (mvT hZ (hw _ (List.mem_of_getElem? (i := 10) rfl))) (mvT hZ (hw _ (List.mem_of_getElem? (i := 11) rfl))) (by decide) (backOfSH (s := s) (vm0 := s.vm) (EL := own_EL) (W := 1) (r_s0 l Z a0 hw [] s_L1 s_L4 s_L3 s_L5 s_L2 cs1 h16 n0 O16 G0 hEL wS b12 b16 k16 f18 g_b12 f20 f19 V16 (Ne.symm ne_b12_b16)) hZ (hw _ (List.mem_of_getElem? (i := 11) rfl)) (hw _ (List.mem_of_getElem? (i := 8) rfl)) (by decide) (by decide) hEL C16) (g := (mkF m 92 #[.val (.int p1), .val (.int p2), .val (.int p3), .val (.int p4), .val (.int kk), .val (.ref ta1), .val (.int (0 : Int32)), .val (.int (1 : Int32)), .val (.int (0 : Int32)), .val (.ref b2), .unset, .unset, .unset, .unset, .unset] [(.ref b16), (.ref b12), (.ref b12)])) rfl (by rw [hml]; rfl) (Steps.refl _) (a := b12) (argsL := [(.ref b16)]) (rest := [(.ref b12)]) (lenOf pd_5 rfl) rfl (by show 2 * 0 + _ ≤ _; exact Nat.le_of_eq rfl) (hb hby at_92) (fun _ _ => ⟨rfl, e16, (by decide : 3 + 2 ≤ _), (by decide : 6 + 4 ≤ _)⟩)
  dsimp only [Pt.U, Pt.locs, Pt.cells, Pt.slots] at X25 S25a z25a l25 y25 z25 st25 hQ25 R25q
  subst l25 y25 z25
  have X25 : Stand p l e room_1 (s.setVm T25.vm) m #[(.int p1), (.int p2), (.int p3), (.int p4)] below meth c T25 _ _ _ := X25
  have S25f : s.Since T25.vm T25.heap.size := foldS (T := T16) hS0 (by rw [e16]; exact hk16) S25a z25a
  have hZ25 : Z.Warmed39 T25.vm := State.Warmed39.trans (t := s.setVm s.vm) hZ S25a.1
  have hown25 : (s.setVm T25.vm).vm.findClass "com/example/pending_actions/pendingactions/policy/AssessmentIsAutoApprovedPinLaw" = some m.cls := by rw [show (s.setVm T25.vm).vm = T25.vm from rfl, S25a.1.alike.findClass]; exact hown
  obtain ⟨rfl, N25q, Kq25⟩ := hQ25
  have N25 := Fr.app N24 N25q
  have f26 := f17.keep Kq25 (fun q => (List.mem_cons.mp q).elim ne_b2_b12 (fun q => nomatch q))
  have f27 := f18.keep Kq25
  have f28 := V16.keep Kq25 (fun q => (List.mem_cons.mp q).elim (Ne.symm ne_b12_b16) (fun q => nomatch q))
  have O25 := O16.keep Kq25 (allS g_b12 all0)
  have K25 : Keep h0 T25.heap [] := K16.trans Kq25 (allS (Or.inr sz_b12) all0)
  have sf29 := R25q.safe f17.lt sf21
  have sf30 := R25q.safe f18.lt sf22
  have sf31 := R25q.safe V16.lt sf23
  have R25 : CHr Z own_EL s.vm h0 T25.vm T25.heap := R16.trans R25q
  have C25 := R25q.1
  obtain ⟨T32, h32, X32, e32, E32, A32, D32, -, st32⟩ := newO X25 hx hZ25 hown25 (hw _ (List.mem_of_getElem? (i := 27) rfl)) (hw _ (List.mem_of_getElem? (i := 28) rfl)) (hw _ (List.mem_of_getElem? (i := 29) rfl)) rfl (g := (mkF m 142 #[.val (.int p1), .val (.int p2), .val (.int p3), .val (.int p4), .val (.int kk), .val (.ref ta1), .val (.int (0 : Int32)), .val (.int (1 : Int32)), .val (.int (0 : Int32)), .val (.ref b2), .val (.ref b12), .val .null, .val .null, .unset, .unset] [])) rfl (hb hby at_142) (by decide) (by decide)
  obtain ⟨b32, g32⟩ : ∃ z, z = T25.heap.size := ⟨_, rfl⟩
  have ne_b2_b32 : b2 ≠ b32 := Nat.ne_of_lt (Nat.lt_of_lt_of_le f26.lt (Nat.le_of_eq g32.symm))
  have ne_b12_b32 : b12 ≠ b32 := Nat.ne_of_lt (Nat.lt_of_lt_of_le f27.lt (Nat.le_of_eq g32.symm))
  have ne_b16_b32 : b16 ≠ b32 := Nat.ne_of_lt (Nat.lt_of_lt_of_le f28.lt (Nat.le_of_eq g32.symm))
  have ne_s_L1_b32 : s_L1 ≠ b32 := Nat.ne_of_lt (Nat.lt_of_lt_of_le (E_L1.ext O25.2).lt (Nat.le_of_eq g32.symm))
  have ne_s_L4_b32 : s_L4 ≠ b32 := Nat.ne_of_lt (Nat.lt_of_lt_of_le (E_L4.ext O25.2).lt (Nat.le_of_eq g32.symm))
  have ne_s_L3_b32 : s_L3 ≠ b32 := Nat.ne_of_lt (Nat.lt_of_lt_of_le (E_L3.ext O25.2).lt (Nat.le_of_eq g32.symm))
  have ne_s_L5_b32 : s_L5 ≠ b32 := Nat.ne_of_lt (Nat.lt_of_lt_of_le (E_L5.ext O25.2).lt (Nat.le_of_eq g32.symm))
  have ne_s_L2_b32 : s_L2 ≠ b32 := Nat.ne_of_lt (Nat.lt_of_lt_of_le (E_L2.ext O25.2).lt (Nat.le_of_eq g32.symm))
  have g_b32 : n0 ≤ b32 := Nat.le_trans (O25.1 ▸ O25.2.1) (Nat.le_of_eq g32.symm)
  have sz_b32 : h0.size ≤ b32 := Nat.le_trans K25.1 (Nat.le_of_eq g32.symm)
  have sn32 : Safe Z own_EL T25.vm T25.heap b32 := Safe.new (Nat.le_of_eq g32.symm)
  rw [← g32] at A32 D32 st32
  have f33 := f26.ext E32
  have f34 := f27.ext E32
  have f35 := f28.ext E32
  have O32 := O25.ext E32
  have K32 : Keep h0 h32 [] := K25.ext E32
  have sf36 := Safe.ext E32 C25 sf29
  have sf37 := Safe.ext E32 C25 sf30
  have sf38 := Safe.ext E32 C25 sf31
  have sf39 := Safe.ext E32 C25 sn32
  have C32 : CHv Z own_EL T25.vm h32 := C25.ext E32
  have R32 : CHr Z own_EL s.vm h0 T25.vm h32 := R25.trans (CHr.ext E32 C25)
  have hk32 := Nat.le_trans (Nat.le_refl _) E32.1
  have F32_35 : Fld Z h32 b32 "com/example/pending_actions/pendingactions/policy/Assessment" "tier" "Lcom/example/pending_actions/pendingactions/policy/RiskTier;" .null := D32 (Or.inr (hw _ (List.mem_of_getElem? (i := 35) rfl))) (ty := (.object "com/example/pending_actions/pendingactions/policy/RiskTier")) (by decide)
  have F32_37 : Fld Z h32 b32 "com/example/pending_actions/pendingactions/policy/Assessment" "decider" "Ljava/lang/String;" .null := D32 (Or.inr (hw _ (List.mem_of_getElem? (i := 37) rfl))) (ty := (.object "java/lang/String")) (by decide)
  have F32_39 : Fld Z h32 b32 "com/example/pending_actions/pendingactions/policy/Assessment" "policyVersion" "Ljava/lang/String;" .null := D32 (Or.inr (hw _ (List.mem_of_getElem? (i := 39) rfl))) (ty := (.object "java/lang/String")) (by decide)
  obtain ⟨_, _, ⟨T40, L40, k40, n40⟩, -, X40, ⟨Lc40, hQ40, l40, y40, z40⟩, st40⟩ := X32.specialBack hx (y := (⟨"com/example/pending_actions/pendingactions/policy/Assessment", "<init>", "(Lcom/example/pending_actions/pendingactions/policy/RiskTier;Ljava/lang/String;Ljava/lang/String;)V"⟩ : MethodName)) rfl hown25 (mvT hZ25 (hw _ (List.mem_of_getElem? (i := 30) rfl))) (mvT hZ25 (hw _ (List.mem_of_getElem? (i := 31) rfl))) (mvT hZ25 (hw _ (List.mem_of_getElem? (i := 32) rfl))) (by decide) (backOf (W := 1) (r_ai1 l Z a0 hw [] s_L1 s_L4 s_L3 s_L5 s_L2 cs1 h32 n0 O32 G0 b32 ta1 A32 g_b32 F32_35 F32_37 F32_39) hZ25 (hw _ (List.mem_of_getElem? (i := 32) rfl)) (hw _ (List.mem_of_getElem? (i := 29) rfl)) (by decide) (by decide)) (g := (mkF m 152 #[.val (.int p1), .val (.int p2), .val (.int p3), .val (.int p4), .val (.int kk), .val (.ref ta1), .val (.int (0 : Int32)), .val (.int (1 : Int32)), .val (.int (0 : Int32)), .val (.ref b2), .val (.ref b12), .val .null, .val .null, .unset, .unset] [.null, .null, (.ref ta1), (.ref b32), (.ref b32)])) rfl (by rw [hml]; rfl) (Steps.refl _) (a := b32) (argsL := [(.ref ta1), .null, .null]) (rest := [(.ref b32)]) (lenOf pd_6 rfl) rfl (by show 2 * 0 + _ ≤ _; exact Nat.le_of_eq rfl) (hb hby at_152) (fun _ _ => ⟨rfl, e32, (by decide : 6 + 0 ≤ _), (by decide : 13 + 0 ≤ _)⟩)
  dsimp only [Pt.U, Pt.locs, Pt.cells, Pt.slots] at X40 l40 y40 z40 st40 hQ40
  subst l40 y40 z40
  obtain ⟨rfl, N40q, Kq40, Ft40, Fd40⟩ := hQ40
  have N40 := Fr.app N25 N40q
  have f41 := f33.keep Kq40 (fun q => (List.mem_cons.mp q).elim ne_b2_b32 (fun q => nomatch q))
  have f42 := f34.keep Kq40
  have f43 := f35.keep Kq40 (fun q => (List.mem_cons.mp q).elim ne_b16_b32 (fun q => nomatch q))
  have f44 := A32.keep Kq40
  have O40 := O32.keep Kq40 (allS g_b32 all0)
  have K40 : Keep h0 T40.heap [] := K32.trans Kq40 (allS (Or.inr sz_b32) all0)
  have sf45 := Safe.keep Kq40 (sfS sf39 sf0) C32 sf36
  have sf46 := Safe.keep Kq40 (sfS sf39 sf0) C32 sf37
  have sf47 := Safe.keep Kq40 (sfS sf39 sf0) C32 sf38
  have sf48 := Safe.keep Kq40 (sfS sf39 sf0) C32 sf39
  have C40 : CHv Z own_EL T25.vm T40.heap := C32.keep Kq40 (sfS sf39 sf0)
  have R40 : CHr Z own_EL s.vm h0 T25.vm T40.heap := R32.trans (CHr.keep Kq40 (sfS sf39 sf0) C32)
  have hk40 := Nat.le_trans hk32 Kq40.1
  obtain ⟨cq49, kq49, q49a, q49b, q49c⟩ := isOf hZ25 rfl f44
  obtain ⟨_, _, ⟨T49, L49, k49, n49⟩, -, X49, ⟨Lc49, hQ49, l49, y49, z49⟩, st49⟩ := X40.virtualBack hx (y := (⟨"com/example/pending_actions/pendingactions/policy/Assessment", "isAutoApproved", "()Z"⟩ : MethodName)) (z := (⟨"com/example/pending_actions/pendingactions/policy/Assessment", "isAutoApproved", "()Z"⟩ : MethodName)) hown25 (mvT hZ25 (hw _ (List.mem_of_getElem? (i := 40) rfl))) (mvT hZ25 (hw _ (List.mem_of_getElem? (i := 41) rfl))) (notFace_of_selects (args := #[]) (mvT hZ25 (hw _ (List.mem_of_getElem? (i := 43) rfl)))) (mvT hZ25 (hw _ (List.mem_of_getElem? (i := 43) rfl))) (mvT hZ25 (hw _ (List.mem_of_getElem? (i := 42) rfl))) (by decide) (backOf (W := 0) (r_aa1 l Z a0 hw [] s_L1 s_L4 s_L3 s_L5 s_L2 cs1 T40.heap n0 O40 G0 b32 ta1 Ft40 Fd40) hZ25 (hw _ (List.mem_of_getElem? (i := 44) rfl)) (hw _ (List.mem_of_getElem? (i := 29) rfl)) (by decide) (by decide)) q49a q49c (g := (mkF m 176 #[.val (.int p1), .val (.int p2), .val (.int p3), .val (.int p4), .val (.int kk), .val (.ref ta1), .val (.int (0 : Int32)), .val (.int (1 : Int32)), .val (.int (0 : Int32)), .val (.ref b2), .val (.ref b12), .val .null, .val .null, .val (.ref b32), .val (.int (0 : Int32))] [(.ref b32)])) rfl (by rw [hml]; rfl) (Steps.refl _) (argsL := []) (rest := []) (lenOf pd_7 rfl) rfl (by show 2 * 0 + _ ≤ _; exact Nat.le_of_eq rfl) (hb hby at_176) (fun _ _ => ⟨rfl, rfl, (by decide : 6 + 0 ≤ _), (by decide : 13 + 0 ≤ _)⟩)
  dsimp only [Pt.U, Pt.locs, Pt.cells, Pt.slots] at X49 l49 y49 z49 st49 hQ49
  subst l49 y49 z49
  obtain ⟨rfl, N49q, e49⟩ := hQ49
  have N49 := Fr.app N40 N49q
  obtain ⟨fs, hr, hrun, hended, hRW⟩ := X49.leaveW S25f (by rw [e49]; exact hk40) (v := some (.int (1 : Int32))) (fun h => by rw [Bd.returns] at h; cases h)
  refine ⟨_, _, pre0 _ ?_, hrun, hended, _, _, rfl, ?_, ?_, hRW.1, hRW.2.1, hRW.2.2.1, hRW.2.2.2.mono (by decide) (by decide)⟩
  · show Steps p.tables e below (s₁.setTop (mkF m 0 #[.val (.int p1), .val (.int p2), .val (.int p3), .val (.int p4), .unset, .unset, .unset, .unset, .unset, .unset, .unset, .unset, .unset, .unset, .unset] [])) _
    refine XS.iloadN X0.here hx rfl (hb hby at_0) rfl ?_
    show Steps p.tables e below (s₁.setTop (mkF m 1 #[.val (.int p1), .val (.int p2), .val (.int p3), .val (.int p4), .unset, .unset, .unset, .unset, .unset, .unset, .unset, .unset, .unset, .unset, .unset] [(.int p1)])) _
    refine X0.ldcInt hx hown (mvT hZ (hw _ (List.mem_of_getElem? (i := 0) rfl))) (g := (mkF m 1 #[.val (.int p1), .val (.int p2), .val (.int p3), .val (.int p4), .unset, .unset, .unset, .unset, .unset, .unset, .unset, .unset, .unset, .unset, .unset] [(.int p1)])) rfl (hb hby at_1) _ ?_
    show Steps p.tables e below (s₁.setTop (mkF m 3 #[.val (.int p1), .val (.int p2), .val (.int p3), .val (.int p4), .unset, .unset, .unset, .unset, .unset, .unset, .unset, .unset, .unset, .unset, .unset] [(.int (2147483647 : Int32)), (.int p1)])) _
    refine XS.iand X0.here hx rfl (hb hby at_3) rfl ?_
    refine XS.bipush X0.here hx rfl (hb hby at_4) ?_
    show Steps p.tables e below (s₁.setTop (mkF m 6 #[.val (.int p1), .val (.int p2), .val (.int p3), .val (.int p4), .unset, .unset, .unset, .unset, .unset, .unset, .unset, .unset, .unset, .unset, .unset] [(.int (6 : Int32)), (.int (p1 &&& (2147483647 : Int32)))])) _
    refine iremM X0 hx rfl (hb hby at_6) rfl (by decide) ?_
    show Steps p.tables e below (s₁.setTop (mkF m 7 #[.val (.int p1), .val (.int p2), .val (.int p3), .val (.int p4), .unset, .unset, .unset, .unset, .unset, .unset, .unset, .unset, .unset, .unset, .unset] [(.int ((p1 &&& (2147483647 : Int32)) % (6 : Int32)))])) _
    rw [hk]
    show Steps p.tables e below (s₁.setTop (mkF m 7 #[.val (.int p1), .val (.int p2), .val (.int p3), .val (.int p4), .unset, .unset, .unset, .unset, .unset, .unset, .unset, .unset, .unset, .unset, .unset] [(.int kk)])) _
    refine XS.istore X0.here hx rfl (hb hby at_7) rfl (l' := #[.val (.int p1), .val (.int p2), .val (.int p3), .val (.int p4), .val (.int kk), .unset, .unset, .unset, .unset, .unset, .unset, .unset, .unset, .unset, .unset]) rfl ?_
    refine XS.iload X0.here hx rfl (hb hby at_9) rfl ?_
    show Steps p.tables e below (s₁.setTop (mkF m 11 #[.val (.int p1), .val (.int p2), .val (.int p3), .val (.int p4), .val (.int kk), .unset, .unset, .unset, .unset, .unset, .unset, .unset, .unset, .unset, .unset] [(.int kk)])) _
    refine st1 _ ?_
    show Steps p.tables e below (T1.setTop (mkF m 14 #[.val (.int p1), .val (.int p2), .val (.int p3), .val (.int p4), .val (.int kk), .unset, .unset, .unset, .unset, .unset, .unset, .unset, .unset, .unset, .unset] [(.ref ta1)])) _
    refine XS.astore X1.here hx rfl (hb hby at_14) rfl rfl (l' := #[.val (.int p1), .val (.int p2), .val (.int p3), .val (.int p4), .val (.int kk), .val (.ref ta1), .unset, .unset, .unset, .unset, .unset, .unset, .unset, .unset, .unset]) rfl ?_
    refine XS.iloadN X1.here hx rfl (hb hby at_16) rfl ?_
    refine XS.iconst X1.here hx rfl (hb hby at_17) ?_
    refine XS.iand X1.here hx rfl (hb hby at_18) rfl ?_
    refine XS.ifYes X1.here hx rfl (pc0 := 19) (pc' := 26) rfl (hb hby at_19) rfl ((if0 _ _).trans (teq (hf0_ : (p2 &&& (1 : Int32)) = (0 : Int32))).1) (by decide) (by decide) ?_
    show Steps p.tables e below (T1.setTop (mkF m 26 #[.val (.int p1), .val (.int p2), .val (.int p3), .val (.int p4), .val (.int kk), .val (.ref ta1), .unset, .unset, .unset, .unset, .unset, .unset, .unset, .unset, .unset] [])) _
    refine XS.iconst X1.here hx rfl (hb hby at_26) ?_
    refine XS.istore X1.here hx rfl (hb hby at_27) rfl (l' := #[.val (.int p1), .val (.int p2), .val (.int p3), .val (.int p4), .val (.int kk), .val (.ref ta1), .val (.int (0 : Int32)), .unset, .unset, .unset, .unset, .unset, .unset, .unset, .unset]) rfl ?_
    refine XS.iloadN X1.here hx rfl (hb hby at_29) rfl ?_
    refine XS.iconst X1.here hx rfl (hb hby at_30) ?_
    refine XS.iand X1.here hx rfl (hb hby at_31) rfl ?_
    show Steps p.tables e below (T1.setTop (mkF m 32 #[.val (.int p1), .val (.int p2), .val (.int p3), .val (.int p4), .val (.int kk), .val (.ref ta1), .val (.int (0 : Int32)), .unset, .unset, .unset, .unset, .unset, .unset, .unset, .unset] [(.int (p2 &&& (2 : Int32)))])) _
    refine XS.ifNo X1.here hx rfl (hb hby at_32) rfl ((if0 _ _).trans (feq (hf1_ : ¬ ((p2 &&& (2 : Int32)) = (0 : Int32)))).1) ?_
    refine XS.iconst X1.here hx rfl (hb hby at_35) ?_
    refine XS.goto X1.here hx rfl (pc0 := 36) (pc' := 40) rfl (hb hby at_36) (by decide) (by decide) ?_
    refine XS.istore X1.here hx rfl (hb hby at_40) rfl (l' := #[.val (.int p1), .val (.int p2), .val (.int p3), .val (.int p4), .val (.int kk), .val (.ref ta1), .val (.int (0 : Int32)), .val (.int (1 : Int32)), .unset, .unset, .unset, .unset, .unset, .unset, .unset]) rfl ?_
    refine XS.iloadN X1.here hx rfl (hb hby at_42) rfl ?_
    show Steps p.tables e below (T1.setTop (mkF m 43 #[.val (.int p1), .val (.int p2), .val (.int p3), .val (.int p4), .val (.int kk), .val (.ref ta1), .val (.int (0 : Int32)), .val (.int (1 : Int32)), .unset, .unset, .unset, .unset, .unset, .unset, .unset] [(.int p2)])) _
    refine XS.iconst X1.here hx rfl (hb hby at_43) ?_
    refine XS.iand X1.here hx rfl (hb hby at_44) rfl ?_
    refine XS.ifYes X1.here hx rfl (pc0 := 45) (pc' := 52) rfl (hb hby at_45) rfl ((if0 _ _).trans (teq (hf2_ : (p2 &&& (4 : Int32)) = (0 : Int32))).1) (by decide) (by decide) ?_
    refine XS.iconst X1.here hx rfl (hb hby at_52) ?_
    refine XS.istore X1.here hx rfl (hb hby at_53) rfl (l' := #[.val (.int p1), .val (.int p2), .val (.int p3), .val (.int p4), .val (.int kk), .val (.ref ta1), .val (.int (0 : Int32)), .val (.int (1 : Int32)), .val (.int (0 : Int32)), .unset, .unset, .unset, .unset, .unset, .unset]) rfl ?_
    show Steps p.tables e below (T1.setTop (mkF m 55 #[.val (.int p1), .val (.int p2), .val (.int p3), .val (.int p4), .val (.int kk), .val (.ref ta1), .val (.int (0 : Int32)), .val (.int (1 : Int32)), .val (.int (0 : Int32)), .unset, .unset, .unset, .unset, .unset, .unset] [])) _
    refine XS.iconst X1.here hx rfl (hb hby at_55) ?_
    show Steps p.tables e below (T1.setTop (mkF m 56 #[.val (.int p1), .val (.int p2), .val (.int p3), .val (.int p4), .val (.int kk), .val (.ref ta1), .val (.int (0 : Int32)), .val (.int (1 : Int32)), .val (.int (0 : Int32)), .unset, .unset, .unset, .unset, .unset, .unset] [(.int (2 : Int32))])) _
    refine st2 _ ?_
    show Steps p.tables e below (T2.setTop (mkF m 58 #[.val (.int p1), .val (.int p2), .val (.int p3), .val (.int p4), .val (.int kk), .val (.ref ta1), .val (.int (0 : Int32)), .val (.int (1 : Int32)), .val (.int (0 : Int32)), .unset, .unset, .unset, .unset, .unset, .unset] [(.ref b2)])) _
    refine XS.astore X2.here hx rfl (hb hby at_58) rfl rfl (l' := #[.val (.int p1), .val (.int p2), .val (.int p3), .val (.int p4), .val (.int kk), .val (.ref ta1), .val (.int (0 : Int32)), .val (.int (1 : Int32)), .val (.int (0 : Int32)), .val (.ref b2), .unset, .unset, .unset, .unset, .unset]) rfl ?_
    refine XS.aload X2.here hx rfl (hb hby at_60) rfl rfl ?_
    refine XS.iconst X2.here hx rfl (hb hby at_62) ?_
    refine XS.iloadN X2.here hx rfl (hb hby at_63) rfl ?_
    refine XS.sipush X2.here hx rfl (hb hby at_64) ?_
    show Steps p.tables e below (T2.setTop (mkF m 67 #[.val (.int p1), .val (.int p2), .val (.int p3), .val (.int p4), .val (.int kk), .val (.ref ta1), .val (.int (0 : Int32)), .val (.int (1 : Int32)), .val (.int (0 : Int32)), .val (.ref b2), .unset, .unset, .unset, .unset, .unset] [(.int (255 : Int32)), (.int p3), (.int (0 : Int32)), (.ref b2)])) _
    refine XS.iand X2.here hx rfl (hb hby at_67) rfl ?_
    refine XS.i2c X2.here hx rfl (hb hby at_68) rfl ?_
    show Steps p.tables e below (T2.setTop (mkF m 69 #[.val (.int p1), .val (.int p2), .val (.int p3), .val (.int p4), .val (.int kk), .val (.ref ta1), .val (.int (0 : Int32)), .val (.int (1 : Int32)), .val (.int (0 : Int32)), .val (.ref b2), .unset, .unset, .unset, .unset, .unset] [(.int ((p3 &&& (255 : Int32)).toUInt32.toUInt16.toUInt32.toInt32)), (.int (0 : Int32)), (.ref b2)])) _
    refine st5 _ ?_
    show Steps p.tables e below (T5.setTop (mkF m 70 #[.val (.int p1), .val (.int p2), .val (.int p3), .val (.int p4), .val (.int kk), .val (.ref ta1), .val (.int (0 : Int32)), .val (.int (1 : Int32)), .val (.int (0 : Int32)), .val (.ref b2), .unset, .unset, .unset, .unset, .unset] [])) _
    refine XS.aload X5.here hx rfl (hb hby at_70) rfl rfl ?_
    refine XS.iconst X5.here hx rfl (hb hby at_72) ?_
    refine XS.iloadN X5.here hx rfl (hb hby at_73) rfl ?_
    refine XS.sipush X5.here hx rfl (hb hby at_74) ?_
    refine XS.iand X5.here hx rfl (hb hby at_77) rfl ?_
    show Steps p.tables e below (T5.setTop (mkF m 78 #[.val (.int p1), .val (.int p2), .val (.int p3), .val (.int p4), .val (.int kk), .val (.ref ta1), .val (.int (0 : Int32)), .val (.int (1 : Int32)), .val (.int (0 : Int32)), .val (.ref b2), .unset, .unset, .unset, .unset, .unset] [(.int (p4 &&& (255 : Int32))), (.int (1 : Int32)), (.ref b2)])) _
    refine XS.i2c X5.here hx rfl (hb hby at_78) rfl ?_
    show Steps p.tables e below (T5.setTop (mkF m 79 #[.val (.int p1), .val (.int p2), .val (.int p3), .val (.int p4), .val (.int kk), .val (.ref ta1), .val (.int (0 : Int32)), .val (.int (1 : Int32)), .val (.int (0 : Int32)), .val (.ref b2), .unset, .unset, .unset, .unset, .unset] [(.int ((p4 &&& (255 : Int32)).toUInt32.toUInt16.toUInt32.toInt32)), (.int (1 : Int32)), (.ref b2)])) _
    refine st9 _ ?_
    show Steps p.tables e below (T9.setTop (mkF m 80 #[.val (.int p1), .val (.int p2), .val (.int p3), .val (.int p4), .val (.int kk), .val (.ref ta1), .val (.int (0 : Int32)), .val (.int (1 : Int32)), .val (.int (0 : Int32)), .val (.ref b2), .unset, .unset, .unset, .unset, .unset] [])) _
    refine XS.iload X9.here hx rfl (hb hby at_80) rfl ?_
    refine XS.ifNo X9.here hx rfl (hb hby at_82) rfl ((if0 _ _).trans (feq (by decide : ¬ ((1 : Int32) = (0 : Int32)))).1) ?_
    show Steps p.tables e below (T9.setTop (mkF m 85 #[.val (.int p1), .val (.int p2), .val (.int p3), .val (.int p4), .val (.int kk), .val (.ref ta1), .val (.int (0 : Int32)), .val (.int (1 : Int32)), .val (.int (0 : Int32)), .val (.ref b2), .unset, .unset, .unset, .unset, .unset] [])) _
    refine st12 _ ?_
    show Steps p.tables e below (T12.setTop (mkF m 88 #[.val (.int p1), .val (.int p2), .val (.int p3), .val (.int p4), .val (.int kk), .val (.ref ta1), .val (.int (0 : Int32)), .val (.int (1 : Int32)), .val (.int (0 : Int32)), .val (.ref b2), .unset, .unset, .unset, .unset, .unset] [(.ref b12)])) _
    refine XS.dup X12.here hx rfl (hb hby at_88) rfl rfl ?_
    refine XS.iconst X12.here hx rfl (hb hby at_89) ?_
    show Steps p.tables e below (T12.setTop (mkF m 90 #[.val (.int p1), .val (.int p2), .val (.int p3), .val (.int p4), .val (.int kk), .val (.ref ta1), .val (.int (0 : Int32)), .val (.int (1 : Int32)), .val (.int (0 : Int32)), .val (.ref b2), .unset, .unset, .unset, .unset, .unset] [(.int (0 : Int32)), (.ref b12), (.ref b12)])) _
    refine st16 _ ?_
    show Steps p.tables e below (T16.setTop (mkF m 92 #[.val (.int p1), .val (.int p2), .val (.int p3), .val (.int p4), .val (.int kk), .val (.ref ta1), .val (.int (0 : Int32)), .val (.int (1 : Int32)), .val (.int (0 : Int32)), .val (.ref b2), .unset, .unset, .unset, .unset, .unset] [(.ref b16), (.ref b12), (.ref b12)])) _
    refine st25.trans ?_
    show Steps p.tables e below (T25.setTop (mkF m 95 #[.val (.int p1), .val (.int p2), .val (.int p3), .val (.int p4), .val (.int kk), .val (.ref ta1), .val (.int (0 : Int32)), .val (.int (1 : Int32)), .val (.int (0 : Int32)), .val (.ref b2), .unset, .unset, .unset, .unset, .unset] [(.ref b12)])) _
    refine XS.goto X25.here hx rfl (pc0 := 95) (pc' := 107) rfl (hb hby at_95) (by decide) (by decide) ?_
    refine XS.astore X25.here hx rfl (hb hby at_107) rfl rfl (l' := #[.val (.int p1), .val (.int p2), .val (.int p3), .val (.int p4), .val (.int kk), .val (.ref ta1), .val (.int (0 : Int32)), .val (.int (1 : Int32)), .val (.int (0 : Int32)), .val (.ref b2), .val (.ref b12), .unset, .unset, .unset, .unset]) rfl ?_
    refine XS.iload X25.here hx rfl (hb hby at_109) rfl ?_
    refine XS.ifYes X25.here hx rfl (pc0 := 111) (pc' := 119) rfl (hb hby at_111) rfl ((if0 _ _).trans (teq (by decide : (0 : Int32) = (0 : Int32))).1) (by decide) (by decide) ?_
    refine XS.aconstNull X25.here hx rfl (hb hby at_119) ?_
    show Steps p.tables e below (T25.setTop (mkF m 120 #[.val (.int p1), .val (.int p2), .val (.int p3), .val (.int p4), .val (.int kk), .val (.ref ta1), .val (.int (0 : Int32)), .val (.int (1 : Int32)), .val (.int (0 : Int32)), .val (.ref b2), .val (.ref b12), .unset, .unset, .unset, .unset] [.null])) _
    refine XS.astore X25.here hx rfl (hb hby at_120) rfl rfl (l' := #[.val (.int p1), .val (.int p2), .val (.int p3), .val (.int p4), .val (.int kk), .val (.ref ta1), .val (.int (0 : Int32)), .val (.int (1 : Int32)), .val (.int (0 : Int32)), .val (.ref b2), .val (.ref b12), .val .null, .unset, .unset, .unset]) rfl ?_
    refine XS.iload X25.here hx rfl (hb hby at_122) rfl ?_
    refine XS.ifYes X25.here hx rfl (pc0 := 124) (pc' := 139) rfl (hb hby at_124) rfl ((if0 _ _).trans (teq (by decide : (0 : Int32) = (0 : Int32))).1) (by decide) (by decide) ?_
    refine XS.aconstNull X25.here hx rfl (hb hby at_139) ?_
    refine XS.astore X25.here hx rfl (hb hby at_140) rfl rfl (l' := #[.val (.int p1), .val (.int p2), .val (.int p3), .val (.int p4), .val (.int kk), .val (.ref ta1), .val (.int (0 : Int32)), .val (.int (1 : Int32)), .val (.int (0 : Int32)), .val (.ref b2), .val (.ref b12), .val .null, .val .null, .unset, .unset]) rfl ?_
    show Steps p.tables e below (T25.setTop (mkF m 142 #[.val (.int p1), .val (.int p2), .val (.int p3), .val (.int p4), .val (.int kk), .val (.ref ta1), .val (.int (0 : Int32)), .val (.int (1 : Int32)), .val (.int (0 : Int32)), .val (.ref b2), .val (.ref b12), .val .null, .val .null, .unset, .unset] [])) _
    refine st32 _ ?_
    show Steps p.tables e below (T32.setTop (mkF m 145 #[.val (.int p1), .val (.int p2), .val (.int p3), .val (.int p4), .val (.int kk), .val (.ref ta1), .val (.int (0 : Int32)), .val (.int (1 : Int32)), .val (.int (0 : Int32)), .val (.ref b2), .val (.ref b12), .val .null, .val .null, .unset, .unset] [(.ref b32)])) _
    refine XS.dup X32.here hx rfl (hb hby at_145) rfl rfl ?_
    refine XS.aload X32.here hx rfl (hb hby at_146) rfl rfl ?_
    refine XS.aload X32.here hx rfl (hb hby at_148) rfl rfl ?_
    refine XS.aload X32.here hx rfl (hb hby at_150) rfl rfl ?_
    show Steps p.tables e below (T32.setTop (mkF m 152 #[.val (.int p1), .val (.int p2), .val (.int p3), .val (.int p4), .val (.int kk), .val (.ref ta1), .val (.int (0 : Int32)), .val (.int (1 : Int32)), .val (.int (0 : Int32)), .val (.ref b2), .val (.ref b12), .val .null, .val .null, .unset, .unset] [.null, .null, (.ref ta1), (.ref b32), (.ref b32)])) _
    refine st40.trans ?_
    show Steps p.tables e below (T40.setTop (mkF m 155 #[.val (.int p1), .val (.int p2), .val (.int p3), .val (.int p4), .val (.int kk), .val (.ref ta1), .val (.int (0 : Int32)), .val (.int (1 : Int32)), .val (.int (0 : Int32)), .val (.ref b2), .val (.ref b12), .val .null, .val .null, .unset, .unset] [(.ref b32)])) _
    refine XS.astore X40.here hx rfl (hb hby at_155) rfl rfl (l' := #[.val (.int p1), .val (.int p2), .val (.int p3), .val (.int p4), .val (.int kk), .val (.ref ta1), .val (.int (0 : Int32)), .val (.int (1 : Int32)), .val (.int (0 : Int32)), .val (.ref b2), .val (.ref b12), .val .null, .val .null, .val (.ref b32), .unset]) rfl ?_
    refine XS.iload X40.here hx rfl (hb hby at_157) rfl ?_
    refine XS.ifNo X40.here hx rfl (hb hby at_159) rfl ((if0 _ _).trans (feq ((by rcases hk1 with h | h | h | h | h <;> rw [h] <;> decide) : ¬ (kk = (0 : Int32)))).1) ?_
    refine XS.iload X40.here hx rfl (hb hby at_162) rfl ?_
    refine XS.ifYes X40.here hx rfl (pc0 := 164) (pc' := 171) rfl (hb hby at_164) rfl ((if0 _ _).trans (teq (by decide : (0 : Int32) = (0 : Int32))).1) (by decide) (by decide) ?_
    show Steps p.tables e below (T40.setTop (mkF m 171 #[.val (.int p1), .val (.int p2), .val (.int p3), .val (.int p4), .val (.int kk), .val (.ref ta1), .val (.int (0 : Int32)), .val (.int (1 : Int32)), .val (.int (0 : Int32)), .val (.ref b2), .val (.ref b12), .val .null, .val .null, .val (.ref b32), .unset] [])) _
    refine XS.iconst X40.here hx rfl (hb hby at_171) ?_
    refine XS.istore X40.here hx rfl (hb hby at_172) rfl (l' := #[.val (.int p1), .val (.int p2), .val (.int p3), .val (.int p4), .val (.int kk), .val (.ref ta1), .val (.int (0 : Int32)), .val (.int (1 : Int32)), .val (.int (0 : Int32)), .val (.ref b2), .val (.ref b12), .val .null, .val .null, .val (.ref b32), .val (.int (0 : Int32))]) rfl ?_
    refine XS.aload X40.here hx rfl (hb hby at_174) rfl rfl ?_
    show Steps p.tables e below (T40.setTop (mkF m 176 #[.val (.int p1), .val (.int p2), .val (.int p3), .val (.int p4), .val (.int kk), .val (.ref ta1), .val (.int (0 : Int32)), .val (.int (1 : Int32)), .val (.int (0 : Int32)), .val (.ref b2), .val (.ref b12), .val .null, .val .null, .val (.ref b32), .val (.int (0 : Int32))] [(.ref b32)])) _
    refine st49.trans ?_
    show Steps p.tables e below (T49.setTop (mkF m 179 #[.val (.int p1), .val (.int p2), .val (.int p3), .val (.int p4), .val (.int kk), .val (.ref ta1), .val (.int (0 : Int32)), .val (.int (1 : Int32)), .val (.int (0 : Int32)), .val (.ref b2), .val (.ref b12), .val .null, .val .null, .val (.ref b32), .val (.int (0 : Int32))] [(.int (0 : Int32))])) _
    refine XS.iload X49.here hx rfl (hb hby at_179) rfl ?_
    refine XS.icmpNo X49.here hx rfl (hb hby at_181) rfl (teq (by decide : (0 : Int32) = (0 : Int32))).2 ?_
    refine XS.iconst X49.here hx rfl (hb hby at_184) ?_
    refine XS.goto X49.here hx rfl (pc0 := 185) (pc' := 189) rfl (hb hby at_185) (by decide) (by decide) ?_
    show Steps p.tables e below (T49.setTop (mkF m 189 #[.val (.int p1), .val (.int p2), .val (.int p3), .val (.int p4), .val (.int kk), .val (.ref ta1), .val (.int (0 : Int32)), .val (.int (1 : Int32)), .val (.int (0 : Int32)), .val (.ref b2), .val (.ref b12), .val .null, .val .null, .val (.ref b32), .val (.int (0 : Int32))] [(.int (1 : Int32))])) _
    exact retN X49 hx (t := .boolean) Bd.returns (by simp) (hb hby at_189) hr
  · show own_Qk (some (.int (1 : Int32))) [] h0 n0 _ T49.heap _
    rw [e49]
    exact ⟨rfl, N49, K40⟩
  · show CHr Z own_EL s.vm s.heap T49.vm T49.heap
    rw [hh, e49]
    exact R40.trans (CHv.at (s := s) (vm0 := T25.vm) X49 hZ25 hEL C40)
set_option maxRecDepth 65536 in
set_option maxHeartbeats 40000000 in
theorem r_law6 (l : Launch) (Z : State) (a0 : Array Value) (hw : ∀ d ∈ tables_1, d.before a0 Z = true) (ws : List Jvm.Cond) (s_L1 s_L4 s_L3 s_L5 s_L2 : Addr) (cs1 : Int32) (h0 : Heap) (n0 : Nat) (O0 : Old Z n0 h0) (G : own_Ctx Z Z.heap s_L1 s_L4 s_L3 s_L5 s_L2 cs1) (hEL : EW Z a0 own_EL) (wS : ∀ a ∈ Bundle.stringAtoms, a.before a0 Z = true) (p1 p2 p3 p4 : Int32) (hk : (p1 &&& (2147483647 : Int32)) % (6 : Int32) = (0 : Int32)) (hf0_ : ¬ ((p2 &&& (1 : Int32)) = (0 : Int32))) (hf1_ : ¬ ((p2 &&& (2 : Int32)) = (0 : Int32))) (hf2_ : (p2 &&& (4 : Int32)) = (0 : Int32)) :
    MetFree l x (head1 (Jvm.Cond.code x code maxLocals ret :: ws) room_1) (fun a U => a = #[(.int p1), (.int p2), (.int p3), (.int p4)] ∧ Z.Warmed39 U.vm ∧ U.heap = h0 ∧ CHv Z own_EL U.vm h0) (fun _ _ _ _ _ => True) (fun _ U o U' => ∃ v L, o = .returned v ∧ own_Qk (some (.int (1 : Int32))) [] h0 n0 v U'.heap L ∧ CHr Z own_EL U.vm U.heap U'.vm U'.heap ∧ ReturnedEndW U o U' L 24 1152) := by
  have G0 := G
  obtain ⟨S_L1, E_L1, S_L4, E_L4, S_L3, E_L3, S_L5, E_L5, S_L2, E_L2, S_CS, N_CS⟩ := G
  refine MetFree.of_bodySF (plainFor_of_name pn_0) hisR ?_
  intro p e s m args below meth c s₁ Bd hml0 hP hK
  obtain ⟨rfl, hZ, hh, hC⟩ := hP
  have hx := Bd.exec
  have hby := Bd.bytes
  have hml : c.maxLocals = 15 := hml0
  have hown : s.vm.findClass "com/example/pending_actions/pendingactions/policy/AssessmentIsAutoApprovedPinLaw" = some m.cls := findClass_of_methodNamed Bd.named
  have hnm := (name_of_methodNamed Bd.named Bd.method).1
  have X0 : Stand p l e room_1 (s.setVm s.vm) m #[(.int p1), (.int p2), (.int p3), (.int p4)] below meth c s₁ [] 0 0 := Stand.of_body Bd
  have e0 : s₁.heap = h0 := by rw [← hh, Bd.state]; rfl
  have N0 := Fr.nil n0
  have hS0 : s.Since s.vm h0.size := State.WarmedH.since (State.WarmedH.refl s) _
  have hk0 : h0.size ≤ h0.size := Nat.le_refl _
  have pre0 : ∀ t, Steps p.tables e below (s₁.setTop (mkF m 0 #[.val (.int p1), .val (.int p2), .val (.int p3), .val (.int p4), .unset, .unset, .unset, .unset, .unset, .unset, .unset, .unset, .unset, .unset, .unset] [])) t → Steps p.tables e below (s₁.setTop (entryFrame m #[(.int p1), (.int p2), (.int p3), (.int p4)] maxLocals)) t := fun t k => castTop (ef_0_15 m p1 p2 p3 p4) k
  obtain ⟨_, _, ⟨T1, L1, k1, n1⟩, -, X1, ⟨Lc1, hQ1, l1, y1, z1⟩, st1⟩ := Jvm.LawKit.callS X0 hx (y := (⟨"com/example/pending_actions/pendingactions/policy/AssessmentIsAutoApprovedPinLaw", "pick", "(I)Lcom/example/pending_actions/pendingactions/policy/RiskTier;"⟩ : MethodName)) hown (mvT hZ (hw _ (List.mem_of_getElem? (i := 1) rfl))) (mvT hZ (hw _ (List.mem_of_getElem? (i := 2) rfl))) (mvT hZ (hw _ (List.mem_of_getElem? (i := 3) rfl))) (mvT hZ (hw _ (List.mem_of_getElem? (i := 4) rfl))) (by decide) (backOf (W := 0) (r_tier_0 l Z a0 hw [] s_L1 s_L4 s_L3 s_L5 s_L2 cs1 h0 n0 O0 G0) hZ (hw _ (List.mem_of_getElem? (i := 4) rfl)) (hw _ (List.mem_of_getElem? (i := 3) rfl)) (by decide) (by decide)) (g := (mkF m 11 #[.val (.int p1), .val (.int p2), .val (.int p3), .val (.int p4), .val (.int (0 : Int32)), .unset, .unset, .unset, .unset, .unset, .unset, .unset, .unset, .unset, .unset] [(.int (0 : Int32))])) rfl (by rw [hml]; rfl) (argsL := [(.int (0 : Int32))]) (rest := []) (lenOf pd_4 rfl) rfl (by show 2 * 0 + _ ≤ _; exact Nat.le_of_eq rfl) (hb hby at_11) (fun _ _ => ⟨rfl, e0, (by decide : 0 + 0 ≤ _), (by decide : 0 + 0 ≤ _)⟩)
  dsimp only [Pt.U, Pt.locs, Pt.cells, Pt.slots] at X1 l1 y1 z1 st1 hQ1
  subst l1 y1 z1
  obtain ⟨rfl, N1q, e1⟩ := hQ1
  have N1 := Fr.app N0 N1q
  obtain ⟨T2, h2, k2, X2, e2, E2, A2, st2⟩ := newP X1 hx hZ (hw _ (List.mem_of_getElem? (i := 5) rfl)) e1 (g := (mkF m 56 #[.val (.int p1), .val (.int p2), .val (.int p3), .val (.int p4), .val (.int (0 : Int32)), .val .null, .val (.int (1 : Int32)), .val (.int (1 : Int32)), .val (.int (0 : Int32)), .unset, .unset, .unset, .unset, .unset, .unset] [(.int (2 : Int32))])) rfl (hb hby at_56) rfl (by decide) (cap := 2) (by decide) (by decide) (by decide) (by decide)
  obtain ⟨b2, g2⟩ : ∃ z, z = h0.size := ⟨_, rfl⟩
  have ne_s_L1_b2 : s_L1 ≠ b2 := Nat.ne_of_lt (Nat.lt_of_lt_of_le (E_L1.ext O0.2).lt (Nat.le_of_eq g2.symm))
  have ne_s_L4_b2 : s_L4 ≠ b2 := Nat.ne_of_lt (Nat.lt_of_lt_of_le (E_L4.ext O0.2).lt (Nat.le_of_eq g2.symm))
  have ne_s_L3_b2 : s_L3 ≠ b2 := Nat.ne_of_lt (Nat.lt_of_lt_of_le (E_L3.ext O0.2).lt (Nat.le_of_eq g2.symm))
  have ne_s_L5_b2 : s_L5 ≠ b2 := Nat.ne_of_lt (Nat.lt_of_lt_of_le (E_L5.ext O0.2).lt (Nat.le_of_eq g2.symm))
  have ne_s_L2_b2 : s_L2 ≠ b2 := Nat.ne_of_lt (Nat.lt_of_lt_of_le (E_L2.ext O0.2).lt (Nat.le_of_eq g2.symm))
  have g_b2 : n0 ≤ b2 := Nat.le_trans (O0.1 ▸ O0.2.1) (Nat.le_of_eq g2.symm)
  have sz_b2 : h0.size ≤ b2 := Nat.le_trans (Keep.refl h0 []).1 (Nat.le_of_eq g2.symm)
  have sn2 : Safe Z own_EL s.vm h0 b2 := Safe.new (Nat.le_of_eq g2.symm)
  rw [← g2] at A2 st2
  have O2 := O0.ext E2
  have K2 : Keep h0 h2 [] := (Keep.refl h0 []).ext E2
  have sf3 := Safe.ext E2 hC sn2
  have C2 : CHv Z own_EL s.vm h2 := hC.ext E2
  have R2 : CHr Z own_EL s.vm h0 s.vm h2 := (CHr.refl hC).trans (CHr.ext E2 hC)
  have hk2 := Nat.le_trans hk0 E2.1
  have V2 : Arv Z h2 b2 k2 .char (2 : Int32) [(.int (0 : Int32)), (.int (0 : Int32))] (.int (0 : Int32)) := (Arv.new A2 (by decide)).pad (pad_rep [] (.int (0 : Int32)) 2)
  have vc4 := V2
  obtain ⟨cl4, Ar4, qk4, S4, Nn4, Hs4, Gf4⟩ := vc4
  have hin4 : ¬ ((0 : Int32) < 0 ∨ cl4.slots.size ≤ ((0 : Int32)).toNatClampNeg) := inb_of S4 ⟨by decide, by decide⟩
  obtain ⟨T5, h5, X5, e5, W5, st5⟩ := stC X2 hx hZ e2 Ar4 (j := (0 : Int32)) hin4 (g := (mkF m 69 #[.val (.int p1), .val (.int p2), .val (.int p3), .val (.int p4), .val (.int (0 : Int32)), .val .null, .val (.int (1 : Int32)), .val (.int (1 : Int32)), .val (.int (0 : Int32)), .val (.ref b2), .unset, .unset, .unset, .unset, .unset] [(.int ((p3 &&& (255 : Int32)).toUInt32.toUInt16.toUInt32.toInt32)), (.int (0 : Int32)), (.ref b2)])) rfl rfl (hb hby at_69)
  have O5 := O2.wr W5 g_b2
  have K5 : Keep h0 h5 [] := K2.wr W5 (Or.inr sz_b2)
  have N5 := Fr.snoc X5 N1 g_b2
  have sf6 := Safe.wr W5 sf3 C2 sf3
  have C5 : CHv Z own_EL s.vm h5 := C2.wr W5 sf3
  have R5 : CHr Z own_EL s.vm h0 s.vm h5 := R2.trans (CHr.wr W5 sf3 C2)
  have hk5 := Nat.le_trans hk2 (Keep.of_wr W5).1
  have f7 : Arv Z h5 b2 k2 .char (2 : Int32) [(.int (nar .char ((p3 &&& (255 : Int32)).toUInt32.toUInt16.toUInt32.toInt32))), (.int (0 : Int32))] (.int (0 : Int32)) := Arv.set Ar4 qk4 S4 Nn4 Hs4 Gf4 (fits_nar_char _) W5 0 rfl (Nat.le_of_ble_eq_true rfl)
  have vc8 := f7
  obtain ⟨cl8, Ar8, qk8, S8, Nn8, Hs8, Gf8⟩ := vc8
  have hin8 : ¬ ((1 : Int32) < 0 ∨ cl8.slots.size ≤ ((1 : Int32)).toNatClampNeg) := inb_of S8 ⟨by decide, by decide⟩
  obtain ⟨T9, h9, X9, e9, W9, st9⟩ := stC X5 hx hZ e5 Ar8 (j := (1 : Int32)) hin8 (g := (mkF m 79 #[.val (.int p1), .val (.int p2), .val (.int p3), .val (.int p4), .val (.int (0 : Int32)), .val .null, .val (.int (1 : Int32)), .val (.int (1 : Int32)), .val (.int (0 : Int32)), .val (.ref b2), .unset, .unset, .unset, .unset, .unset] [(.int ((p4 &&& (255 : Int32)).toUInt32.toUInt16.toUInt32.toInt32)), (.int (1 : Int32)), (.ref b2)])) rfl rfl (hb hby at_79)
  have O9 := O5.wr W9 g_b2
  have K9 : Keep h0 h9 [] := K5.wr W9 (Or.inr sz_b2)
  have N9 := Fr.snoc X9 N5 g_b2
  have sf10 := Safe.wr W9 sf6 C5 sf6
  have C9 : CHv Z own_EL s.vm h9 := C5.wr W9 sf6
  have R9 : CHr Z own_EL s.vm h0 s.vm h9 := R5.trans (CHr.wr W9 sf6 C5)
  have hk9 := Nat.le_trans hk5 (Keep.of_wr W9).1
  have f11 : Arv Z h9 b2 k2 .char (2 : Int32) [(.int (nar .char ((p3 &&& (255 : Int32)).toUInt32.toUInt16.toUInt32.toInt32))), (.int (nar .char ((p4 &&& (255 : Int32)).toUInt32.toUInt16.toUInt32.toInt32)))] (.int (0 : Int32)) := Arv.set Ar8 qk8 S8 Nn8 Hs8 Gf8 (fits_nar_char _) W9 1 rfl (Nat.le_of_ble_eq_true rfl)
  obtain ⟨T12, h12, X12, e12, E12, A12, D12, -, st12⟩ := newO X9 hx hZ hown (hw _ (List.mem_of_getElem? (i := 6) rfl)) (hw _ (List.mem_of_getElem? (i := 7) rfl)) (hw _ (List.mem_of_getElem? (i := 8) rfl)) e9 (g := (mkF m 85 #[.val (.int p1), .val (.int p2), .val (.int p3), .val (.int p4), .val (.int (0 : Int32)), .val .null, .val (.int (1 : Int32)), .val (.int (1 : Int32)), .val (.int (0 : Int32)), .val (.ref b2), .unset, .unset, .unset, .unset, .unset] [])) rfl (hb hby at_85) (by decide) (by decide)
  obtain ⟨b12, g12⟩ : ∃ z, z = h9.size := ⟨_, rfl⟩
  have ne_b2_b12 : b2 ≠ b12 := Nat.ne_of_lt (Nat.lt_of_lt_of_le f11.lt (Nat.le_of_eq g12.symm))
  have ne_s_L1_b12 : s_L1 ≠ b12 := Nat.ne_of_lt (Nat.lt_of_lt_of_le (E_L1.ext O9.2).lt (Nat.le_of_eq g12.symm))
  have ne_s_L4_b12 : s_L4 ≠ b12 := Nat.ne_of_lt (Nat.lt_of_lt_of_le (E_L4.ext O9.2).lt (Nat.le_of_eq g12.symm))
  have ne_s_L3_b12 : s_L3 ≠ b12 := Nat.ne_of_lt (Nat.lt_of_lt_of_le (E_L3.ext O9.2).lt (Nat.le_of_eq g12.symm))
  have ne_s_L5_b12 : s_L5 ≠ b12 := Nat.ne_of_lt (Nat.lt_of_lt_of_le (E_L5.ext O9.2).lt (Nat.le_of_eq g12.symm))
  have ne_s_L2_b12 : s_L2 ≠ b12 := Nat.ne_of_lt (Nat.lt_of_lt_of_le (E_L2.ext O9.2).lt (Nat.le_of_eq g12.symm))
  have g_b12 : n0 ≤ b12 := Nat.le_trans (O9.1 ▸ O9.2.1) (Nat.le_of_eq g12.symm)
  have sz_b12 : h0.size ≤ b12 := Nat.le_trans K9.1 (Nat.le_of_eq g12.symm)
  have sn12 : Safe Z own_EL s.vm h9 b12 := Safe.new (Nat.le_of_eq g12.symm)
  rw [← g12] at A12 D12 st12
  have f13 := f11.ext E12
  have O12 := O9.ext E12
  have K12 : Keep h0 h12 [] := K9.ext E12
  have sf14 := Safe.ext E12 C9 sf10
  have sf15 := Safe.ext E12 C9 sn12
  have C12 : CHv Z own_EL s.vm h12 := C9.ext E12
  have R12 : CHr Z own_EL s.vm h0 s.vm h12 := R9.trans (CHr.ext E12 C9)
  have hk12 := Nat.le_trans hk9 E12.1
  have F12_21 : Fld Z h12 b12 "java/lang/String" "value" "[B" .null := D12 (Or.inr (hw _ (List.mem_of_getElem? (i := 21) rfl))) (ty := (.array .byte)) (by decide)
  have F12_22 : Fld Z h12 b12 "java/lang/String" "coder" "B" (.int (0 : Int32)) := D12 (Or.inr (hw _ (List.mem_of_getElem? (i := 22) rfl))) (ty := .byte) (by decide)
  obtain ⟨T16, h16, k16, X16, e16, E16, A16, st16⟩ := newP X12 hx hZ (hw _ (List.mem_of_getElem? (i := 5) rfl)) e12 (g := (mkF m 90 #[.val (.int p1), .val (.int p2), .val (.int p3), .val (.int p4), .val (.int (0 : Int32)), .val .null, .val (.int (1 : Int32)), .val (.int (1 : Int32)), .val (.int (0 : Int32)), .val (.ref b2), .unset, .unset, .unset, .unset, .unset] [(.int (0 : Int32)), (.ref b12), (.ref b12)])) rfl (hb hby at_90) rfl (by decide) (cap := 0) (by decide) (by decide) (by decide) (by decide)
  obtain ⟨b16, g16⟩ : ∃ z, z = h12.size := ⟨_, rfl⟩
  have ne_b2_b16 : b2 ≠ b16 := Nat.ne_of_lt (Nat.lt_of_lt_of_le f13.lt (Nat.le_of_eq g16.symm))
  have ne_b12_b16 : b12 ≠ b16 := Nat.ne_of_lt (Nat.lt_of_lt_of_le A12.lt (Nat.le_of_eq g16.symm))
  have ne_s_L1_b16 : s_L1 ≠ b16 := Nat.ne_of_lt (Nat.lt_of_lt_of_le (E_L1.ext O12.2).lt (Nat.le_of_eq g16.symm))
  have ne_s_L4_b16 : s_L4 ≠ b16 := Nat.ne_of_lt (Nat.lt_of_lt_of_le (E_L4.ext O12.2).lt (Nat.le_of_eq g16.symm))
  have ne_s_L3_b16 : s_L3 ≠ b16 := Nat.ne_of_lt (Nat.lt_of_lt_of_le (E_L3.ext O12.2).lt (Nat.le_of_eq g16.symm))
  have ne_s_L5_b16 : s_L5 ≠ b16 := Nat.ne_of_lt (Nat.lt_of_lt_of_le (E_L5.ext O12.2).lt (Nat.le_of_eq g16.symm))
  have ne_s_L2_b16 : s_L2 ≠ b16 := Nat.ne_of_lt (Nat.lt_of_lt_of_le (E_L2.ext O12.2).lt (Nat.le_of_eq g16.symm))
  have g_b16 : n0 ≤ b16 := Nat.le_trans (O12.1 ▸ O12.2.1) (Nat.le_of_eq g16.symm)
  have sz_b16 : h0.size ≤ b16 := Nat.le_trans K12.1 (Nat.le_of_eq g16.symm)
  have sn16 : Safe Z own_EL s.vm h12 b16 := Safe.new (Nat.le_of_eq g16.symm)
  rw [← g16] at A16 st16
  have f17 := f13.ext E16
  have f18 := A12.ext E16
  have f19 := F12_21.ext E16
  have f20 := F12_22.ext E16
  have O16 := O12.ext E16
  have K16 : Keep h0 h16 [] := K12.ext E16
  have sf21 := Safe.ext E16 C12 sf14
  have sf22 := Safe.ext E16 C12 sf15
  have sf23 := Safe.ext E16 C12 sn16
  have C16 : CHv Z own_EL s.vm h16 := C12.ext E16
  have R16 : CHr Z own_EL s.vm h0 s.vm h16 := R12.trans (CHr.ext E16 C12)
  have hk16 := Nat.le_trans hk12 E16.1
  have V16 : Arv Z h16 b16 k16 .char (0 : Int32) [] (.int (0 : Int32)) := Arv.new A16 (by decide)
  obtain ⟨LL24, X24, N24⟩ : ∃ LL, Stand p l e room_1 (s.setVm s.vm) m #[(.int p1), (.int p2), (.int p3), (.int p4)] below meth c T16 LL 3 6 ∧ Fr n0 LL := ⟨_, X16, N9⟩
  obtain ⟨_, _, ⟨T25, L25, k25, n25⟩, -, X25, S25a, z25a, ⟨Lc25, hQ25, l25, y25, z25, R25q⟩, st25⟩ := X24.specialBackS hx (y := (⟨"java/lang/String", "<init>", "([C)V"⟩ : MethodName)) rfl hown (mvT hZ (hw _ (List.mem_of_getElem? (i := 9) rfl))) (mvT hZ (hw _ (List.mem_of_getElem? (i := 10) rfl))) (mvT hZ (hw _ (List.mem_of_getElem? (i := 11) rfl))) (by decide) (backOfSH (s := s) (vm0 := s.vm) (EL := own_EL) (W := 1) (r_s0 l Z a0 hw [] s_L1 s_L4 s_L3 s_L5 s_L2 cs1 h16 n0 O16 G0 hEL wS b12 b16 k16 f18 g_b12 f20 f19 V16 (Ne.symm ne_b12_b16)) hZ (hw _ (List.mem_of_getElem? (i := 11) rfl)) (hw _ (List.mem_of_getElem? (i := 8) rfl)) (by decide) (by decide) hEL C16) (g := (mkF m 92 #[.val (.int p1), .val (.int p2), .val (.int p3), .val (.int p4), .val (.int (0 : Int32)), .val .null, .val (.int (1 : Int32)), .val (.int (1 : Int32)), .val (.int (0 : Int32)), .val (.ref b2), .unset, .unset, .unset, .unset, .unset] [(.ref b16), (.ref b12), (.ref b12)])) rfl (by rw [hml]; rfl) (Steps.refl _) (a := b12) (argsL := [(.ref b16)]) (rest := [(.ref b12)]) (lenOf pd_5 rfl) rfl (by show 2 * 0 + _ ≤ _; exact Nat.le_of_eq rfl) (hb hby at_92) (fun _ _ => ⟨rfl, e16, (by decide : 3 + 2 ≤ _), (by decide : 6 + 4 ≤ _)⟩)
  dsimp only [Pt.U, Pt.locs, Pt.cells, Pt.slots] at X25 S25a z25a l25 y25 z25 st25 hQ25 R25q
  subst l25 y25 z25
  have X25 : Stand p l e room_1 (s.setVm T25.vm) m #[(.int p1), (.int p2), (.int p3), (.int p4)] below meth c T25 _ _ _ := X25
  have S25f : s.Since T25.vm T25.heap.size := foldS (T := T16) hS0 (by rw [e16]; exact hk16) S25a z25a
  have hZ25 : Z.Warmed39 T25.vm := State.Warmed39.trans (t := s.setVm s.vm) hZ S25a.1
  have hown25 : (s.setVm T25.vm).vm.findClass "com/example/pending_actions/pendingactions/policy/AssessmentIsAutoApprovedPinLaw" = some m.cls := by rw [show (s.setVm T25.vm).vm = T25.vm from rfl, S25a.1.alike.findClass]; exact hown
  obtain ⟨rfl, N25q, Kq25⟩ := hQ25
  have N25 := Fr.app N24 N25q
  have f26 := f17.keep Kq25 (fun q => (List.mem_cons.mp q).elim ne_b2_b12 (fun q => nomatch q))
  have f27 := f18.keep Kq25
  have f28 := V16.keep Kq25 (fun q => (List.mem_cons.mp q).elim (Ne.symm ne_b12_b16) (fun q => nomatch q))
  have O25 := O16.keep Kq25 (allS g_b12 all0)
  have K25 : Keep h0 T25.heap [] := K16.trans Kq25 (allS (Or.inr sz_b12) all0)
  have sf29 := R25q.safe f17.lt sf21
  have sf30 := R25q.safe f18.lt sf22
  have sf31 := R25q.safe V16.lt sf23
  have R25 : CHr Z own_EL s.vm h0 T25.vm T25.heap := R16.trans R25q
  have C25 := R25q.1
  obtain ⟨T32, h32, X32, e32, E32, A32, D32, -, st32⟩ := newO X25 hx hZ25 hown25 (hw _ (List.mem_of_getElem? (i := 27) rfl)) (hw _ (List.mem_of_getElem? (i := 28) rfl)) (hw _ (List.mem_of_getElem? (i := 29) rfl)) rfl (g := (mkF m 142 #[.val (.int p1), .val (.int p2), .val (.int p3), .val (.int p4), .val (.int (0 : Int32)), .val .null, .val (.int (1 : Int32)), .val (.int (1 : Int32)), .val (.int (0 : Int32)), .val (.ref b2), .val (.ref b12), .val (.ref b12), .val .null, .unset, .unset] [])) rfl (hb hby at_142) (by decide) (by decide)
  obtain ⟨b32, g32⟩ : ∃ z, z = T25.heap.size := ⟨_, rfl⟩
  have ne_b2_b32 : b2 ≠ b32 := Nat.ne_of_lt (Nat.lt_of_lt_of_le f26.lt (Nat.le_of_eq g32.symm))
  have ne_b12_b32 : b12 ≠ b32 := Nat.ne_of_lt (Nat.lt_of_lt_of_le f27.lt (Nat.le_of_eq g32.symm))
  have ne_b16_b32 : b16 ≠ b32 := Nat.ne_of_lt (Nat.lt_of_lt_of_le f28.lt (Nat.le_of_eq g32.symm))
  have ne_s_L1_b32 : s_L1 ≠ b32 := Nat.ne_of_lt (Nat.lt_of_lt_of_le (E_L1.ext O25.2).lt (Nat.le_of_eq g32.symm))
  have ne_s_L4_b32 : s_L4 ≠ b32 := Nat.ne_of_lt (Nat.lt_of_lt_of_le (E_L4.ext O25.2).lt (Nat.le_of_eq g32.symm))
  have ne_s_L3_b32 : s_L3 ≠ b32 := Nat.ne_of_lt (Nat.lt_of_lt_of_le (E_L3.ext O25.2).lt (Nat.le_of_eq g32.symm))
  have ne_s_L5_b32 : s_L5 ≠ b32 := Nat.ne_of_lt (Nat.lt_of_lt_of_le (E_L5.ext O25.2).lt (Nat.le_of_eq g32.symm))
  have ne_s_L2_b32 : s_L2 ≠ b32 := Nat.ne_of_lt (Nat.lt_of_lt_of_le (E_L2.ext O25.2).lt (Nat.le_of_eq g32.symm))
  have g_b32 : n0 ≤ b32 := Nat.le_trans (O25.1 ▸ O25.2.1) (Nat.le_of_eq g32.symm)
  have sz_b32 : h0.size ≤ b32 := Nat.le_trans K25.1 (Nat.le_of_eq g32.symm)
  have sn32 : Safe Z own_EL T25.vm T25.heap b32 := Safe.new (Nat.le_of_eq g32.symm)
  rw [← g32] at A32 D32 st32
  have f33 := f26.ext E32
  have f34 := f27.ext E32
  have f35 := f28.ext E32
  have O32 := O25.ext E32
  have K32 : Keep h0 h32 [] := K25.ext E32
  have sf36 := Safe.ext E32 C25 sf29
  have sf37 := Safe.ext E32 C25 sf30
  have sf38 := Safe.ext E32 C25 sf31
  have sf39 := Safe.ext E32 C25 sn32
  have C32 : CHv Z own_EL T25.vm h32 := C25.ext E32
  have R32 : CHr Z own_EL s.vm h0 T25.vm h32 := R25.trans (CHr.ext E32 C25)
  have hk32 := Nat.le_trans (Nat.le_refl _) E32.1
  have F32_35 : Fld Z h32 b32 "com/example/pending_actions/pendingactions/policy/Assessment" "tier" "Lcom/example/pending_actions/pendingactions/policy/RiskTier;" .null := D32 (Or.inr (hw _ (List.mem_of_getElem? (i := 35) rfl))) (ty := (.object "com/example/pending_actions/pendingactions/policy/RiskTier")) (by decide)
  have F32_37 : Fld Z h32 b32 "com/example/pending_actions/pendingactions/policy/Assessment" "decider" "Ljava/lang/String;" .null := D32 (Or.inr (hw _ (List.mem_of_getElem? (i := 37) rfl))) (ty := (.object "java/lang/String")) (by decide)
  have F32_39 : Fld Z h32 b32 "com/example/pending_actions/pendingactions/policy/Assessment" "policyVersion" "Ljava/lang/String;" .null := D32 (Or.inr (hw _ (List.mem_of_getElem? (i := 39) rfl))) (ty := (.object "java/lang/String")) (by decide)
  obtain ⟨_, _, ⟨T40, L40, k40, n40⟩, -, X40, ⟨Lc40, hQ40, l40, y40, z40⟩, st40⟩ := X32.specialBack hx (y := (⟨"com/example/pending_actions/pendingactions/policy/Assessment", "<init>", "(Lcom/example/pending_actions/pendingactions/policy/RiskTier;Ljava/lang/String;Ljava/lang/String;)V"⟩ : MethodName)) rfl hown25 (mvT hZ25 (hw _ (List.mem_of_getElem? (i := 30) rfl))) (mvT hZ25 (hw _ (List.mem_of_getElem? (i := 31) rfl))) (mvT hZ25 (hw _ (List.mem_of_getElem? (i := 32) rfl))) (by decide) (backOf (W := 1) (r_ai2 l Z a0 hw [] s_L1 s_L4 s_L3 s_L5 s_L2 cs1 h32 n0 O32 G0 b32 b12 A32 g_b32 F32_35 F32_37 F32_39) hZ25 (hw _ (List.mem_of_getElem? (i := 32) rfl)) (hw _ (List.mem_of_getElem? (i := 29) rfl)) (by decide) (by decide)) (g := (mkF m 152 #[.val (.int p1), .val (.int p2), .val (.int p3), .val (.int p4), .val (.int (0 : Int32)), .val .null, .val (.int (1 : Int32)), .val (.int (1 : Int32)), .val (.int (0 : Int32)), .val (.ref b2), .val (.ref b12), .val (.ref b12), .val .null, .unset, .unset] [.null, (.ref b12), .null, (.ref b32), (.ref b32)])) rfl (by rw [hml]; rfl) (Steps.refl _) (a := b32) (argsL := [.null, (.ref b12), .null]) (rest := [(.ref b32)]) (lenOf pd_6 rfl) rfl (by show 2 * 0 + _ ≤ _; exact Nat.le_of_eq rfl) (hb hby at_152) (fun _ _ => ⟨rfl, e32, (by decide : 6 + 0 ≤ _), (by decide : 13 + 0 ≤ _)⟩)
  dsimp only [Pt.U, Pt.locs, Pt.cells, Pt.slots] at X40 l40 y40 z40 st40 hQ40
  subst l40 y40 z40
  obtain ⟨rfl, N40q, Kq40, Ft40, Fd40⟩ := hQ40
  have N40 := Fr.app N25 N40q
  have f41 := f33.keep Kq40 (fun q => (List.mem_cons.mp q).elim ne_b2_b32 (fun q => nomatch q))
  have f42 := f34.keep Kq40
  have f43 := f35.keep Kq40 (fun q => (List.mem_cons.mp q).elim ne_b16_b32 (fun q => nomatch q))
  have f44 := A32.keep Kq40
  have O40 := O32.keep Kq40 (allS g_b32 all0)
  have K40 : Keep h0 T40.heap [] := K32.trans Kq40 (allS (Or.inr sz_b32) all0)
  have sf45 := Safe.keep Kq40 (sfS sf39 sf0) C32 sf36
  have sf46 := Safe.keep Kq40 (sfS sf39 sf0) C32 sf37
  have sf47 := Safe.keep Kq40 (sfS sf39 sf0) C32 sf38
  have sf48 := Safe.keep Kq40 (sfS sf39 sf0) C32 sf39
  have C40 : CHv Z own_EL T25.vm T40.heap := C32.keep Kq40 (sfS sf39 sf0)
  have R40 : CHr Z own_EL s.vm h0 T25.vm T40.heap := R32.trans (CHr.keep Kq40 (sfS sf39 sf0) C32)
  have hk40 := Nat.le_trans hk32 Kq40.1
  obtain ⟨cq49, kq49, q49a, q49b, q49c⟩ := isOf hZ25 rfl f44
  obtain ⟨_, _, ⟨T49, L49, k49, n49⟩, -, X49, ⟨Lc49, hQ49, l49, y49, z49⟩, st49⟩ := X40.virtualBack hx (y := (⟨"com/example/pending_actions/pendingactions/policy/Assessment", "isAutoApproved", "()Z"⟩ : MethodName)) (z := (⟨"com/example/pending_actions/pendingactions/policy/Assessment", "isAutoApproved", "()Z"⟩ : MethodName)) hown25 (mvT hZ25 (hw _ (List.mem_of_getElem? (i := 40) rfl))) (mvT hZ25 (hw _ (List.mem_of_getElem? (i := 41) rfl))) (notFace_of_selects (args := #[]) (mvT hZ25 (hw _ (List.mem_of_getElem? (i := 43) rfl)))) (mvT hZ25 (hw _ (List.mem_of_getElem? (i := 43) rfl))) (mvT hZ25 (hw _ (List.mem_of_getElem? (i := 42) rfl))) (by decide) (backOf (W := 0) (r_aa2 l Z a0 hw [] s_L1 s_L4 s_L3 s_L5 s_L2 cs1 T40.heap n0 O40 G0 b32 b12 Ft40 Fd40) hZ25 (hw _ (List.mem_of_getElem? (i := 44) rfl)) (hw _ (List.mem_of_getElem? (i := 29) rfl)) (by decide) (by decide)) q49a q49c (g := (mkF m 176 #[.val (.int p1), .val (.int p2), .val (.int p3), .val (.int p4), .val (.int (0 : Int32)), .val .null, .val (.int (1 : Int32)), .val (.int (1 : Int32)), .val (.int (0 : Int32)), .val (.ref b2), .val (.ref b12), .val (.ref b12), .val .null, .val (.ref b32), .val (.int (0 : Int32))] [(.ref b32)])) rfl (by rw [hml]; rfl) (Steps.refl _) (argsL := []) (rest := []) (lenOf pd_7 rfl) rfl (by show 2 * 0 + _ ≤ _; exact Nat.le_of_eq rfl) (hb hby at_176) (fun _ _ => ⟨rfl, rfl, (by decide : 6 + 0 ≤ _), (by decide : 13 + 0 ≤ _)⟩)
  dsimp only [Pt.U, Pt.locs, Pt.cells, Pt.slots] at X49 l49 y49 z49 st49 hQ49
  subst l49 y49 z49
  obtain ⟨rfl, N49q, e49⟩ := hQ49
  have N49 := Fr.app N40 N49q
  obtain ⟨fs, hr, hrun, hended, hRW⟩ := X49.leaveW S25f (by rw [e49]; exact hk40) (v := some (.int (1 : Int32))) (fun h => by rw [Bd.returns] at h; cases h)
  refine ⟨_, _, pre0 _ ?_, hrun, hended, _, _, rfl, ?_, ?_, hRW.1, hRW.2.1, hRW.2.2.1, hRW.2.2.2.mono (by decide) (by decide)⟩
  · show Steps p.tables e below (s₁.setTop (mkF m 0 #[.val (.int p1), .val (.int p2), .val (.int p3), .val (.int p4), .unset, .unset, .unset, .unset, .unset, .unset, .unset, .unset, .unset, .unset, .unset] [])) _
    refine XS.iloadN X0.here hx rfl (hb hby at_0) rfl ?_
    show Steps p.tables e below (s₁.setTop (mkF m 1 #[.val (.int p1), .val (.int p2), .val (.int p3), .val (.int p4), .unset, .unset, .unset, .unset, .unset, .unset, .unset, .unset, .unset, .unset, .unset] [(.int p1)])) _
    refine X0.ldcInt hx hown (mvT hZ (hw _ (List.mem_of_getElem? (i := 0) rfl))) (g := (mkF m 1 #[.val (.int p1), .val (.int p2), .val (.int p3), .val (.int p4), .unset, .unset, .unset, .unset, .unset, .unset, .unset, .unset, .unset, .unset, .unset] [(.int p1)])) rfl (hb hby at_1) _ ?_
    show Steps p.tables e below (s₁.setTop (mkF m 3 #[.val (.int p1), .val (.int p2), .val (.int p3), .val (.int p4), .unset, .unset, .unset, .unset, .unset, .unset, .unset, .unset, .unset, .unset, .unset] [(.int (2147483647 : Int32)), (.int p1)])) _
    refine XS.iand X0.here hx rfl (hb hby at_3) rfl ?_
    refine XS.bipush X0.here hx rfl (hb hby at_4) ?_
    show Steps p.tables e below (s₁.setTop (mkF m 6 #[.val (.int p1), .val (.int p2), .val (.int p3), .val (.int p4), .unset, .unset, .unset, .unset, .unset, .unset, .unset, .unset, .unset, .unset, .unset] [(.int (6 : Int32)), (.int (p1 &&& (2147483647 : Int32)))])) _
    refine iremM X0 hx rfl (hb hby at_6) rfl (by decide) ?_
    show Steps p.tables e below (s₁.setTop (mkF m 7 #[.val (.int p1), .val (.int p2), .val (.int p3), .val (.int p4), .unset, .unset, .unset, .unset, .unset, .unset, .unset, .unset, .unset, .unset, .unset] [(.int ((p1 &&& (2147483647 : Int32)) % (6 : Int32)))])) _
    rw [hk]
    show Steps p.tables e below (s₁.setTop (mkF m 7 #[.val (.int p1), .val (.int p2), .val (.int p3), .val (.int p4), .unset, .unset, .unset, .unset, .unset, .unset, .unset, .unset, .unset, .unset, .unset] [(.int (0 : Int32))])) _
    refine XS.istore X0.here hx rfl (hb hby at_7) rfl (l' := #[.val (.int p1), .val (.int p2), .val (.int p3), .val (.int p4), .val (.int (0 : Int32)), .unset, .unset, .unset, .unset, .unset, .unset, .unset, .unset, .unset, .unset]) rfl ?_
    refine XS.iload X0.here hx rfl (hb hby at_9) rfl ?_
    show Steps p.tables e below (s₁.setTop (mkF m 11 #[.val (.int p1), .val (.int p2), .val (.int p3), .val (.int p4), .val (.int (0 : Int32)), .unset, .unset, .unset, .unset, .unset, .unset, .unset, .unset, .unset, .unset] [(.int (0 : Int32))])) _
    refine st1 _ ?_
    show Steps p.tables e below (T1.setTop (mkF m 14 #[.val (.int p1), .val (.int p2), .val (.int p3), .val (.int p4), .val (.int (0 : Int32)), .unset, .unset, .unset, .unset, .unset, .unset, .unset, .unset, .unset, .unset] [.null])) _
    refine XS.astore X1.here hx rfl (hb hby at_14) rfl rfl (l' := #[.val (.int p1), .val (.int p2), .val (.int p3), .val (.int p4), .val (.int (0 : Int32)), .val .null, .unset, .unset, .unset, .unset, .unset, .unset, .unset, .unset, .unset]) rfl ?_
    refine XS.iloadN X1.here hx rfl (hb hby at_16) rfl ?_
    refine XS.iconst X1.here hx rfl (hb hby at_17) ?_
    refine XS.iand X1.here hx rfl (hb hby at_18) rfl ?_
    refine XS.ifNo X1.here hx rfl (hb hby at_19) rfl ((if0 _ _).trans (feq (hf0_ : ¬ ((p2 &&& (1 : Int32)) = (0 : Int32)))).1) ?_
    show Steps p.tables e below (T1.setTop (mkF m 22 #[.val (.int p1), .val (.int p2), .val (.int p3), .val (.int p4), .val (.int (0 : Int32)), .val .null, .unset, .unset, .unset, .unset, .unset, .unset, .unset, .unset, .unset] [])) _
    refine XS.iconst X1.here hx rfl (hb hby at_22) ?_
    refine XS.goto X1.here hx rfl (pc0 := 23) (pc' := 27) rfl (hb hby at_23) (by decide) (by decide) ?_
    refine XS.istore X1.here hx rfl (hb hby at_27) rfl (l' := #[.val (.int p1), .val (.int p2), .val (.int p3), .val (.int p4), .val (.int (0 : Int32)), .val .null, .val (.int (1 : Int32)), .unset, .unset, .unset, .unset, .unset, .unset, .unset, .unset]) rfl ?_
    refine XS.iloadN X1.here hx rfl (hb hby at_29) rfl ?_
    refine XS.iconst X1.here hx rfl (hb hby at_30) ?_
    show Steps p.tables e below (T1.setTop (mkF m 31 #[.val (.int p1), .val (.int p2), .val (.int p3), .val (.int p4), .val (.int (0 : Int32)), .val .null, .val (.int (1 : Int32)), .unset, .unset, .unset, .unset, .unset, .unset, .unset, .unset] [(.int (2 : Int32)), (.int p2)])) _
    refine XS.iand X1.here hx rfl (hb hby at_31) rfl ?_
    refine XS.ifNo X1.here hx rfl (hb hby at_32) rfl ((if0 _ _).trans (feq (hf1_ : ¬ ((p2 &&& (2 : Int32)) = (0 : Int32)))).1) ?_
    refine XS.iconst X1.here hx rfl (hb hby at_35) ?_
    refine XS.goto X1.here hx rfl (pc0 := 36) (pc' := 40) rfl (hb hby at_36) (by decide) (by decide) ?_
    refine XS.istore X1.here hx rfl (hb hby at_40) rfl (l' := #[.val (.int p1), .val (.int p2), .val (.int p3), .val (.int p4), .val (.int (0 : Int32)), .val .null, .val (.int (1 : Int32)), .val (.int (1 : Int32)), .unset, .unset, .unset, .unset, .unset, .unset, .unset]) rfl ?_
    show Steps p.tables e below (T1.setTop (mkF m 42 #[.val (.int p1), .val (.int p2), .val (.int p3), .val (.int p4), .val (.int (0 : Int32)), .val .null, .val (.int (1 : Int32)), .val (.int (1 : Int32)), .unset, .unset, .unset, .unset, .unset, .unset, .unset] [])) _
    refine XS.iloadN X1.here hx rfl (hb hby at_42) rfl ?_
    refine XS.iconst X1.here hx rfl (hb hby at_43) ?_
    refine XS.iand X1.here hx rfl (hb hby at_44) rfl ?_
    refine XS.ifYes X1.here hx rfl (pc0 := 45) (pc' := 52) rfl (hb hby at_45) rfl ((if0 _ _).trans (teq (hf2_ : (p2 &&& (4 : Int32)) = (0 : Int32))).1) (by decide) (by decide) ?_
    refine XS.iconst X1.here hx rfl (hb hby at_52) ?_
    show Steps p.tables e below (T1.setTop (mkF m 53 #[.val (.int p1), .val (.int p2), .val (.int p3), .val (.int p4), .val (.int (0 : Int32)), .val .null, .val (.int (1 : Int32)), .val (.int (1 : Int32)), .unset, .unset, .unset, .unset, .unset, .unset, .unset] [(.int (0 : Int32))])) _
    refine XS.istore X1.here hx rfl (hb hby at_53) rfl (l' := #[.val (.int p1), .val (.int p2), .val (.int p3), .val (.int p4), .val (.int (0 : Int32)), .val .null, .val (.int (1 : Int32)), .val (.int (1 : Int32)), .val (.int (0 : Int32)), .unset, .unset, .unset, .unset, .unset, .unset]) rfl ?_
    refine XS.iconst X1.here hx rfl (hb hby at_55) ?_
    show Steps p.tables e below (T1.setTop (mkF m 56 #[.val (.int p1), .val (.int p2), .val (.int p3), .val (.int p4), .val (.int (0 : Int32)), .val .null, .val (.int (1 : Int32)), .val (.int (1 : Int32)), .val (.int (0 : Int32)), .unset, .unset, .unset, .unset, .unset, .unset] [(.int (2 : Int32))])) _
    refine st2 _ ?_
    show Steps p.tables e below (T2.setTop (mkF m 58 #[.val (.int p1), .val (.int p2), .val (.int p3), .val (.int p4), .val (.int (0 : Int32)), .val .null, .val (.int (1 : Int32)), .val (.int (1 : Int32)), .val (.int (0 : Int32)), .unset, .unset, .unset, .unset, .unset, .unset] [(.ref b2)])) _
    refine XS.astore X2.here hx rfl (hb hby at_58) rfl rfl (l' := #[.val (.int p1), .val (.int p2), .val (.int p3), .val (.int p4), .val (.int (0 : Int32)), .val .null, .val (.int (1 : Int32)), .val (.int (1 : Int32)), .val (.int (0 : Int32)), .val (.ref b2), .unset, .unset, .unset, .unset, .unset]) rfl ?_
    refine XS.aload X2.here hx rfl (hb hby at_60) rfl rfl ?_
    refine XS.iconst X2.here hx rfl (hb hby at_62) ?_
    refine XS.iloadN X2.here hx rfl (hb hby at_63) rfl ?_
    refine XS.sipush X2.here hx rfl (hb hby at_64) ?_
    show Steps p.tables e below (T2.setTop (mkF m 67 #[.val (.int p1), .val (.int p2), .val (.int p3), .val (.int p4), .val (.int (0 : Int32)), .val .null, .val (.int (1 : Int32)), .val (.int (1 : Int32)), .val (.int (0 : Int32)), .val (.ref b2), .unset, .unset, .unset, .unset, .unset] [(.int (255 : Int32)), (.int p3), (.int (0 : Int32)), (.ref b2)])) _
    refine XS.iand X2.here hx rfl (hb hby at_67) rfl ?_
    refine XS.i2c X2.here hx rfl (hb hby at_68) rfl ?_
    show Steps p.tables e below (T2.setTop (mkF m 69 #[.val (.int p1), .val (.int p2), .val (.int p3), .val (.int p4), .val (.int (0 : Int32)), .val .null, .val (.int (1 : Int32)), .val (.int (1 : Int32)), .val (.int (0 : Int32)), .val (.ref b2), .unset, .unset, .unset, .unset, .unset] [(.int ((p3 &&& (255 : Int32)).toUInt32.toUInt16.toUInt32.toInt32)), (.int (0 : Int32)), (.ref b2)])) _
    refine st5 _ ?_
    show Steps p.tables e below (T5.setTop (mkF m 70 #[.val (.int p1), .val (.int p2), .val (.int p3), .val (.int p4), .val (.int (0 : Int32)), .val .null, .val (.int (1 : Int32)), .val (.int (1 : Int32)), .val (.int (0 : Int32)), .val (.ref b2), .unset, .unset, .unset, .unset, .unset] [])) _
    refine XS.aload X5.here hx rfl (hb hby at_70) rfl rfl ?_
    refine XS.iconst X5.here hx rfl (hb hby at_72) ?_
    refine XS.iloadN X5.here hx rfl (hb hby at_73) rfl ?_
    refine XS.sipush X5.here hx rfl (hb hby at_74) ?_
    refine XS.iand X5.here hx rfl (hb hby at_77) rfl ?_
    show Steps p.tables e below (T5.setTop (mkF m 78 #[.val (.int p1), .val (.int p2), .val (.int p3), .val (.int p4), .val (.int (0 : Int32)), .val .null, .val (.int (1 : Int32)), .val (.int (1 : Int32)), .val (.int (0 : Int32)), .val (.ref b2), .unset, .unset, .unset, .unset, .unset] [(.int (p4 &&& (255 : Int32))), (.int (1 : Int32)), (.ref b2)])) _
    refine XS.i2c X5.here hx rfl (hb hby at_78) rfl ?_
    show Steps p.tables e below (T5.setTop (mkF m 79 #[.val (.int p1), .val (.int p2), .val (.int p3), .val (.int p4), .val (.int (0 : Int32)), .val .null, .val (.int (1 : Int32)), .val (.int (1 : Int32)), .val (.int (0 : Int32)), .val (.ref b2), .unset, .unset, .unset, .unset, .unset] [(.int ((p4 &&& (255 : Int32)).toUInt32.toUInt16.toUInt32.toInt32)), (.int (1 : Int32)), (.ref b2)])) _
    refine st9 _ ?_
    show Steps p.tables e below (T9.setTop (mkF m 80 #[.val (.int p1), .val (.int p2), .val (.int p3), .val (.int p4), .val (.int (0 : Int32)), .val .null, .val (.int (1 : Int32)), .val (.int (1 : Int32)), .val (.int (0 : Int32)), .val (.ref b2), .unset, .unset, .unset, .unset, .unset] [])) _
    refine XS.iload X9.here hx rfl (hb hby at_80) rfl ?_
    refine XS.ifNo X9.here hx rfl (hb hby at_82) rfl ((if0 _ _).trans (feq (by decide : ¬ ((1 : Int32) = (0 : Int32)))).1) ?_
    show Steps p.tables e below (T9.setTop (mkF m 85 #[.val (.int p1), .val (.int p2), .val (.int p3), .val (.int p4), .val (.int (0 : Int32)), .val .null, .val (.int (1 : Int32)), .val (.int (1 : Int32)), .val (.int (0 : Int32)), .val (.ref b2), .unset, .unset, .unset, .unset, .unset] [])) _
    refine st12 _ ?_
    show Steps p.tables e below (T12.setTop (mkF m 88 #[.val (.int p1), .val (.int p2), .val (.int p3), .val (.int p4), .val (.int (0 : Int32)), .val .null, .val (.int (1 : Int32)), .val (.int (1 : Int32)), .val (.int (0 : Int32)), .val (.ref b2), .unset, .unset, .unset, .unset, .unset] [(.ref b12)])) _
    refine XS.dup X12.here hx rfl (hb hby at_88) rfl rfl ?_
    refine XS.iconst X12.here hx rfl (hb hby at_89) ?_
    show Steps p.tables e below (T12.setTop (mkF m 90 #[.val (.int p1), .val (.int p2), .val (.int p3), .val (.int p4), .val (.int (0 : Int32)), .val .null, .val (.int (1 : Int32)), .val (.int (1 : Int32)), .val (.int (0 : Int32)), .val (.ref b2), .unset, .unset, .unset, .unset, .unset] [(.int (0 : Int32)), (.ref b12), (.ref b12)])) _
    refine st16 _ ?_
    show Steps p.tables e below (T16.setTop (mkF m 92 #[.val (.int p1), .val (.int p2), .val (.int p3), .val (.int p4), .val (.int (0 : Int32)), .val .null, .val (.int (1 : Int32)), .val (.int (1 : Int32)), .val (.int (0 : Int32)), .val (.ref b2), .unset, .unset, .unset, .unset, .unset] [(.ref b16), (.ref b12), (.ref b12)])) _
    refine st25.trans ?_
    show Steps p.tables e below (T25.setTop (mkF m 95 #[.val (.int p1), .val (.int p2), .val (.int p3), .val (.int p4), .val (.int (0 : Int32)), .val .null, .val (.int (1 : Int32)), .val (.int (1 : Int32)), .val (.int (0 : Int32)), .val (.ref b2), .unset, .unset, .unset, .unset, .unset] [(.ref b12)])) _
    refine XS.goto X25.here hx rfl (pc0 := 95) (pc' := 107) rfl (hb hby at_95) (by decide) (by decide) ?_
    refine XS.astore X25.here hx rfl (hb hby at_107) rfl rfl (l' := #[.val (.int p1), .val (.int p2), .val (.int p3), .val (.int p4), .val (.int (0 : Int32)), .val .null, .val (.int (1 : Int32)), .val (.int (1 : Int32)), .val (.int (0 : Int32)), .val (.ref b2), .val (.ref b12), .unset, .unset, .unset, .unset]) rfl ?_
    refine XS.iload X25.here hx rfl (hb hby at_109) rfl ?_
    refine XS.ifNo X25.here hx rfl (hb hby at_111) rfl ((if0 _ _).trans (feq (by decide : ¬ ((1 : Int32) = (0 : Int32)))).1) ?_
    refine XS.aload X25.here hx rfl (hb hby at_114) rfl rfl ?_
    show Steps p.tables e below (T25.setTop (mkF m 116 #[.val (.int p1), .val (.int p2), .val (.int p3), .val (.int p4), .val (.int (0 : Int32)), .val .null, .val (.int (1 : Int32)), .val (.int (1 : Int32)), .val (.int (0 : Int32)), .val (.ref b2), .val (.ref b12), .unset, .unset, .unset, .unset] [(.ref b12)])) _
    refine XS.goto X25.here hx rfl (pc0 := 116) (pc' := 120) rfl (hb hby at_116) (by decide) (by decide) ?_
    refine XS.astore X25.here hx rfl (hb hby at_120) rfl rfl (l' := #[.val (.int p1), .val (.int p2), .val (.int p3), .val (.int p4), .val (.int (0 : Int32)), .val .null, .val (.int (1 : Int32)), .val (.int (1 : Int32)), .val (.int (0 : Int32)), .val (.ref b2), .val (.ref b12), .val (.ref b12), .unset, .unset, .unset]) rfl ?_
    refine XS.iload X25.here hx rfl (hb hby at_122) rfl ?_
    refine XS.ifYes X25.here hx rfl (pc0 := 124) (pc' := 139) rfl (hb hby at_124) rfl ((if0 _ _).trans (teq (by decide : (0 : Int32) = (0 : Int32))).1) (by decide) (by decide) ?_
    refine XS.aconstNull X25.here hx rfl (hb hby at_139) ?_
    show Steps p.tables e below (T25.setTop (mkF m 140 #[.val (.int p1), .val (.int p2), .val (.int p3), .val (.int p4), .val (.int (0 : Int32)), .val .null, .val (.int (1 : Int32)), .val (.int (1 : Int32)), .val (.int (0 : Int32)), .val (.ref b2), .val (.ref b12), .val (.ref b12), .unset, .unset, .unset] [.null])) _
    refine XS.astore X25.here hx rfl (hb hby at_140) rfl rfl (l' := #[.val (.int p1), .val (.int p2), .val (.int p3), .val (.int p4), .val (.int (0 : Int32)), .val .null, .val (.int (1 : Int32)), .val (.int (1 : Int32)), .val (.int (0 : Int32)), .val (.ref b2), .val (.ref b12), .val (.ref b12), .val .null, .unset, .unset]) rfl ?_
    show Steps p.tables e below (T25.setTop (mkF m 142 #[.val (.int p1), .val (.int p2), .val (.int p3), .val (.int p4), .val (.int (0 : Int32)), .val .null, .val (.int (1 : Int32)), .val (.int (1 : Int32)), .val (.int (0 : Int32)), .val (.ref b2), .val (.ref b12), .val (.ref b12), .val .null, .unset, .unset] [])) _
    refine st32 _ ?_
    show Steps p.tables e below (T32.setTop (mkF m 145 #[.val (.int p1), .val (.int p2), .val (.int p3), .val (.int p4), .val (.int (0 : Int32)), .val .null, .val (.int (1 : Int32)), .val (.int (1 : Int32)), .val (.int (0 : Int32)), .val (.ref b2), .val (.ref b12), .val (.ref b12), .val .null, .unset, .unset] [(.ref b32)])) _
    refine XS.dup X32.here hx rfl (hb hby at_145) rfl rfl ?_
    refine XS.aload X32.here hx rfl (hb hby at_146) rfl rfl ?_
    refine XS.aload X32.here hx rfl (hb hby at_148) rfl rfl ?_
    refine XS.aload X32.here hx rfl (hb hby at_150) rfl rfl ?_
    show Steps p.tables e below (T32.setTop (mkF m 152 #[.val (.int p1), .val (.int p2), .val (.int p3), .val (.int p4), .val (.int (0 : Int32)), .val .null, .val (.int (1 : Int32)), .val (.int (1 : Int32)), .val (.int (0 : Int32)), .val (.ref b2), .val (.ref b12), .val (.ref b12), .val .null, .unset, .unset] [.null, (.ref b12), .null, (.ref b32), (.ref b32)])) _
    refine st40.trans ?_
    show Steps p.tables e below (T40.setTop (mkF m 155 #[.val (.int p1), .val (.int p2), .val (.int p3), .val (.int p4), .val (.int (0 : Int32)), .val .null, .val (.int (1 : Int32)), .val (.int (1 : Int32)), .val (.int (0 : Int32)), .val (.ref b2), .val (.ref b12), .val (.ref b12), .val .null, .unset, .unset] [(.ref b32)])) _
    refine XS.astore X40.here hx rfl (hb hby at_155) rfl rfl (l' := #[.val (.int p1), .val (.int p2), .val (.int p3), .val (.int p4), .val (.int (0 : Int32)), .val .null, .val (.int (1 : Int32)), .val (.int (1 : Int32)), .val (.int (0 : Int32)), .val (.ref b2), .val (.ref b12), .val (.ref b12), .val .null, .val (.ref b32), .unset]) rfl ?_
    refine XS.iload X40.here hx rfl (hb hby at_157) rfl ?_
    refine XS.ifYes X40.here hx rfl (pc0 := 159) (pc' := 171) rfl (hb hby at_159) rfl ((if0 _ _).trans (teq (by decide : (0 : Int32) = (0 : Int32))).1) (by decide) (by decide) ?_
    refine XS.iconst X40.here hx rfl (hb hby at_171) ?_
    refine XS.istore X40.here hx rfl (hb hby at_172) rfl (l' := #[.val (.int p1), .val (.int p2), .val (.int p3), .val (.int p4), .val (.int (0 : Int32)), .val .null, .val (.int (1 : Int32)), .val (.int (1 : Int32)), .val (.int (0 : Int32)), .val (.ref b2), .val (.ref b12), .val (.ref b12), .val .null, .val (.ref b32), .val (.int (0 : Int32))]) rfl ?_
    show Steps p.tables e below (T40.setTop (mkF m 174 #[.val (.int p1), .val (.int p2), .val (.int p3), .val (.int p4), .val (.int (0 : Int32)), .val .null, .val (.int (1 : Int32)), .val (.int (1 : Int32)), .val (.int (0 : Int32)), .val (.ref b2), .val (.ref b12), .val (.ref b12), .val .null, .val (.ref b32), .val (.int (0 : Int32))] [])) _
    refine XS.aload X40.here hx rfl (hb hby at_174) rfl rfl ?_
    show Steps p.tables e below (T40.setTop (mkF m 176 #[.val (.int p1), .val (.int p2), .val (.int p3), .val (.int p4), .val (.int (0 : Int32)), .val .null, .val (.int (1 : Int32)), .val (.int (1 : Int32)), .val (.int (0 : Int32)), .val (.ref b2), .val (.ref b12), .val (.ref b12), .val .null, .val (.ref b32), .val (.int (0 : Int32))] [(.ref b32)])) _
    refine st49.trans ?_
    show Steps p.tables e below (T49.setTop (mkF m 179 #[.val (.int p1), .val (.int p2), .val (.int p3), .val (.int p4), .val (.int (0 : Int32)), .val .null, .val (.int (1 : Int32)), .val (.int (1 : Int32)), .val (.int (0 : Int32)), .val (.ref b2), .val (.ref b12), .val (.ref b12), .val .null, .val (.ref b32), .val (.int (0 : Int32))] [(.int (0 : Int32))])) _
    refine XS.iload X49.here hx rfl (hb hby at_179) rfl ?_
    refine XS.icmpNo X49.here hx rfl (hb hby at_181) rfl (teq (by decide : (0 : Int32) = (0 : Int32))).2 ?_
    refine XS.iconst X49.here hx rfl (hb hby at_184) ?_
    refine XS.goto X49.here hx rfl (pc0 := 185) (pc' := 189) rfl (hb hby at_185) (by decide) (by decide) ?_
    show Steps p.tables e below (T49.setTop (mkF m 189 #[.val (.int p1), .val (.int p2), .val (.int p3), .val (.int p4), .val (.int (0 : Int32)), .val .null, .val (.int (1 : Int32)), .val (.int (1 : Int32)), .val (.int (0 : Int32)), .val (.ref b2), .val (.ref b12), .val (.ref b12), .val .null, .val (.ref b32), .val (.int (0 : Int32))] [(.int (1 : Int32))])) _
    exact retN X49 hx (t := .boolean) Bd.returns (by simp) (hb hby at_189) hr
  · show own_Qk (some (.int (1 : Int32))) [] h0 n0 _ T49.heap _
    rw [e49]
    exact ⟨rfl, N49, K40⟩
  · show CHr Z own_EL s.vm s.heap T49.vm T49.heap
    rw [hh, e49]
    exact R40.trans (CHv.at (s := s) (vm0 := T25.vm) X49 hZ25 hEL C40)
set_option maxRecDepth 65536 in
set_option maxHeartbeats 40000000 in
theorem r_law7 (l : Launch) (Z : State) (a0 : Array Value) (hw : ∀ d ∈ tables_1, d.before a0 Z = true) (ws : List Jvm.Cond) (s_L1 s_L4 s_L3 s_L5 s_L2 : Addr) (cs1 : Int32) (h0 : Heap) (n0 : Nat) (O0 : Old Z n0 h0) (G : own_Ctx Z Z.heap s_L1 s_L4 s_L3 s_L5 s_L2 cs1) (hEL : EW Z a0 own_EL) (wS : ∀ a ∈ Bundle.stringAtoms, a.before a0 Z = true) (p1 p2 p3 p4 : Int32) (kk : Int32) (hk : (p1 &&& (2147483647 : Int32)) % (6 : Int32) = kk) (hk1 : kk = (1 : Int32) ∨ kk = (2 : Int32) ∨ kk = (3 : Int32) ∨ kk = (4 : Int32) ∨ kk = (5 : Int32)) (hf0_ : ¬ ((p2 &&& (1 : Int32)) = (0 : Int32))) (hf1_ : ¬ ((p2 &&& (2 : Int32)) = (0 : Int32))) (hf2_ : (p2 &&& (4 : Int32)) = (0 : Int32)) :
    MetFree l x (head1 (Jvm.Cond.code x code maxLocals ret :: ws) room_1) (fun a U => a = #[(.int p1), (.int p2), (.int p3), (.int p4)] ∧ Z.Warmed39 U.vm ∧ U.heap = h0 ∧ CHv Z own_EL U.vm h0) (fun _ _ _ _ _ => True) (fun _ U o U' => ∃ v L, o = .returned v ∧ own_Qk (some (.int (1 : Int32))) [] h0 n0 v U'.heap L ∧ CHr Z own_EL U.vm U.heap U'.vm U'.heap ∧ ReturnedEndW U o U' L 24 1152) := by
  have G0 := G
  obtain ⟨S_L1, E_L1, S_L4, E_L4, S_L3, E_L3, S_L5, E_L5, S_L2, E_L2, S_CS, N_CS⟩ := G
  refine MetFree.of_bodySF (plainFor_of_name pn_0) hisR ?_
  intro p e s m args below meth c s₁ Bd hml0 hP hK
  obtain ⟨rfl, hZ, hh, hC⟩ := hP
  have hx := Bd.exec
  have hby := Bd.bytes
  have hml : c.maxLocals = 15 := hml0
  have hown : s.vm.findClass "com/example/pending_actions/pendingactions/policy/AssessmentIsAutoApprovedPinLaw" = some m.cls := findClass_of_methodNamed Bd.named
  have hnm := (name_of_methodNamed Bd.named Bd.method).1
  have X0 : Stand p l e room_1 (s.setVm s.vm) m #[(.int p1), (.int p2), (.int p3), (.int p4)] below meth c s₁ [] 0 0 := Stand.of_body Bd
  have e0 : s₁.heap = h0 := by rw [← hh, Bd.state]; rfl
  have N0 := Fr.nil n0
  have hS0 : s.Since s.vm h0.size := State.WarmedH.since (State.WarmedH.refl s) _
  have hk0 : h0.size ≤ h0.size := Nat.le_refl _
  have pre0 : ∀ t, Steps p.tables e below (s₁.setTop (mkF m 0 #[.val (.int p1), .val (.int p2), .val (.int p3), .val (.int p4), .unset, .unset, .unset, .unset, .unset, .unset, .unset, .unset, .unset, .unset, .unset] [])) t → Steps p.tables e below (s₁.setTop (entryFrame m #[(.int p1), (.int p2), (.int p3), (.int p4)] maxLocals)) t := fun t k => castTop (ef_0_15 m p1 p2 p3 p4) k
  obtain ⟨_, _, ⟨T1, L1, k1, n1⟩, -, X1, ⟨Lc1, hQ1, l1, y1, z1⟩, st1⟩ := Jvm.LawKit.callS X0 hx (y := (⟨"com/example/pending_actions/pendingactions/policy/AssessmentIsAutoApprovedPinLaw", "pick", "(I)Lcom/example/pending_actions/pendingactions/policy/RiskTier;"⟩ : MethodName)) hown (mvT hZ (hw _ (List.mem_of_getElem? (i := 1) rfl))) (mvT hZ (hw _ (List.mem_of_getElem? (i := 2) rfl))) (mvT hZ (hw _ (List.mem_of_getElem? (i := 3) rfl))) (mvT hZ (hw _ (List.mem_of_getElem? (i := 4) rfl))) (by decide) (backOf (W := 0) (r_tierN l Z a0 hw [] s_L1 s_L4 s_L3 s_L5 s_L2 cs1 h0 n0 O0 G0 kk hk1) hZ (hw _ (List.mem_of_getElem? (i := 4) rfl)) (hw _ (List.mem_of_getElem? (i := 3) rfl)) (by decide) (by decide)) (g := (mkF m 11 #[.val (.int p1), .val (.int p2), .val (.int p3), .val (.int p4), .val (.int kk), .unset, .unset, .unset, .unset, .unset, .unset, .unset, .unset, .unset, .unset] [(.int kk)])) rfl (by rw [hml]; rfl) (argsL := [(.int kk)]) (rest := []) (lenOf pd_4 rfl) rfl (by show 2 * 0 + _ ≤ _; exact Nat.le_of_eq rfl) (hb hby at_11) (fun _ _ => ⟨rfl, e0, (by decide : 0 + 0 ≤ _), (by decide : 0 + 0 ≤ _)⟩)
  dsimp only [Pt.U, Pt.locs, Pt.cells, Pt.slots] at X1 l1 y1 z1 st1 hQ1
  subst l1 y1 z1
  obtain ⟨ta1, rfl, N1q, e1⟩ := hQ1
  have N1 := Fr.app N0 N1q
  obtain ⟨T2, h2, k2, X2, e2, E2, A2, st2⟩ := newP X1 hx hZ (hw _ (List.mem_of_getElem? (i := 5) rfl)) e1 (g := (mkF m 56 #[.val (.int p1), .val (.int p2), .val (.int p3), .val (.int p4), .val (.int kk), .val (.ref ta1), .val (.int (1 : Int32)), .val (.int (1 : Int32)), .val (.int (0 : Int32)), .unset, .unset, .unset, .unset, .unset, .unset] [(.int (2 : Int32))])) rfl (hb hby at_56) rfl (by decide) (cap := 2) (by decide) (by decide) (by decide) (by decide)
  obtain ⟨b2, g2⟩ : ∃ z, z = h0.size := ⟨_, rfl⟩
  have ne_s_L1_b2 : s_L1 ≠ b2 := Nat.ne_of_lt (Nat.lt_of_lt_of_le (E_L1.ext O0.2).lt (Nat.le_of_eq g2.symm))
  have ne_s_L4_b2 : s_L4 ≠ b2 := Nat.ne_of_lt (Nat.lt_of_lt_of_le (E_L4.ext O0.2).lt (Nat.le_of_eq g2.symm))
  have ne_s_L3_b2 : s_L3 ≠ b2 := Nat.ne_of_lt (Nat.lt_of_lt_of_le (E_L3.ext O0.2).lt (Nat.le_of_eq g2.symm))
  have ne_s_L5_b2 : s_L5 ≠ b2 := Nat.ne_of_lt (Nat.lt_of_lt_of_le (E_L5.ext O0.2).lt (Nat.le_of_eq g2.symm))
  have ne_s_L2_b2 : s_L2 ≠ b2 := Nat.ne_of_lt (Nat.lt_of_lt_of_le (E_L2.ext O0.2).lt (Nat.le_of_eq g2.symm))
  have g_b2 : n0 ≤ b2 := Nat.le_trans (O0.1 ▸ O0.2.1) (Nat.le_of_eq g2.symm)
  have sz_b2 : h0.size ≤ b2 := Nat.le_trans (Keep.refl h0 []).1 (Nat.le_of_eq g2.symm)
  have sn2 : Safe Z own_EL s.vm h0 b2 := Safe.new (Nat.le_of_eq g2.symm)
  rw [← g2] at A2 st2
  have O2 := O0.ext E2
  have K2 : Keep h0 h2 [] := (Keep.refl h0 []).ext E2
  have sf3 := Safe.ext E2 hC sn2
  have C2 : CHv Z own_EL s.vm h2 := hC.ext E2
  have R2 : CHr Z own_EL s.vm h0 s.vm h2 := (CHr.refl hC).trans (CHr.ext E2 hC)
  have hk2 := Nat.le_trans hk0 E2.1
  have V2 : Arv Z h2 b2 k2 .char (2 : Int32) [(.int (0 : Int32)), (.int (0 : Int32))] (.int (0 : Int32)) := (Arv.new A2 (by decide)).pad (pad_rep [] (.int (0 : Int32)) 2)
  have vc4 := V2
  obtain ⟨cl4, Ar4, qk4, S4, Nn4, Hs4, Gf4⟩ := vc4
  have hin4 : ¬ ((0 : Int32) < 0 ∨ cl4.slots.size ≤ ((0 : Int32)).toNatClampNeg) := inb_of S4 ⟨by decide, by decide⟩
  obtain ⟨T5, h5, X5, e5, W5, st5⟩ := stC X2 hx hZ e2 Ar4 (j := (0 : Int32)) hin4 (g := (mkF m 69 #[.val (.int p1), .val (.int p2), .val (.int p3), .val (.int p4), .val (.int kk), .val (.ref ta1), .val (.int (1 : Int32)), .val (.int (1 : Int32)), .val (.int (0 : Int32)), .val (.ref b2), .unset, .unset, .unset, .unset, .unset] [(.int ((p3 &&& (255 : Int32)).toUInt32.toUInt16.toUInt32.toInt32)), (.int (0 : Int32)), (.ref b2)])) rfl rfl (hb hby at_69)
  have O5 := O2.wr W5 g_b2
  have K5 : Keep h0 h5 [] := K2.wr W5 (Or.inr sz_b2)
  have N5 := Fr.snoc X5 N1 g_b2
  have sf6 := Safe.wr W5 sf3 C2 sf3
  have C5 : CHv Z own_EL s.vm h5 := C2.wr W5 sf3
  have R5 : CHr Z own_EL s.vm h0 s.vm h5 := R2.trans (CHr.wr W5 sf3 C2)
  have hk5 := Nat.le_trans hk2 (Keep.of_wr W5).1
  have f7 : Arv Z h5 b2 k2 .char (2 : Int32) [(.int (nar .char ((p3 &&& (255 : Int32)).toUInt32.toUInt16.toUInt32.toInt32))), (.int (0 : Int32))] (.int (0 : Int32)) := Arv.set Ar4 qk4 S4 Nn4 Hs4 Gf4 (fits_nar_char _) W5 0 rfl (Nat.le_of_ble_eq_true rfl)
  have vc8 := f7
  obtain ⟨cl8, Ar8, qk8, S8, Nn8, Hs8, Gf8⟩ := vc8
  have hin8 : ¬ ((1 : Int32) < 0 ∨ cl8.slots.size ≤ ((1 : Int32)).toNatClampNeg) := inb_of S8 ⟨by decide, by decide⟩
  obtain ⟨T9, h9, X9, e9, W9, st9⟩ := stC X5 hx hZ e5 Ar8 (j := (1 : Int32)) hin8 (g := (mkF m 79 #[.val (.int p1), .val (.int p2), .val (.int p3), .val (.int p4), .val (.int kk), .val (.ref ta1), .val (.int (1 : Int32)), .val (.int (1 : Int32)), .val (.int (0 : Int32)), .val (.ref b2), .unset, .unset, .unset, .unset, .unset] [(.int ((p4 &&& (255 : Int32)).toUInt32.toUInt16.toUInt32.toInt32)), (.int (1 : Int32)), (.ref b2)])) rfl rfl (hb hby at_79)
  have O9 := O5.wr W9 g_b2
  have K9 : Keep h0 h9 [] := K5.wr W9 (Or.inr sz_b2)
  have N9 := Fr.snoc X9 N5 g_b2
  have sf10 := Safe.wr W9 sf6 C5 sf6
  have C9 : CHv Z own_EL s.vm h9 := C5.wr W9 sf6
  have R9 : CHr Z own_EL s.vm h0 s.vm h9 := R5.trans (CHr.wr W9 sf6 C5)
  have hk9 := Nat.le_trans hk5 (Keep.of_wr W9).1
  have f11 : Arv Z h9 b2 k2 .char (2 : Int32) [(.int (nar .char ((p3 &&& (255 : Int32)).toUInt32.toUInt16.toUInt32.toInt32))), (.int (nar .char ((p4 &&& (255 : Int32)).toUInt32.toUInt16.toUInt32.toInt32)))] (.int (0 : Int32)) := Arv.set Ar8 qk8 S8 Nn8 Hs8 Gf8 (fits_nar_char _) W9 1 rfl (Nat.le_of_ble_eq_true rfl)
  obtain ⟨T12, h12, X12, e12, E12, A12, D12, -, st12⟩ := newO X9 hx hZ hown (hw _ (List.mem_of_getElem? (i := 6) rfl)) (hw _ (List.mem_of_getElem? (i := 7) rfl)) (hw _ (List.mem_of_getElem? (i := 8) rfl)) e9 (g := (mkF m 85 #[.val (.int p1), .val (.int p2), .val (.int p3), .val (.int p4), .val (.int kk), .val (.ref ta1), .val (.int (1 : Int32)), .val (.int (1 : Int32)), .val (.int (0 : Int32)), .val (.ref b2), .unset, .unset, .unset, .unset, .unset] [])) rfl (hb hby at_85) (by decide) (by decide)
  obtain ⟨b12, g12⟩ : ∃ z, z = h9.size := ⟨_, rfl⟩
  have ne_b2_b12 : b2 ≠ b12 := Nat.ne_of_lt (Nat.lt_of_lt_of_le f11.lt (Nat.le_of_eq g12.symm))
  have ne_s_L1_b12 : s_L1 ≠ b12 := Nat.ne_of_lt (Nat.lt_of_lt_of_le (E_L1.ext O9.2).lt (Nat.le_of_eq g12.symm))
  have ne_s_L4_b12 : s_L4 ≠ b12 := Nat.ne_of_lt (Nat.lt_of_lt_of_le (E_L4.ext O9.2).lt (Nat.le_of_eq g12.symm))
  have ne_s_L3_b12 : s_L3 ≠ b12 := Nat.ne_of_lt (Nat.lt_of_lt_of_le (E_L3.ext O9.2).lt (Nat.le_of_eq g12.symm))
  have ne_s_L5_b12 : s_L5 ≠ b12 := Nat.ne_of_lt (Nat.lt_of_lt_of_le (E_L5.ext O9.2).lt (Nat.le_of_eq g12.symm))
  have ne_s_L2_b12 : s_L2 ≠ b12 := Nat.ne_of_lt (Nat.lt_of_lt_of_le (E_L2.ext O9.2).lt (Nat.le_of_eq g12.symm))
  have g_b12 : n0 ≤ b12 := Nat.le_trans (O9.1 ▸ O9.2.1) (Nat.le_of_eq g12.symm)
  have sz_b12 : h0.size ≤ b12 := Nat.le_trans K9.1 (Nat.le_of_eq g12.symm)
  have sn12 : Safe Z own_EL s.vm h9 b12 := Safe.new (Nat.le_of_eq g12.symm)
  rw [← g12] at A12 D12 st12
  have f13 := f11.ext E12
  have O12 := O9.ext E12
  have K12 : Keep h0 h12 [] := K9.ext E12
  have sf14 := Safe.ext E12 C9 sf10
  have sf15 := Safe.ext E12 C9 sn12
  have C12 : CHv Z own_EL s.vm h12 := C9.ext E12
  have R12 : CHr Z own_EL s.vm h0 s.vm h12 := R9.trans (CHr.ext E12 C9)
  have hk12 := Nat.le_trans hk9 E12.1
  have F12_21 : Fld Z h12 b12 "java/lang/String" "value" "[B" .null := D12 (Or.inr (hw _ (List.mem_of_getElem? (i := 21) rfl))) (ty := (.array .byte)) (by decide)
  have F12_22 : Fld Z h12 b12 "java/lang/String" "coder" "B" (.int (0 : Int32)) := D12 (Or.inr (hw _ (List.mem_of_getElem? (i := 22) rfl))) (ty := .byte) (by decide)
  obtain ⟨T16, h16, k16, X16, e16, E16, A16, st16⟩ := newP X12 hx hZ (hw _ (List.mem_of_getElem? (i := 5) rfl)) e12 (g := (mkF m 90 #[.val (.int p1), .val (.int p2), .val (.int p3), .val (.int p4), .val (.int kk), .val (.ref ta1), .val (.int (1 : Int32)), .val (.int (1 : Int32)), .val (.int (0 : Int32)), .val (.ref b2), .unset, .unset, .unset, .unset, .unset] [(.int (0 : Int32)), (.ref b12), (.ref b12)])) rfl (hb hby at_90) rfl (by decide) (cap := 0) (by decide) (by decide) (by decide) (by decide)
  obtain ⟨b16, g16⟩ : ∃ z, z = h12.size := ⟨_, rfl⟩
  have ne_b2_b16 : b2 ≠ b16 := Nat.ne_of_lt (Nat.lt_of_lt_of_le f13.lt (Nat.le_of_eq g16.symm))
  have ne_b12_b16 : b12 ≠ b16 := Nat.ne_of_lt (Nat.lt_of_lt_of_le A12.lt (Nat.le_of_eq g16.symm))
  have ne_s_L1_b16 : s_L1 ≠ b16 := Nat.ne_of_lt (Nat.lt_of_lt_of_le (E_L1.ext O12.2).lt (Nat.le_of_eq g16.symm))
  have ne_s_L4_b16 : s_L4 ≠ b16 := Nat.ne_of_lt (Nat.lt_of_lt_of_le (E_L4.ext O12.2).lt (Nat.le_of_eq g16.symm))
  have ne_s_L3_b16 : s_L3 ≠ b16 := Nat.ne_of_lt (Nat.lt_of_lt_of_le (E_L3.ext O12.2).lt (Nat.le_of_eq g16.symm))
  have ne_s_L5_b16 : s_L5 ≠ b16 := Nat.ne_of_lt (Nat.lt_of_lt_of_le (E_L5.ext O12.2).lt (Nat.le_of_eq g16.symm))
  have ne_s_L2_b16 : s_L2 ≠ b16 := Nat.ne_of_lt (Nat.lt_of_lt_of_le (E_L2.ext O12.2).lt (Nat.le_of_eq g16.symm))
  have g_b16 : n0 ≤ b16 := Nat.le_trans (O12.1 ▸ O12.2.1) (Nat.le_of_eq g16.symm)
  have sz_b16 : h0.size ≤ b16 := Nat.le_trans K12.1 (Nat.le_of_eq g16.symm)
  have sn16 : Safe Z own_EL s.vm h12 b16 := Safe.new (Nat.le_of_eq g16.symm)
  rw [← g16] at A16 st16
  have f17 := f13.ext E16
  have f18 := A12.ext E16
  have f19 := F12_21.ext E16
  have f20 := F12_22.ext E16
  have O16 := O12.ext E16
  have K16 : Keep h0 h16 [] := K12.ext E16
  have sf21 := Safe.ext E16 C12 sf14
  have sf22 := Safe.ext E16 C12 sf15
  have sf23 := Safe.ext E16 C12 sn16
  have C16 : CHv Z own_EL s.vm h16 := C12.ext E16
  have R16 : CHr Z own_EL s.vm h0 s.vm h16 := R12.trans (CHr.ext E16 C12)
  have hk16 := Nat.le_trans hk12 E16.1
  have V16 : Arv Z h16 b16 k16 .char (0 : Int32) [] (.int (0 : Int32)) := Arv.new A16 (by decide)
  obtain ⟨LL24, X24, N24⟩ : ∃ LL, Stand p l e room_1 (s.setVm s.vm) m #[(.int p1), (.int p2), (.int p3), (.int p4)] below meth c T16 LL 3 6 ∧ Fr n0 LL := ⟨_, X16, N9⟩
  obtain ⟨_, _, ⟨T25, L25, k25, n25⟩, -, X25, S25a, z25a, ⟨Lc25, hQ25, l25, y25, z25, R25q⟩, st25⟩ := X24.specialBackS hx (y := (⟨"java/lang/String", "<init>", "([C)V"⟩ : MethodName)) rfl hown (mvT hZ (hw _ (List.mem_of_getElem? (i := 9) rfl))) (mvT hZ (hw _ (List.mem_of_getElem? (i := 10) rfl))) (mvT hZ (hw _ (List.mem_of_getElem? (i := 11) rfl))) (by decide) (backOfSH (s := s) (vm0 := s.vm) (EL := own_EL) (W := 1) (r_s0 l Z a0 hw [] s_L1 s_L4 s_L3 s_L5 s_L2 cs1 h16 n0 O16 G0 hEL wS b12 b16 k16 f18 g_b12 f20 f19 V16 (Ne.symm ne_b12_b16)) hZ (hw _ (List.mem_of_getElem? (i := 11) rfl)) (hw _ (List.mem_of_getElem? (i := 8) rfl)) (by decide) (by decide) hEL C16) (g := (mkF m 92 #[.val (.int p1), .val (.int p2), .val (.int p3), .val (.int p4), .val (.int kk), .val (.ref ta1), .val (.int (1 : Int32)), .val (.int (1 : Int32)), .val (.int (0 : Int32)), .val (.ref b2), .unset, .unset, .unset, .unset, .unset] [(.ref b16), (.ref b12), (.ref b12)])) rfl (by rw [hml]; rfl) (Steps.refl _) (a := b12) (argsL := [(.ref b16)]) (rest := [(.ref b12)]) (lenOf pd_5 rfl) rfl (by show 2 * 0 + _ ≤ _; exact Nat.le_of_eq rfl) (hb hby at_92) (fun _ _ => ⟨rfl, e16, (by decide : 3 + 2 ≤ _), (by decide : 6 + 4 ≤ _)⟩)
  dsimp only [Pt.U, Pt.locs, Pt.cells, Pt.slots] at X25 S25a z25a l25 y25 z25 st25 hQ25 R25q
  subst l25 y25 z25
  have X25 : Stand p l e room_1 (s.setVm T25.vm) m #[(.int p1), (.int p2), (.int p3), (.int p4)] below meth c T25 _ _ _ := X25
  have S25f : s.Since T25.vm T25.heap.size := foldS (T := T16) hS0 (by rw [e16]; exact hk16) S25a z25a
  have hZ25 : Z.Warmed39 T25.vm := State.Warmed39.trans (t := s.setVm s.vm) hZ S25a.1
  have hown25 : (s.setVm T25.vm).vm.findClass "com/example/pending_actions/pendingactions/policy/AssessmentIsAutoApprovedPinLaw" = some m.cls := by rw [show (s.setVm T25.vm).vm = T25.vm from rfl, S25a.1.alike.findClass]; exact hown
  obtain ⟨rfl, N25q, Kq25⟩ := hQ25
  have N25 := Fr.app N24 N25q
  have f26 := f17.keep Kq25 (fun q => (List.mem_cons.mp q).elim ne_b2_b12 (fun q => nomatch q))
  have f27 := f18.keep Kq25
  have f28 := V16.keep Kq25 (fun q => (List.mem_cons.mp q).elim (Ne.symm ne_b12_b16) (fun q => nomatch q))
  have O25 := O16.keep Kq25 (allS g_b12 all0)
  have K25 : Keep h0 T25.heap [] := K16.trans Kq25 (allS (Or.inr sz_b12) all0)
  have sf29 := R25q.safe f17.lt sf21
  have sf30 := R25q.safe f18.lt sf22
  have sf31 := R25q.safe V16.lt sf23
  have R25 : CHr Z own_EL s.vm h0 T25.vm T25.heap := R16.trans R25q
  have C25 := R25q.1
  obtain ⟨T32, h32, X32, e32, E32, A32, D32, -, st32⟩ := newO X25 hx hZ25 hown25 (hw _ (List.mem_of_getElem? (i := 27) rfl)) (hw _ (List.mem_of_getElem? (i := 28) rfl)) (hw _ (List.mem_of_getElem? (i := 29) rfl)) rfl (g := (mkF m 142 #[.val (.int p1), .val (.int p2), .val (.int p3), .val (.int p4), .val (.int kk), .val (.ref ta1), .val (.int (1 : Int32)), .val (.int (1 : Int32)), .val (.int (0 : Int32)), .val (.ref b2), .val (.ref b12), .val (.ref b12), .val .null, .unset, .unset] [])) rfl (hb hby at_142) (by decide) (by decide)
  obtain ⟨b32, g32⟩ : ∃ z, z = T25.heap.size := ⟨_, rfl⟩
  have ne_b2_b32 : b2 ≠ b32 := Nat.ne_of_lt (Nat.lt_of_lt_of_le f26.lt (Nat.le_of_eq g32.symm))
  have ne_b12_b32 : b12 ≠ b32 := Nat.ne_of_lt (Nat.lt_of_lt_of_le f27.lt (Nat.le_of_eq g32.symm))
  have ne_b16_b32 : b16 ≠ b32 := Nat.ne_of_lt (Nat.lt_of_lt_of_le f28.lt (Nat.le_of_eq g32.symm))
  have ne_s_L1_b32 : s_L1 ≠ b32 := Nat.ne_of_lt (Nat.lt_of_lt_of_le (E_L1.ext O25.2).lt (Nat.le_of_eq g32.symm))
  have ne_s_L4_b32 : s_L4 ≠ b32 := Nat.ne_of_lt (Nat.lt_of_lt_of_le (E_L4.ext O25.2).lt (Nat.le_of_eq g32.symm))
  have ne_s_L3_b32 : s_L3 ≠ b32 := Nat.ne_of_lt (Nat.lt_of_lt_of_le (E_L3.ext O25.2).lt (Nat.le_of_eq g32.symm))
  have ne_s_L5_b32 : s_L5 ≠ b32 := Nat.ne_of_lt (Nat.lt_of_lt_of_le (E_L5.ext O25.2).lt (Nat.le_of_eq g32.symm))
  have ne_s_L2_b32 : s_L2 ≠ b32 := Nat.ne_of_lt (Nat.lt_of_lt_of_le (E_L2.ext O25.2).lt (Nat.le_of_eq g32.symm))
  have g_b32 : n0 ≤ b32 := Nat.le_trans (O25.1 ▸ O25.2.1) (Nat.le_of_eq g32.symm)
  have sz_b32 : h0.size ≤ b32 := Nat.le_trans K25.1 (Nat.le_of_eq g32.symm)
  have sn32 : Safe Z own_EL T25.vm T25.heap b32 := Safe.new (Nat.le_of_eq g32.symm)
  rw [← g32] at A32 D32 st32
  have f33 := f26.ext E32
  have f34 := f27.ext E32
  have f35 := f28.ext E32
  have O32 := O25.ext E32
  have K32 : Keep h0 h32 [] := K25.ext E32
  have sf36 := Safe.ext E32 C25 sf29
  have sf37 := Safe.ext E32 C25 sf30
  have sf38 := Safe.ext E32 C25 sf31
  have sf39 := Safe.ext E32 C25 sn32
  have C32 : CHv Z own_EL T25.vm h32 := C25.ext E32
  have R32 : CHr Z own_EL s.vm h0 T25.vm h32 := R25.trans (CHr.ext E32 C25)
  have hk32 := Nat.le_trans (Nat.le_refl _) E32.1
  have F32_35 : Fld Z h32 b32 "com/example/pending_actions/pendingactions/policy/Assessment" "tier" "Lcom/example/pending_actions/pendingactions/policy/RiskTier;" .null := D32 (Or.inr (hw _ (List.mem_of_getElem? (i := 35) rfl))) (ty := (.object "com/example/pending_actions/pendingactions/policy/RiskTier")) (by decide)
  have F32_37 : Fld Z h32 b32 "com/example/pending_actions/pendingactions/policy/Assessment" "decider" "Ljava/lang/String;" .null := D32 (Or.inr (hw _ (List.mem_of_getElem? (i := 37) rfl))) (ty := (.object "java/lang/String")) (by decide)
  have F32_39 : Fld Z h32 b32 "com/example/pending_actions/pendingactions/policy/Assessment" "policyVersion" "Ljava/lang/String;" .null := D32 (Or.inr (hw _ (List.mem_of_getElem? (i := 39) rfl))) (ty := (.object "java/lang/String")) (by decide)
  obtain ⟨_, _, ⟨T40, L40, k40, n40⟩, -, X40, ⟨Lc40, hQ40, l40, y40, z40⟩, st40⟩ := X32.specialBack hx (y := (⟨"com/example/pending_actions/pendingactions/policy/Assessment", "<init>", "(Lcom/example/pending_actions/pendingactions/policy/RiskTier;Ljava/lang/String;Ljava/lang/String;)V"⟩ : MethodName)) rfl hown25 (mvT hZ25 (hw _ (List.mem_of_getElem? (i := 30) rfl))) (mvT hZ25 (hw _ (List.mem_of_getElem? (i := 31) rfl))) (mvT hZ25 (hw _ (List.mem_of_getElem? (i := 32) rfl))) (by decide) (backOf (W := 1) (r_ai3 l Z a0 hw [] s_L1 s_L4 s_L3 s_L5 s_L2 cs1 h32 n0 O32 G0 b32 ta1 b12 A32 g_b32 F32_35 F32_37 F32_39) hZ25 (hw _ (List.mem_of_getElem? (i := 32) rfl)) (hw _ (List.mem_of_getElem? (i := 29) rfl)) (by decide) (by decide)) (g := (mkF m 152 #[.val (.int p1), .val (.int p2), .val (.int p3), .val (.int p4), .val (.int kk), .val (.ref ta1), .val (.int (1 : Int32)), .val (.int (1 : Int32)), .val (.int (0 : Int32)), .val (.ref b2), .val (.ref b12), .val (.ref b12), .val .null, .unset, .unset] [.null, (.ref b12), (.ref ta1), (.ref b32), (.ref b32)])) rfl (by rw [hml]; rfl) (Steps.refl _) (a := b32) (argsL := [(.ref ta1), (.ref b12), .null]) (rest := [(.ref b32)]) (lenOf pd_6 rfl) rfl (by show 2 * 0 + _ ≤ _; exact Nat.le_of_eq rfl) (hb hby at_152) (fun _ _ => ⟨rfl, e32, (by decide : 6 + 0 ≤ _), (by decide : 13 + 0 ≤ _)⟩)
  dsimp only [Pt.U, Pt.locs, Pt.cells, Pt.slots] at X40 l40 y40 z40 st40 hQ40
  subst l40 y40 z40
  obtain ⟨rfl, N40q, Kq40, Ft40, Fd40⟩ := hQ40
  have N40 := Fr.app N25 N40q
  have f41 := f33.keep Kq40 (fun q => (List.mem_cons.mp q).elim ne_b2_b32 (fun q => nomatch q))
  have f42 := f34.keep Kq40
  have f43 := f35.keep Kq40 (fun q => (List.mem_cons.mp q).elim ne_b16_b32 (fun q => nomatch q))
  have f44 := A32.keep Kq40
  have O40 := O32.keep Kq40 (allS g_b32 all0)
  have K40 : Keep h0 T40.heap [] := K32.trans Kq40 (allS (Or.inr sz_b32) all0)
  have sf45 := Safe.keep Kq40 (sfS sf39 sf0) C32 sf36
  have sf46 := Safe.keep Kq40 (sfS sf39 sf0) C32 sf37
  have sf47 := Safe.keep Kq40 (sfS sf39 sf0) C32 sf38
  have sf48 := Safe.keep Kq40 (sfS sf39 sf0) C32 sf39
  have C40 : CHv Z own_EL T25.vm T40.heap := C32.keep Kq40 (sfS sf39 sf0)
  have R40 : CHr Z own_EL s.vm h0 T25.vm T40.heap := R32.trans (CHr.keep Kq40 (sfS sf39 sf0) C32)
  have hk40 := Nat.le_trans hk32 Kq40.1
  obtain ⟨cq49, kq49, q49a, q49b, q49c⟩ := isOf hZ25 rfl f44
  obtain ⟨_, _, ⟨T49, L49, k49, n49⟩, -, X49, ⟨Lc49, hQ49, l49, y49, z49⟩, st49⟩ := X40.virtualBack hx (y := (⟨"com/example/pending_actions/pendingactions/policy/Assessment", "isAutoApproved", "()Z"⟩ : MethodName)) (z := (⟨"com/example/pending_actions/pendingactions/policy/Assessment", "isAutoApproved", "()Z"⟩ : MethodName)) hown25 (mvT hZ25 (hw _ (List.mem_of_getElem? (i := 40) rfl))) (mvT hZ25 (hw _ (List.mem_of_getElem? (i := 41) rfl))) (notFace_of_selects (args := #[]) (mvT hZ25 (hw _ (List.mem_of_getElem? (i := 43) rfl)))) (mvT hZ25 (hw _ (List.mem_of_getElem? (i := 43) rfl))) (mvT hZ25 (hw _ (List.mem_of_getElem? (i := 42) rfl))) (by decide) (backOf (W := 0) (r_aa3 l Z a0 hw [] s_L1 s_L4 s_L3 s_L5 s_L2 cs1 T40.heap n0 O40 G0 b32 ta1 b12 Ft40 Fd40) hZ25 (hw _ (List.mem_of_getElem? (i := 44) rfl)) (hw _ (List.mem_of_getElem? (i := 29) rfl)) (by decide) (by decide)) q49a q49c (g := (mkF m 176 #[.val (.int p1), .val (.int p2), .val (.int p3), .val (.int p4), .val (.int kk), .val (.ref ta1), .val (.int (1 : Int32)), .val (.int (1 : Int32)), .val (.int (0 : Int32)), .val (.ref b2), .val (.ref b12), .val (.ref b12), .val .null, .val (.ref b32), .val (.int (1 : Int32))] [(.ref b32)])) rfl (by rw [hml]; rfl) (Steps.refl _) (argsL := []) (rest := []) (lenOf pd_7 rfl) rfl (by show 2 * 0 + _ ≤ _; exact Nat.le_of_eq rfl) (hb hby at_176) (fun _ _ => ⟨rfl, rfl, (by decide : 6 + 0 ≤ _), (by decide : 13 + 0 ≤ _)⟩)
  dsimp only [Pt.U, Pt.locs, Pt.cells, Pt.slots] at X49 l49 y49 z49 st49 hQ49
  subst l49 y49 z49
  obtain ⟨rfl, N49q, e49⟩ := hQ49
  have N49 := Fr.app N40 N49q
  obtain ⟨fs, hr, hrun, hended, hRW⟩ := X49.leaveW S25f (by rw [e49]; exact hk40) (v := some (.int (1 : Int32))) (fun h => by rw [Bd.returns] at h; cases h)
  refine ⟨_, _, pre0 _ ?_, hrun, hended, _, _, rfl, ?_, ?_, hRW.1, hRW.2.1, hRW.2.2.1, hRW.2.2.2.mono (by decide) (by decide)⟩
  · show Steps p.tables e below (s₁.setTop (mkF m 0 #[.val (.int p1), .val (.int p2), .val (.int p3), .val (.int p4), .unset, .unset, .unset, .unset, .unset, .unset, .unset, .unset, .unset, .unset, .unset] [])) _
    refine XS.iloadN X0.here hx rfl (hb hby at_0) rfl ?_
    show Steps p.tables e below (s₁.setTop (mkF m 1 #[.val (.int p1), .val (.int p2), .val (.int p3), .val (.int p4), .unset, .unset, .unset, .unset, .unset, .unset, .unset, .unset, .unset, .unset, .unset] [(.int p1)])) _
    refine X0.ldcInt hx hown (mvT hZ (hw _ (List.mem_of_getElem? (i := 0) rfl))) (g := (mkF m 1 #[.val (.int p1), .val (.int p2), .val (.int p3), .val (.int p4), .unset, .unset, .unset, .unset, .unset, .unset, .unset, .unset, .unset, .unset, .unset] [(.int p1)])) rfl (hb hby at_1) _ ?_
    show Steps p.tables e below (s₁.setTop (mkF m 3 #[.val (.int p1), .val (.int p2), .val (.int p3), .val (.int p4), .unset, .unset, .unset, .unset, .unset, .unset, .unset, .unset, .unset, .unset, .unset] [(.int (2147483647 : Int32)), (.int p1)])) _
    refine XS.iand X0.here hx rfl (hb hby at_3) rfl ?_
    refine XS.bipush X0.here hx rfl (hb hby at_4) ?_
    show Steps p.tables e below (s₁.setTop (mkF m 6 #[.val (.int p1), .val (.int p2), .val (.int p3), .val (.int p4), .unset, .unset, .unset, .unset, .unset, .unset, .unset, .unset, .unset, .unset, .unset] [(.int (6 : Int32)), (.int (p1 &&& (2147483647 : Int32)))])) _
    refine iremM X0 hx rfl (hb hby at_6) rfl (by decide) ?_
    show Steps p.tables e below (s₁.setTop (mkF m 7 #[.val (.int p1), .val (.int p2), .val (.int p3), .val (.int p4), .unset, .unset, .unset, .unset, .unset, .unset, .unset, .unset, .unset, .unset, .unset] [(.int ((p1 &&& (2147483647 : Int32)) % (6 : Int32)))])) _
    rw [hk]
    show Steps p.tables e below (s₁.setTop (mkF m 7 #[.val (.int p1), .val (.int p2), .val (.int p3), .val (.int p4), .unset, .unset, .unset, .unset, .unset, .unset, .unset, .unset, .unset, .unset, .unset] [(.int kk)])) _
    refine XS.istore X0.here hx rfl (hb hby at_7) rfl (l' := #[.val (.int p1), .val (.int p2), .val (.int p3), .val (.int p4), .val (.int kk), .unset, .unset, .unset, .unset, .unset, .unset, .unset, .unset, .unset, .unset]) rfl ?_
    refine XS.iload X0.here hx rfl (hb hby at_9) rfl ?_
    show Steps p.tables e below (s₁.setTop (mkF m 11 #[.val (.int p1), .val (.int p2), .val (.int p3), .val (.int p4), .val (.int kk), .unset, .unset, .unset, .unset, .unset, .unset, .unset, .unset, .unset, .unset] [(.int kk)])) _
    refine st1 _ ?_
    show Steps p.tables e below (T1.setTop (mkF m 14 #[.val (.int p1), .val (.int p2), .val (.int p3), .val (.int p4), .val (.int kk), .unset, .unset, .unset, .unset, .unset, .unset, .unset, .unset, .unset, .unset] [(.ref ta1)])) _
    refine XS.astore X1.here hx rfl (hb hby at_14) rfl rfl (l' := #[.val (.int p1), .val (.int p2), .val (.int p3), .val (.int p4), .val (.int kk), .val (.ref ta1), .unset, .unset, .unset, .unset, .unset, .unset, .unset, .unset, .unset]) rfl ?_
    refine XS.iloadN X1.here hx rfl (hb hby at_16) rfl ?_
    refine XS.iconst X1.here hx rfl (hb hby at_17) ?_
    refine XS.iand X1.here hx rfl (hb hby at_18) rfl ?_
    refine XS.ifNo X1.here hx rfl (hb hby at_19) rfl ((if0 _ _).trans (feq (hf0_ : ¬ ((p2 &&& (1 : Int32)) = (0 : Int32)))).1) ?_
    show Steps p.tables e below (T1.setTop (mkF m 22 #[.val (.int p1), .val (.int p2), .val (.int p3), .val (.int p4), .val (.int kk), .val (.ref ta1), .unset, .unset, .unset, .unset, .unset, .unset, .unset, .unset, .unset] [])) _
    refine XS.iconst X1.here hx rfl (hb hby at_22) ?_
    refine XS.goto X1.here hx rfl (pc0 := 23) (pc' := 27) rfl (hb hby at_23) (by decide) (by decide) ?_
    refine XS.istore X1.here hx rfl (hb hby at_27) rfl (l' := #[.val (.int p1), .val (.int p2), .val (.int p3), .val (.int p4), .val (.int kk), .val (.ref ta1), .val (.int (1 : Int32)), .unset, .unset, .unset, .unset, .unset, .unset, .unset, .unset]) rfl ?_
    refine XS.iloadN X1.here hx rfl (hb hby at_29) rfl ?_
    refine XS.iconst X1.here hx rfl (hb hby at_30) ?_
    show Steps p.tables e below (T1.setTop (mkF m 31 #[.val (.int p1), .val (.int p2), .val (.int p3), .val (.int p4), .val (.int kk), .val (.ref ta1), .val (.int (1 : Int32)), .unset, .unset, .unset, .unset, .unset, .unset, .unset, .unset] [(.int (2 : Int32)), (.int p2)])) _
    refine XS.iand X1.here hx rfl (hb hby at_31) rfl ?_
    refine XS.ifNo X1.here hx rfl (hb hby at_32) rfl ((if0 _ _).trans (feq (hf1_ : ¬ ((p2 &&& (2 : Int32)) = (0 : Int32)))).1) ?_
    refine XS.iconst X1.here hx rfl (hb hby at_35) ?_
    refine XS.goto X1.here hx rfl (pc0 := 36) (pc' := 40) rfl (hb hby at_36) (by decide) (by decide) ?_
    refine XS.istore X1.here hx rfl (hb hby at_40) rfl (l' := #[.val (.int p1), .val (.int p2), .val (.int p3), .val (.int p4), .val (.int kk), .val (.ref ta1), .val (.int (1 : Int32)), .val (.int (1 : Int32)), .unset, .unset, .unset, .unset, .unset, .unset, .unset]) rfl ?_
    show Steps p.tables e below (T1.setTop (mkF m 42 #[.val (.int p1), .val (.int p2), .val (.int p3), .val (.int p4), .val (.int kk), .val (.ref ta1), .val (.int (1 : Int32)), .val (.int (1 : Int32)), .unset, .unset, .unset, .unset, .unset, .unset, .unset] [])) _
    refine XS.iloadN X1.here hx rfl (hb hby at_42) rfl ?_
    refine XS.iconst X1.here hx rfl (hb hby at_43) ?_
    refine XS.iand X1.here hx rfl (hb hby at_44) rfl ?_
    refine XS.ifYes X1.here hx rfl (pc0 := 45) (pc' := 52) rfl (hb hby at_45) rfl ((if0 _ _).trans (teq (hf2_ : (p2 &&& (4 : Int32)) = (0 : Int32))).1) (by decide) (by decide) ?_
    refine XS.iconst X1.here hx rfl (hb hby at_52) ?_
    show Steps p.tables e below (T1.setTop (mkF m 53 #[.val (.int p1), .val (.int p2), .val (.int p3), .val (.int p4), .val (.int kk), .val (.ref ta1), .val (.int (1 : Int32)), .val (.int (1 : Int32)), .unset, .unset, .unset, .unset, .unset, .unset, .unset] [(.int (0 : Int32))])) _
    refine XS.istore X1.here hx rfl (hb hby at_53) rfl (l' := #[.val (.int p1), .val (.int p2), .val (.int p3), .val (.int p4), .val (.int kk), .val (.ref ta1), .val (.int (1 : Int32)), .val (.int (1 : Int32)), .val (.int (0 : Int32)), .unset, .unset, .unset, .unset, .unset, .unset]) rfl ?_
    refine XS.iconst X1.here hx rfl (hb hby at_55) ?_
    show Steps p.tables e below (T1.setTop (mkF m 56 #[.val (.int p1), .val (.int p2), .val (.int p3), .val (.int p4), .val (.int kk), .val (.ref ta1), .val (.int (1 : Int32)), .val (.int (1 : Int32)), .val (.int (0 : Int32)), .unset, .unset, .unset, .unset, .unset, .unset] [(.int (2 : Int32))])) _
    refine st2 _ ?_
    show Steps p.tables e below (T2.setTop (mkF m 58 #[.val (.int p1), .val (.int p2), .val (.int p3), .val (.int p4), .val (.int kk), .val (.ref ta1), .val (.int (1 : Int32)), .val (.int (1 : Int32)), .val (.int (0 : Int32)), .unset, .unset, .unset, .unset, .unset, .unset] [(.ref b2)])) _
    refine XS.astore X2.here hx rfl (hb hby at_58) rfl rfl (l' := #[.val (.int p1), .val (.int p2), .val (.int p3), .val (.int p4), .val (.int kk), .val (.ref ta1), .val (.int (1 : Int32)), .val (.int (1 : Int32)), .val (.int (0 : Int32)), .val (.ref b2), .unset, .unset, .unset, .unset, .unset]) rfl ?_
    refine XS.aload X2.here hx rfl (hb hby at_60) rfl rfl ?_
    refine XS.iconst X2.here hx rfl (hb hby at_62) ?_
    refine XS.iloadN X2.here hx rfl (hb hby at_63) rfl ?_
    refine XS.sipush X2.here hx rfl (hb hby at_64) ?_
    show Steps p.tables e below (T2.setTop (mkF m 67 #[.val (.int p1), .val (.int p2), .val (.int p3), .val (.int p4), .val (.int kk), .val (.ref ta1), .val (.int (1 : Int32)), .val (.int (1 : Int32)), .val (.int (0 : Int32)), .val (.ref b2), .unset, .unset, .unset, .unset, .unset] [(.int (255 : Int32)), (.int p3), (.int (0 : Int32)), (.ref b2)])) _
    refine XS.iand X2.here hx rfl (hb hby at_67) rfl ?_
    refine XS.i2c X2.here hx rfl (hb hby at_68) rfl ?_
    show Steps p.tables e below (T2.setTop (mkF m 69 #[.val (.int p1), .val (.int p2), .val (.int p3), .val (.int p4), .val (.int kk), .val (.ref ta1), .val (.int (1 : Int32)), .val (.int (1 : Int32)), .val (.int (0 : Int32)), .val (.ref b2), .unset, .unset, .unset, .unset, .unset] [(.int ((p3 &&& (255 : Int32)).toUInt32.toUInt16.toUInt32.toInt32)), (.int (0 : Int32)), (.ref b2)])) _
    refine st5 _ ?_
    show Steps p.tables e below (T5.setTop (mkF m 70 #[.val (.int p1), .val (.int p2), .val (.int p3), .val (.int p4), .val (.int kk), .val (.ref ta1), .val (.int (1 : Int32)), .val (.int (1 : Int32)), .val (.int (0 : Int32)), .val (.ref b2), .unset, .unset, .unset, .unset, .unset] [])) _
    refine XS.aload X5.here hx rfl (hb hby at_70) rfl rfl ?_
    refine XS.iconst X5.here hx rfl (hb hby at_72) ?_
    refine XS.iloadN X5.here hx rfl (hb hby at_73) rfl ?_
    refine XS.sipush X5.here hx rfl (hb hby at_74) ?_
    refine XS.iand X5.here hx rfl (hb hby at_77) rfl ?_
    show Steps p.tables e below (T5.setTop (mkF m 78 #[.val (.int p1), .val (.int p2), .val (.int p3), .val (.int p4), .val (.int kk), .val (.ref ta1), .val (.int (1 : Int32)), .val (.int (1 : Int32)), .val (.int (0 : Int32)), .val (.ref b2), .unset, .unset, .unset, .unset, .unset] [(.int (p4 &&& (255 : Int32))), (.int (1 : Int32)), (.ref b2)])) _
    refine XS.i2c X5.here hx rfl (hb hby at_78) rfl ?_
    show Steps p.tables e below (T5.setTop (mkF m 79 #[.val (.int p1), .val (.int p2), .val (.int p3), .val (.int p4), .val (.int kk), .val (.ref ta1), .val (.int (1 : Int32)), .val (.int (1 : Int32)), .val (.int (0 : Int32)), .val (.ref b2), .unset, .unset, .unset, .unset, .unset] [(.int ((p4 &&& (255 : Int32)).toUInt32.toUInt16.toUInt32.toInt32)), (.int (1 : Int32)), (.ref b2)])) _
    refine st9 _ ?_
    show Steps p.tables e below (T9.setTop (mkF m 80 #[.val (.int p1), .val (.int p2), .val (.int p3), .val (.int p4), .val (.int kk), .val (.ref ta1), .val (.int (1 : Int32)), .val (.int (1 : Int32)), .val (.int (0 : Int32)), .val (.ref b2), .unset, .unset, .unset, .unset, .unset] [])) _
    refine XS.iload X9.here hx rfl (hb hby at_80) rfl ?_
    refine XS.ifNo X9.here hx rfl (hb hby at_82) rfl ((if0 _ _).trans (feq (by decide : ¬ ((1 : Int32) = (0 : Int32)))).1) ?_
    show Steps p.tables e below (T9.setTop (mkF m 85 #[.val (.int p1), .val (.int p2), .val (.int p3), .val (.int p4), .val (.int kk), .val (.ref ta1), .val (.int (1 : Int32)), .val (.int (1 : Int32)), .val (.int (0 : Int32)), .val (.ref b2), .unset, .unset, .unset, .unset, .unset] [])) _
    refine st12 _ ?_
    show Steps p.tables e below (T12.setTop (mkF m 88 #[.val (.int p1), .val (.int p2), .val (.int p3), .val (.int p4), .val (.int kk), .val (.ref ta1), .val (.int (1 : Int32)), .val (.int (1 : Int32)), .val (.int (0 : Int32)), .val (.ref b2), .unset, .unset, .unset, .unset, .unset] [(.ref b12)])) _
    refine XS.dup X12.here hx rfl (hb hby at_88) rfl rfl ?_
    refine XS.iconst X12.here hx rfl (hb hby at_89) ?_
    show Steps p.tables e below (T12.setTop (mkF m 90 #[.val (.int p1), .val (.int p2), .val (.int p3), .val (.int p4), .val (.int kk), .val (.ref ta1), .val (.int (1 : Int32)), .val (.int (1 : Int32)), .val (.int (0 : Int32)), .val (.ref b2), .unset, .unset, .unset, .unset, .unset] [(.int (0 : Int32)), (.ref b12), (.ref b12)])) _
    refine st16 _ ?_
    show Steps p.tables e below (T16.setTop (mkF m 92 #[.val (.int p1), .val (.int p2), .val (.int p3), .val (.int p4), .val (.int kk), .val (.ref ta1), .val (.int (1 : Int32)), .val (.int (1 : Int32)), .val (.int (0 : Int32)), .val (.ref b2), .unset, .unset, .unset, .unset, .unset] [(.ref b16), (.ref b12), (.ref b12)])) _
    refine st25.trans ?_
    show Steps p.tables e below (T25.setTop (mkF m 95 #[.val (.int p1), .val (.int p2), .val (.int p3), .val (.int p4), .val (.int kk), .val (.ref ta1), .val (.int (1 : Int32)), .val (.int (1 : Int32)), .val (.int (0 : Int32)), .val (.ref b2), .unset, .unset, .unset, .unset, .unset] [(.ref b12)])) _
    refine XS.goto X25.here hx rfl (pc0 := 95) (pc' := 107) rfl (hb hby at_95) (by decide) (by decide) ?_
    refine XS.astore X25.here hx rfl (hb hby at_107) rfl rfl (l' := #[.val (.int p1), .val (.int p2), .val (.int p3), .val (.int p4), .val (.int kk), .val (.ref ta1), .val (.int (1 : Int32)), .val (.int (1 : Int32)), .val (.int (0 : Int32)), .val (.ref b2), .val (.ref b12), .unset, .unset, .unset, .unset]) rfl ?_
    refine XS.iload X25.here hx rfl (hb hby at_109) rfl ?_
    refine XS.ifNo X25.here hx rfl (hb hby at_111) rfl ((if0 _ _).trans (feq (by decide : ¬ ((1 : Int32) = (0 : Int32)))).1) ?_
    refine XS.aload X25.here hx rfl (hb hby at_114) rfl rfl ?_
    show Steps p.tables e below (T25.setTop (mkF m 116 #[.val (.int p1), .val (.int p2), .val (.int p3), .val (.int p4), .val (.int kk), .val (.ref ta1), .val (.int (1 : Int32)), .val (.int (1 : Int32)), .val (.int (0 : Int32)), .val (.ref b2), .val (.ref b12), .unset, .unset, .unset, .unset] [(.ref b12)])) _
    refine XS.goto X25.here hx rfl (pc0 := 116) (pc' := 120) rfl (hb hby at_116) (by decide) (by decide) ?_
    refine XS.astore X25.here hx rfl (hb hby at_120) rfl rfl (l' := #[.val (.int p1), .val (.int p2), .val (.int p3), .val (.int p4), .val (.int kk), .val (.ref ta1), .val (.int (1 : Int32)), .val (.int (1 : Int32)), .val (.int (0 : Int32)), .val (.ref b2), .val (.ref b12), .val (.ref b12), .unset, .unset, .unset]) rfl ?_
    refine XS.iload X25.here hx rfl (hb hby at_122) rfl ?_
    refine XS.ifYes X25.here hx rfl (pc0 := 124) (pc' := 139) rfl (hb hby at_124) rfl ((if0 _ _).trans (teq (by decide : (0 : Int32) = (0 : Int32))).1) (by decide) (by decide) ?_
    refine XS.aconstNull X25.here hx rfl (hb hby at_139) ?_
    show Steps p.tables e below (T25.setTop (mkF m 140 #[.val (.int p1), .val (.int p2), .val (.int p3), .val (.int p4), .val (.int kk), .val (.ref ta1), .val (.int (1 : Int32)), .val (.int (1 : Int32)), .val (.int (0 : Int32)), .val (.ref b2), .val (.ref b12), .val (.ref b12), .unset, .unset, .unset] [.null])) _
    refine XS.astore X25.here hx rfl (hb hby at_140) rfl rfl (l' := #[.val (.int p1), .val (.int p2), .val (.int p3), .val (.int p4), .val (.int kk), .val (.ref ta1), .val (.int (1 : Int32)), .val (.int (1 : Int32)), .val (.int (0 : Int32)), .val (.ref b2), .val (.ref b12), .val (.ref b12), .val .null, .unset, .unset]) rfl ?_
    show Steps p.tables e below (T25.setTop (mkF m 142 #[.val (.int p1), .val (.int p2), .val (.int p3), .val (.int p4), .val (.int kk), .val (.ref ta1), .val (.int (1 : Int32)), .val (.int (1 : Int32)), .val (.int (0 : Int32)), .val (.ref b2), .val (.ref b12), .val (.ref b12), .val .null, .unset, .unset] [])) _
    refine st32 _ ?_
    show Steps p.tables e below (T32.setTop (mkF m 145 #[.val (.int p1), .val (.int p2), .val (.int p3), .val (.int p4), .val (.int kk), .val (.ref ta1), .val (.int (1 : Int32)), .val (.int (1 : Int32)), .val (.int (0 : Int32)), .val (.ref b2), .val (.ref b12), .val (.ref b12), .val .null, .unset, .unset] [(.ref b32)])) _
    refine XS.dup X32.here hx rfl (hb hby at_145) rfl rfl ?_
    refine XS.aload X32.here hx rfl (hb hby at_146) rfl rfl ?_
    refine XS.aload X32.here hx rfl (hb hby at_148) rfl rfl ?_
    refine XS.aload X32.here hx rfl (hb hby at_150) rfl rfl ?_
    show Steps p.tables e below (T32.setTop (mkF m 152 #[.val (.int p1), .val (.int p2), .val (.int p3), .val (.int p4), .val (.int kk), .val (.ref ta1), .val (.int (1 : Int32)), .val (.int (1 : Int32)), .val (.int (0 : Int32)), .val (.ref b2), .val (.ref b12), .val (.ref b12), .val .null, .unset, .unset] [.null, (.ref b12), (.ref ta1), (.ref b32), (.ref b32)])) _
    refine st40.trans ?_
    show Steps p.tables e below (T40.setTop (mkF m 155 #[.val (.int p1), .val (.int p2), .val (.int p3), .val (.int p4), .val (.int kk), .val (.ref ta1), .val (.int (1 : Int32)), .val (.int (1 : Int32)), .val (.int (0 : Int32)), .val (.ref b2), .val (.ref b12), .val (.ref b12), .val .null, .unset, .unset] [(.ref b32)])) _
    refine XS.astore X40.here hx rfl (hb hby at_155) rfl rfl (l' := #[.val (.int p1), .val (.int p2), .val (.int p3), .val (.int p4), .val (.int kk), .val (.ref ta1), .val (.int (1 : Int32)), .val (.int (1 : Int32)), .val (.int (0 : Int32)), .val (.ref b2), .val (.ref b12), .val (.ref b12), .val .null, .val (.ref b32), .unset]) rfl ?_
    refine XS.iload X40.here hx rfl (hb hby at_157) rfl ?_
    refine XS.ifNo X40.here hx rfl (hb hby at_159) rfl ((if0 _ _).trans (feq ((by rcases hk1 with h | h | h | h | h <;> rw [h] <;> decide) : ¬ (kk = (0 : Int32)))).1) ?_
    refine XS.iload X40.here hx rfl (hb hby at_162) rfl ?_
    refine XS.ifNo X40.here hx rfl (hb hby at_164) rfl ((if0 _ _).trans (feq (by decide : ¬ ((1 : Int32) = (0 : Int32)))).1) ?_
    show Steps p.tables e below (T40.setTop (mkF m 167 #[.val (.int p1), .val (.int p2), .val (.int p3), .val (.int p4), .val (.int kk), .val (.ref ta1), .val (.int (1 : Int32)), .val (.int (1 : Int32)), .val (.int (0 : Int32)), .val (.ref b2), .val (.ref b12), .val (.ref b12), .val .null, .val (.ref b32), .unset] [])) _
    refine XS.iconst X40.here hx rfl (hb hby at_167) ?_
    refine XS.goto X40.here hx rfl (pc0 := 168) (pc' := 172) rfl (hb hby at_168) (by decide) (by decide) ?_
    refine XS.istore X40.here hx rfl (hb hby at_172) rfl (l' := #[.val (.int p1), .val (.int p2), .val (.int p3), .val (.int p4), .val (.int kk), .val (.ref ta1), .val (.int (1 : Int32)), .val (.int (1 : Int32)), .val (.int (0 : Int32)), .val (.ref b2), .val (.ref b12), .val (.ref b12), .val .null, .val (.ref b32), .val (.int (1 : Int32))]) rfl ?_
    refine XS.aload X40.here hx rfl (hb hby at_174) rfl rfl ?_
    show Steps p.tables e below (T40.setTop (mkF m 176 #[.val (.int p1), .val (.int p2), .val (.int p3), .val (.int p4), .val (.int kk), .val (.ref ta1), .val (.int (1 : Int32)), .val (.int (1 : Int32)), .val (.int (0 : Int32)), .val (.ref b2), .val (.ref b12), .val (.ref b12), .val .null, .val (.ref b32), .val (.int (1 : Int32))] [(.ref b32)])) _
    refine st49.trans ?_
    show Steps p.tables e below (T49.setTop (mkF m 179 #[.val (.int p1), .val (.int p2), .val (.int p3), .val (.int p4), .val (.int kk), .val (.ref ta1), .val (.int (1 : Int32)), .val (.int (1 : Int32)), .val (.int (0 : Int32)), .val (.ref b2), .val (.ref b12), .val (.ref b12), .val .null, .val (.ref b32), .val (.int (1 : Int32))] [(.int (1 : Int32))])) _
    refine XS.iload X49.here hx rfl (hb hby at_179) rfl ?_
    refine XS.icmpNo X49.here hx rfl (hb hby at_181) rfl (teq (by decide : (1 : Int32) = (1 : Int32))).2 ?_
    refine XS.iconst X49.here hx rfl (hb hby at_184) ?_
    refine XS.goto X49.here hx rfl (pc0 := 185) (pc' := 189) rfl (hb hby at_185) (by decide) (by decide) ?_
    show Steps p.tables e below (T49.setTop (mkF m 189 #[.val (.int p1), .val (.int p2), .val (.int p3), .val (.int p4), .val (.int kk), .val (.ref ta1), .val (.int (1 : Int32)), .val (.int (1 : Int32)), .val (.int (0 : Int32)), .val (.ref b2), .val (.ref b12), .val (.ref b12), .val .null, .val (.ref b32), .val (.int (1 : Int32))] [(.int (1 : Int32))])) _
    exact retN X49 hx (t := .boolean) Bd.returns (by simp) (hb hby at_189) hr
  · show own_Qk (some (.int (1 : Int32))) [] h0 n0 _ T49.heap _
    rw [e49]
    exact ⟨rfl, N49, K40⟩
  · show CHr Z own_EL s.vm s.heap T49.vm T49.heap
    rw [hh, e49]
    exact R40.trans (CHv.at (s := s) (vm0 := T25.vm) X49 hZ25 hEL C40)
set_option maxRecDepth 65536 in
set_option maxHeartbeats 40000000 in
theorem r_law8 (l : Launch) (Z : State) (a0 : Array Value) (hw : ∀ d ∈ tables_1, d.before a0 Z = true) (ws : List Jvm.Cond) (s_L1 s_L4 s_L3 s_L5 s_L2 : Addr) (cs1 : Int32) (h0 : Heap) (n0 : Nat) (O0 : Old Z n0 h0) (G : own_Ctx Z Z.heap s_L1 s_L4 s_L3 s_L5 s_L2 cs1) (hEL : EW Z a0 own_EL) (wS : ∀ a ∈ Bundle.stringAtoms, a.before a0 Z = true) (p1 p2 p3 p4 : Int32) (hk : (p1 &&& (2147483647 : Int32)) % (6 : Int32) = (0 : Int32)) (hf0_ : (p2 &&& (1 : Int32)) = (0 : Int32)) (hf1_ : (p2 &&& (2 : Int32)) = (0 : Int32)) (hf2_ : ¬ ((p2 &&& (4 : Int32)) = (0 : Int32))) :
    MetFree l x (head1 (Jvm.Cond.code x code maxLocals ret :: ws) room_1) (fun a U => a = #[(.int p1), (.int p2), (.int p3), (.int p4)] ∧ Z.Warmed39 U.vm ∧ U.heap = h0 ∧ CHv Z own_EL U.vm h0) (fun _ _ _ _ _ => True) (fun _ U o U' => ∃ v L, o = .returned v ∧ own_Qk (some (.int (1 : Int32))) [] h0 n0 v U'.heap L ∧ CHr Z own_EL U.vm U.heap U'.vm U'.heap ∧ ReturnedEndW U o U' L 24 1152) := by
  have G0 := G
  obtain ⟨S_L1, E_L1, S_L4, E_L4, S_L3, E_L3, S_L5, E_L5, S_L2, E_L2, S_CS, N_CS⟩ := G
  refine MetFree.of_bodySF (plainFor_of_name pn_0) hisR ?_
  intro p e s m args below meth c s₁ Bd hml0 hP hK
  obtain ⟨rfl, hZ, hh, hC⟩ := hP
  have hx := Bd.exec
  have hby := Bd.bytes
  have hml : c.maxLocals = 15 := hml0
  have hown : s.vm.findClass "com/example/pending_actions/pendingactions/policy/AssessmentIsAutoApprovedPinLaw" = some m.cls := findClass_of_methodNamed Bd.named
  have hnm := (name_of_methodNamed Bd.named Bd.method).1
  have X0 : Stand p l e room_1 (s.setVm s.vm) m #[(.int p1), (.int p2), (.int p3), (.int p4)] below meth c s₁ [] 0 0 := Stand.of_body Bd
  have e0 : s₁.heap = h0 := by rw [← hh, Bd.state]; rfl
  have N0 := Fr.nil n0
  have hS0 : s.Since s.vm h0.size := State.WarmedH.since (State.WarmedH.refl s) _
  have hk0 : h0.size ≤ h0.size := Nat.le_refl _
  have pre0 : ∀ t, Steps p.tables e below (s₁.setTop (mkF m 0 #[.val (.int p1), .val (.int p2), .val (.int p3), .val (.int p4), .unset, .unset, .unset, .unset, .unset, .unset, .unset, .unset, .unset, .unset, .unset] [])) t → Steps p.tables e below (s₁.setTop (entryFrame m #[(.int p1), (.int p2), (.int p3), (.int p4)] maxLocals)) t := fun t k => castTop (ef_0_15 m p1 p2 p3 p4) k
  obtain ⟨_, _, ⟨T1, L1, k1, n1⟩, -, X1, ⟨Lc1, hQ1, l1, y1, z1⟩, st1⟩ := Jvm.LawKit.callS X0 hx (y := (⟨"com/example/pending_actions/pendingactions/policy/AssessmentIsAutoApprovedPinLaw", "pick", "(I)Lcom/example/pending_actions/pendingactions/policy/RiskTier;"⟩ : MethodName)) hown (mvT hZ (hw _ (List.mem_of_getElem? (i := 1) rfl))) (mvT hZ (hw _ (List.mem_of_getElem? (i := 2) rfl))) (mvT hZ (hw _ (List.mem_of_getElem? (i := 3) rfl))) (mvT hZ (hw _ (List.mem_of_getElem? (i := 4) rfl))) (by decide) (backOf (W := 0) (r_tier_0 l Z a0 hw [] s_L1 s_L4 s_L3 s_L5 s_L2 cs1 h0 n0 O0 G0) hZ (hw _ (List.mem_of_getElem? (i := 4) rfl)) (hw _ (List.mem_of_getElem? (i := 3) rfl)) (by decide) (by decide)) (g := (mkF m 11 #[.val (.int p1), .val (.int p2), .val (.int p3), .val (.int p4), .val (.int (0 : Int32)), .unset, .unset, .unset, .unset, .unset, .unset, .unset, .unset, .unset, .unset] [(.int (0 : Int32))])) rfl (by rw [hml]; rfl) (argsL := [(.int (0 : Int32))]) (rest := []) (lenOf pd_4 rfl) rfl (by show 2 * 0 + _ ≤ _; exact Nat.le_of_eq rfl) (hb hby at_11) (fun _ _ => ⟨rfl, e0, (by decide : 0 + 0 ≤ _), (by decide : 0 + 0 ≤ _)⟩)
  dsimp only [Pt.U, Pt.locs, Pt.cells, Pt.slots] at X1 l1 y1 z1 st1 hQ1
  subst l1 y1 z1
  obtain ⟨rfl, N1q, e1⟩ := hQ1
  have N1 := Fr.app N0 N1q
  obtain ⟨T2, h2, k2, X2, e2, E2, A2, st2⟩ := newP X1 hx hZ (hw _ (List.mem_of_getElem? (i := 5) rfl)) e1 (g := (mkF m 56 #[.val (.int p1), .val (.int p2), .val (.int p3), .val (.int p4), .val (.int (0 : Int32)), .val .null, .val (.int (0 : Int32)), .val (.int (0 : Int32)), .val (.int (1 : Int32)), .unset, .unset, .unset, .unset, .unset, .unset] [(.int (2 : Int32))])) rfl (hb hby at_56) rfl (by decide) (cap := 2) (by decide) (by decide) (by decide) (by decide)
  obtain ⟨b2, g2⟩ : ∃ z, z = h0.size := ⟨_, rfl⟩
  have ne_s_L1_b2 : s_L1 ≠ b2 := Nat.ne_of_lt (Nat.lt_of_lt_of_le (E_L1.ext O0.2).lt (Nat.le_of_eq g2.symm))
  have ne_s_L4_b2 : s_L4 ≠ b2 := Nat.ne_of_lt (Nat.lt_of_lt_of_le (E_L4.ext O0.2).lt (Nat.le_of_eq g2.symm))
  have ne_s_L3_b2 : s_L3 ≠ b2 := Nat.ne_of_lt (Nat.lt_of_lt_of_le (E_L3.ext O0.2).lt (Nat.le_of_eq g2.symm))
  have ne_s_L5_b2 : s_L5 ≠ b2 := Nat.ne_of_lt (Nat.lt_of_lt_of_le (E_L5.ext O0.2).lt (Nat.le_of_eq g2.symm))
  have ne_s_L2_b2 : s_L2 ≠ b2 := Nat.ne_of_lt (Nat.lt_of_lt_of_le (E_L2.ext O0.2).lt (Nat.le_of_eq g2.symm))
  have g_b2 : n0 ≤ b2 := Nat.le_trans (O0.1 ▸ O0.2.1) (Nat.le_of_eq g2.symm)
  have sz_b2 : h0.size ≤ b2 := Nat.le_trans (Keep.refl h0 []).1 (Nat.le_of_eq g2.symm)
  have sn2 : Safe Z own_EL s.vm h0 b2 := Safe.new (Nat.le_of_eq g2.symm)
  rw [← g2] at A2 st2
  have O2 := O0.ext E2
  have K2 : Keep h0 h2 [] := (Keep.refl h0 []).ext E2
  have sf3 := Safe.ext E2 hC sn2
  have C2 : CHv Z own_EL s.vm h2 := hC.ext E2
  have R2 : CHr Z own_EL s.vm h0 s.vm h2 := (CHr.refl hC).trans (CHr.ext E2 hC)
  have hk2 := Nat.le_trans hk0 E2.1
  have V2 : Arv Z h2 b2 k2 .char (2 : Int32) [(.int (0 : Int32)), (.int (0 : Int32))] (.int (0 : Int32)) := (Arv.new A2 (by decide)).pad (pad_rep [] (.int (0 : Int32)) 2)
  have vc4 := V2
  obtain ⟨cl4, Ar4, qk4, S4, Nn4, Hs4, Gf4⟩ := vc4
  have hin4 : ¬ ((0 : Int32) < 0 ∨ cl4.slots.size ≤ ((0 : Int32)).toNatClampNeg) := inb_of S4 ⟨by decide, by decide⟩
  obtain ⟨T5, h5, X5, e5, W5, st5⟩ := stC X2 hx hZ e2 Ar4 (j := (0 : Int32)) hin4 (g := (mkF m 69 #[.val (.int p1), .val (.int p2), .val (.int p3), .val (.int p4), .val (.int (0 : Int32)), .val .null, .val (.int (0 : Int32)), .val (.int (0 : Int32)), .val (.int (1 : Int32)), .val (.ref b2), .unset, .unset, .unset, .unset, .unset] [(.int ((p3 &&& (255 : Int32)).toUInt32.toUInt16.toUInt32.toInt32)), (.int (0 : Int32)), (.ref b2)])) rfl rfl (hb hby at_69)
  have O5 := O2.wr W5 g_b2
  have K5 : Keep h0 h5 [] := K2.wr W5 (Or.inr sz_b2)
  have N5 := Fr.snoc X5 N1 g_b2
  have sf6 := Safe.wr W5 sf3 C2 sf3
  have C5 : CHv Z own_EL s.vm h5 := C2.wr W5 sf3
  have R5 : CHr Z own_EL s.vm h0 s.vm h5 := R2.trans (CHr.wr W5 sf3 C2)
  have hk5 := Nat.le_trans hk2 (Keep.of_wr W5).1
  have f7 : Arv Z h5 b2 k2 .char (2 : Int32) [(.int (nar .char ((p3 &&& (255 : Int32)).toUInt32.toUInt16.toUInt32.toInt32))), (.int (0 : Int32))] (.int (0 : Int32)) := Arv.set Ar4 qk4 S4 Nn4 Hs4 Gf4 (fits_nar_char _) W5 0 rfl (Nat.le_of_ble_eq_true rfl)
  have vc8 := f7
  obtain ⟨cl8, Ar8, qk8, S8, Nn8, Hs8, Gf8⟩ := vc8
  have hin8 : ¬ ((1 : Int32) < 0 ∨ cl8.slots.size ≤ ((1 : Int32)).toNatClampNeg) := inb_of S8 ⟨by decide, by decide⟩
  obtain ⟨T9, h9, X9, e9, W9, st9⟩ := stC X5 hx hZ e5 Ar8 (j := (1 : Int32)) hin8 (g := (mkF m 79 #[.val (.int p1), .val (.int p2), .val (.int p3), .val (.int p4), .val (.int (0 : Int32)), .val .null, .val (.int (0 : Int32)), .val (.int (0 : Int32)), .val (.int (1 : Int32)), .val (.ref b2), .unset, .unset, .unset, .unset, .unset] [(.int ((p4 &&& (255 : Int32)).toUInt32.toUInt16.toUInt32.toInt32)), (.int (1 : Int32)), (.ref b2)])) rfl rfl (hb hby at_79)
  have O9 := O5.wr W9 g_b2
  have K9 : Keep h0 h9 [] := K5.wr W9 (Or.inr sz_b2)
  have N9 := Fr.snoc X9 N5 g_b2
  have sf10 := Safe.wr W9 sf6 C5 sf6
  have C9 : CHv Z own_EL s.vm h9 := C5.wr W9 sf6
  have R9 : CHr Z own_EL s.vm h0 s.vm h9 := R5.trans (CHr.wr W9 sf6 C5)
  have hk9 := Nat.le_trans hk5 (Keep.of_wr W9).1
  have f11 : Arv Z h9 b2 k2 .char (2 : Int32) [(.int (nar .char ((p3 &&& (255 : Int32)).toUInt32.toUInt16.toUInt32.toInt32))), (.int (nar .char ((p4 &&& (255 : Int32)).toUInt32.toUInt16.toUInt32.toInt32)))] (.int (0 : Int32)) := Arv.set Ar8 qk8 S8 Nn8 Hs8 Gf8 (fits_nar_char _) W9 1 rfl (Nat.le_of_ble_eq_true rfl)
  obtain ⟨T12, h12, X12, e12, E12, A12, D12, -, st12⟩ := newO X9 hx hZ hown (hw _ (List.mem_of_getElem? (i := 6) rfl)) (hw _ (List.mem_of_getElem? (i := 7) rfl)) (hw _ (List.mem_of_getElem? (i := 8) rfl)) e9 (g := (mkF m 98 #[.val (.int p1), .val (.int p2), .val (.int p3), .val (.int p4), .val (.int (0 : Int32)), .val .null, .val (.int (0 : Int32)), .val (.int (0 : Int32)), .val (.int (1 : Int32)), .val (.ref b2), .unset, .unset, .unset, .unset, .unset] [])) rfl (hb hby at_98) (by decide) (by decide)
  obtain ⟨b12, g12⟩ : ∃ z, z = h9.size := ⟨_, rfl⟩
  have ne_b2_b12 : b2 ≠ b12 := Nat.ne_of_lt (Nat.lt_of_lt_of_le f11.lt (Nat.le_of_eq g12.symm))
  have ne_s_L1_b12 : s_L1 ≠ b12 := Nat.ne_of_lt (Nat.lt_of_lt_of_le (E_L1.ext O9.2).lt (Nat.le_of_eq g12.symm))
  have ne_s_L4_b12 : s_L4 ≠ b12 := Nat.ne_of_lt (Nat.lt_of_lt_of_le (E_L4.ext O9.2).lt (Nat.le_of_eq g12.symm))
  have ne_s_L3_b12 : s_L3 ≠ b12 := Nat.ne_of_lt (Nat.lt_of_lt_of_le (E_L3.ext O9.2).lt (Nat.le_of_eq g12.symm))
  have ne_s_L5_b12 : s_L5 ≠ b12 := Nat.ne_of_lt (Nat.lt_of_lt_of_le (E_L5.ext O9.2).lt (Nat.le_of_eq g12.symm))
  have ne_s_L2_b12 : s_L2 ≠ b12 := Nat.ne_of_lt (Nat.lt_of_lt_of_le (E_L2.ext O9.2).lt (Nat.le_of_eq g12.symm))
  have g_b12 : n0 ≤ b12 := Nat.le_trans (O9.1 ▸ O9.2.1) (Nat.le_of_eq g12.symm)
  have sz_b12 : h0.size ≤ b12 := Nat.le_trans K9.1 (Nat.le_of_eq g12.symm)
  have sn12 : Safe Z own_EL s.vm h9 b12 := Safe.new (Nat.le_of_eq g12.symm)
  rw [← g12] at A12 D12 st12
  have f13 := f11.ext E12
  have O12 := O9.ext E12
  have K12 : Keep h0 h12 [] := K9.ext E12
  have sf14 := Safe.ext E12 C9 sf10
  have sf15 := Safe.ext E12 C9 sn12
  have C12 : CHv Z own_EL s.vm h12 := C9.ext E12
  have R12 : CHr Z own_EL s.vm h0 s.vm h12 := R9.trans (CHr.ext E12 C9)
  have hk12 := Nat.le_trans hk9 E12.1
  have F12_21 : Fld Z h12 b12 "java/lang/String" "value" "[B" .null := D12 (Or.inr (hw _ (List.mem_of_getElem? (i := 21) rfl))) (ty := (.array .byte)) (by decide)
  have F12_22 : Fld Z h12 b12 "java/lang/String" "coder" "B" (.int (0 : Int32)) := D12 (Or.inr (hw _ (List.mem_of_getElem? (i := 22) rfl))) (ty := .byte) (by decide)
  obtain ⟨LL16, X16, N16⟩ : ∃ LL, Stand p l e room_1 (s.setVm s.vm) m #[(.int p1), (.int p2), (.int p3), (.int p4)] below meth c T12 LL 2 6 ∧ Fr n0 LL := ⟨_, X12, N9⟩
  obtain ⟨_, _, ⟨T17, L17, k17, n17⟩, -, X17, ⟨Lc17, hQ17, l17, y17, z17⟩, st17⟩ := X16.specialBack hx (y := (⟨"java/lang/String", "<init>", "([C)V"⟩ : MethodName)) rfl hown (mvT hZ (hw _ (List.mem_of_getElem? (i := 9) rfl))) (mvT hZ (hw _ (List.mem_of_getElem? (i := 10) rfl))) (mvT hZ (hw _ (List.mem_of_getElem? (i := 11) rfl))) (by decide) (backOf (W := 1) (r_s2 l Z a0 hw [] s_L1 s_L4 s_L3 s_L5 s_L2 cs1 h12 n0 O12 G0 b12 b2 k2 (nar .char ((p3 &&& (255 : Int32)).toUInt32.toUInt16.toUInt32.toInt32)) (nar .char ((p4 &&& (255 : Int32)).toUInt32.toUInt16.toUInt32.toInt32)) A12 g_b12 F12_22 F12_21 f13 (own_ch _) (own_ch _) ne_b2_b12) hZ (hw _ (List.mem_of_getElem? (i := 11) rfl)) (hw _ (List.mem_of_getElem? (i := 8) rfl)) (by decide) (by decide)) (g := (mkF m 104 #[.val (.int p1), .val (.int p2), .val (.int p3), .val (.int p4), .val (.int (0 : Int32)), .val .null, .val (.int (0 : Int32)), .val (.int (0 : Int32)), .val (.int (1 : Int32)), .val (.ref b2), .unset, .unset, .unset, .unset, .unset] [(.ref b2), (.ref b12), (.ref b12)])) rfl (by rw [hml]; rfl) (Steps.refl _) (a := b12) (argsL := [(.ref b2)]) (rest := [(.ref b12)]) (lenOf pd_5 rfl) rfl (by show 2 * 0 + _ ≤ _; exact Nat.le_of_eq rfl) (hb hby at_104) (fun _ _ => ⟨rfl, e12, (by decide : 2 + 1 ≤ _), (by decide : 6 + 2 ≤ _)⟩)
  dsimp only [Pt.U, Pt.locs, Pt.cells, Pt.slots] at X17 l17 y17 z17 st17 hQ17
  subst l17 y17 z17
  obtain ⟨rfl, N17q, Kq17⟩ := hQ17
  have N17 := Fr.app N16 N17q
  have f18 := f13.keep Kq17 (fun q => (List.mem_cons.mp q).elim ne_b2_b12 (fun q => nomatch q))
  have f19 := A12.keep Kq17
  have O17 := O12.keep Kq17 (allS g_b12 all0)
  have K17 : Keep h0 T17.heap [] := K12.trans Kq17 (allS (Or.inr sz_b12) all0)
  have sf20 := Safe.keep Kq17 (sfS sf15 sf0) C12 sf14
  have sf21 := Safe.keep Kq17 (sfS sf15 sf0) C12 sf15
  have C17 : CHv Z own_EL s.vm T17.heap := C12.keep Kq17 (sfS sf15 sf0)
  have R17 : CHr Z own_EL s.vm h0 s.vm T17.heap := R12.trans (CHr.keep Kq17 (sfS sf15 sf0) C12)
  have hk17 := Nat.le_trans hk12 Kq17.1
  obtain ⟨T22, h22, X22, e22, E22, A22, D22, -, st22⟩ := newO X17 hx hZ hown (hw _ (List.mem_of_getElem? (i := 6) rfl)) (hw _ (List.mem_of_getElem? (i := 7) rfl)) (hw _ (List.mem_of_getElem? (i := 8) rfl)) rfl (g := (mkF m 127 #[.val (.int p1), .val (.int p2), .val (.int p3), .val (.int p4), .val (.int (0 : Int32)), .val .null, .val (.int (0 : Int32)), .val (.int (0 : Int32)), .val (.int (1 : Int32)), .val (.ref b2), .val (.ref b12), .val .null, .unset, .unset, .unset] [])) rfl (hb hby at_127) (by decide) (by decide)
  obtain ⟨b22, g22⟩ : ∃ z, z = T17.heap.size := ⟨_, rfl⟩
  have ne_b2_b22 : b2 ≠ b22 := Nat.ne_of_lt (Nat.lt_of_lt_of_le f18.lt (Nat.le_of_eq g22.symm))
  have ne_b12_b22 : b12 ≠ b22 := Nat.ne_of_lt (Nat.lt_of_lt_of_le f19.lt (Nat.le_of_eq g22.symm))
  have ne_s_L1_b22 : s_L1 ≠ b22 := Nat.ne_of_lt (Nat.lt_of_lt_of_le (E_L1.ext O17.2).lt (Nat.le_of_eq g22.symm))
  have ne_s_L4_b22 : s_L4 ≠ b22 := Nat.ne_of_lt (Nat.lt_of_lt_of_le (E_L4.ext O17.2).lt (Nat.le_of_eq g22.symm))
  have ne_s_L3_b22 : s_L3 ≠ b22 := Nat.ne_of_lt (Nat.lt_of_lt_of_le (E_L3.ext O17.2).lt (Nat.le_of_eq g22.symm))
  have ne_s_L5_b22 : s_L5 ≠ b22 := Nat.ne_of_lt (Nat.lt_of_lt_of_le (E_L5.ext O17.2).lt (Nat.le_of_eq g22.symm))
  have ne_s_L2_b22 : s_L2 ≠ b22 := Nat.ne_of_lt (Nat.lt_of_lt_of_le (E_L2.ext O17.2).lt (Nat.le_of_eq g22.symm))
  have g_b22 : n0 ≤ b22 := Nat.le_trans (O17.1 ▸ O17.2.1) (Nat.le_of_eq g22.symm)
  have sz_b22 : h0.size ≤ b22 := Nat.le_trans K17.1 (Nat.le_of_eq g22.symm)
  have sn22 : Safe Z own_EL s.vm T17.heap b22 := Safe.new (Nat.le_of_eq g22.symm)
  rw [← g22] at A22 D22 st22
  have f23 := f18.ext E22
  have f24 := f19.ext E22
  have O22 := O17.ext E22
  have K22 : Keep h0 h22 [] := K17.ext E22
  have sf25 := Safe.ext E22 C17 sf20
  have sf26 := Safe.ext E22 C17 sf21
  have sf27 := Safe.ext E22 C17 sn22
  have C22 : CHv Z own_EL s.vm h22 := C17.ext E22
  have R22 : CHr Z own_EL s.vm h0 s.vm h22 := R17.trans (CHr.ext E22 C17)
  have hk22 := Nat.le_trans hk17 E22.1
  have F22_21 : Fld Z h22 b22 "java/lang/String" "value" "[B" .null := D22 (Or.inr (hw _ (List.mem_of_getElem? (i := 21) rfl))) (ty := (.array .byte)) (by decide)
  have F22_22 : Fld Z h22 b22 "java/lang/String" "coder" "B" (.int (0 : Int32)) := D22 (Or.inr (hw _ (List.mem_of_getElem? (i := 22) rfl))) (ty := .byte) (by decide)
  obtain ⟨_, _, ⟨T28, L28, k28, n28⟩, -, X28, ⟨Lc28, hQ28, l28, y28, z28⟩, st28⟩ := X22.specialBack hx (y := (⟨"java/lang/String", "<init>", "([C)V"⟩ : MethodName)) rfl hown (mvT hZ (hw _ (List.mem_of_getElem? (i := 9) rfl))) (mvT hZ (hw _ (List.mem_of_getElem? (i := 10) rfl))) (mvT hZ (hw _ (List.mem_of_getElem? (i := 11) rfl))) (by decide) (backOf (W := 1) (r_s2 l Z a0 hw [] s_L1 s_L4 s_L3 s_L5 s_L2 cs1 h22 n0 O22 G0 b22 b2 k2 (nar .char ((p3 &&& (255 : Int32)).toUInt32.toUInt16.toUInt32.toInt32)) (nar .char ((p4 &&& (255 : Int32)).toUInt32.toUInt16.toUInt32.toInt32)) A22 g_b22 F22_22 F22_21 f23 (own_ch _) (own_ch _) ne_b2_b22) hZ (hw _ (List.mem_of_getElem? (i := 11) rfl)) (hw _ (List.mem_of_getElem? (i := 8) rfl)) (by decide) (by decide)) (g := (mkF m 133 #[.val (.int p1), .val (.int p2), .val (.int p3), .val (.int p4), .val (.int (0 : Int32)), .val .null, .val (.int (0 : Int32)), .val (.int (0 : Int32)), .val (.int (1 : Int32)), .val (.ref b2), .val (.ref b12), .val .null, .unset, .unset, .unset] [(.ref b2), (.ref b22), (.ref b22)])) rfl (by rw [hml]; rfl) (Steps.refl _) (a := b22) (argsL := [(.ref b2)]) (rest := [(.ref b22)]) (lenOf pd_5 rfl) rfl (by show 2 * 0 + _ ≤ _; exact Nat.le_of_eq rfl) (hb hby at_133) (fun _ _ => ⟨rfl, e22, (by decide : 4 + 1 ≤ _), (by decide : 12 + 2 ≤ _)⟩)
  dsimp only [Pt.U, Pt.locs, Pt.cells, Pt.slots] at X28 l28 y28 z28 st28 hQ28
  subst l28 y28 z28
  obtain ⟨rfl, N28q, Kq28⟩ := hQ28
  have N28 := Fr.app N17 N28q
  have f29 := f23.keep Kq28 (fun q => (List.mem_cons.mp q).elim ne_b2_b22 (fun q => nomatch q))
  have f30 := f24.keep Kq28
  have f31 := A22.keep Kq28
  have O28 := O22.keep Kq28 (allS g_b22 all0)
  have K28 : Keep h0 T28.heap [] := K22.trans Kq28 (allS (Or.inr sz_b22) all0)
  have sf32 := Safe.keep Kq28 (sfS sf27 sf0) C22 sf25
  have sf33 := Safe.keep Kq28 (sfS sf27 sf0) C22 sf26
  have sf34 := Safe.keep Kq28 (sfS sf27 sf0) C22 sf27
  have C28 : CHv Z own_EL s.vm T28.heap := C22.keep Kq28 (sfS sf27 sf0)
  have R28 : CHr Z own_EL s.vm h0 s.vm T28.heap := R22.trans (CHr.keep Kq28 (sfS sf27 sf0) C22)
  have hk28 := Nat.le_trans hk22 Kq28.1
  obtain ⟨T35, h35, X35, e35, E35, A35, D35, -, st35⟩ := newO X28 hx hZ hown (hw _ (List.mem_of_getElem? (i := 27) rfl)) (hw _ (List.mem_of_getElem? (i := 28) rfl)) (hw _ (List.mem_of_getElem? (i := 29) rfl)) rfl (g := (mkF m 142 #[.val (.int p1), .val (.int p2), .val (.int p3), .val (.int p4), .val (.int (0 : Int32)), .val .null, .val (.int (0 : Int32)), .val (.int (0 : Int32)), .val (.int (1 : Int32)), .val (.ref b2), .val (.ref b12), .val .null, .val (.ref b22), .unset, .unset] [])) rfl (hb hby at_142) (by decide) (by decide)
  obtain ⟨b35, g35⟩ : ∃ z, z = T28.heap.size := ⟨_, rfl⟩
  have ne_b2_b35 : b2 ≠ b35 := Nat.ne_of_lt (Nat.lt_of_lt_of_le f29.lt (Nat.le_of_eq g35.symm))
  have ne_b12_b35 : b12 ≠ b35 := Nat.ne_of_lt (Nat.lt_of_lt_of_le f30.lt (Nat.le_of_eq g35.symm))
  have ne_b22_b35 : b22 ≠ b35 := Nat.ne_of_lt (Nat.lt_of_lt_of_le f31.lt (Nat.le_of_eq g35.symm))
  have ne_s_L1_b35 : s_L1 ≠ b35 := Nat.ne_of_lt (Nat.lt_of_lt_of_le (E_L1.ext O28.2).lt (Nat.le_of_eq g35.symm))
  have ne_s_L4_b35 : s_L4 ≠ b35 := Nat.ne_of_lt (Nat.lt_of_lt_of_le (E_L4.ext O28.2).lt (Nat.le_of_eq g35.symm))
  have ne_s_L3_b35 : s_L3 ≠ b35 := Nat.ne_of_lt (Nat.lt_of_lt_of_le (E_L3.ext O28.2).lt (Nat.le_of_eq g35.symm))
  have ne_s_L5_b35 : s_L5 ≠ b35 := Nat.ne_of_lt (Nat.lt_of_lt_of_le (E_L5.ext O28.2).lt (Nat.le_of_eq g35.symm))
  have ne_s_L2_b35 : s_L2 ≠ b35 := Nat.ne_of_lt (Nat.lt_of_lt_of_le (E_L2.ext O28.2).lt (Nat.le_of_eq g35.symm))
  have g_b35 : n0 ≤ b35 := Nat.le_trans (O28.1 ▸ O28.2.1) (Nat.le_of_eq g35.symm)
  have sz_b35 : h0.size ≤ b35 := Nat.le_trans K28.1 (Nat.le_of_eq g35.symm)
  have sn35 : Safe Z own_EL s.vm T28.heap b35 := Safe.new (Nat.le_of_eq g35.symm)
  rw [← g35] at A35 D35 st35
  have f36 := f29.ext E35
  have f37 := f30.ext E35
  have f38 := f31.ext E35
  have O35 := O28.ext E35
  have K35 : Keep h0 h35 [] := K28.ext E35
  have sf39 := Safe.ext E35 C28 sf32
  have sf40 := Safe.ext E35 C28 sf33
  have sf41 := Safe.ext E35 C28 sf34
  have sf42 := Safe.ext E35 C28 sn35
  have C35 : CHv Z own_EL s.vm h35 := C28.ext E35
  have R35 : CHr Z own_EL s.vm h0 s.vm h35 := R28.trans (CHr.ext E35 C28)
  have hk35 := Nat.le_trans hk28 E35.1
  have F35_35 : Fld Z h35 b35 "com/example/pending_actions/pendingactions/policy/Assessment" "tier" "Lcom/example/pending_actions/pendingactions/policy/RiskTier;" .null := D35 (Or.inr (hw _ (List.mem_of_getElem? (i := 35) rfl))) (ty := (.object "com/example/pending_actions/pendingactions/policy/RiskTier")) (by decide)
  have F35_37 : Fld Z h35 b35 "com/example/pending_actions/pendingactions/policy/Assessment" "decider" "Ljava/lang/String;" .null := D35 (Or.inr (hw _ (List.mem_of_getElem? (i := 37) rfl))) (ty := (.object "java/lang/String")) (by decide)
  have F35_39 : Fld Z h35 b35 "com/example/pending_actions/pendingactions/policy/Assessment" "policyVersion" "Ljava/lang/String;" .null := D35 (Or.inr (hw _ (List.mem_of_getElem? (i := 39) rfl))) (ty := (.object "java/lang/String")) (by decide)
  obtain ⟨_, _, ⟨T43, L43, k43, n43⟩, -, X43, ⟨Lc43, hQ43, l43, y43, z43⟩, st43⟩ := X35.specialBack hx (y := (⟨"com/example/pending_actions/pendingactions/policy/Assessment", "<init>", "(Lcom/example/pending_actions/pendingactions/policy/RiskTier;Ljava/lang/String;Ljava/lang/String;)V"⟩ : MethodName)) rfl hown (mvT hZ (hw _ (List.mem_of_getElem? (i := 30) rfl))) (mvT hZ (hw _ (List.mem_of_getElem? (i := 31) rfl))) (mvT hZ (hw _ (List.mem_of_getElem? (i := 32) rfl))) (by decide) (backOf (W := 1) (r_ai4 l Z a0 hw [] s_L1 s_L4 s_L3 s_L5 s_L2 cs1 h35 n0 O35 G0 b35 b22 A35 g_b35 F35_35 F35_37 F35_39) hZ (hw _ (List.mem_of_getElem? (i := 32) rfl)) (hw _ (List.mem_of_getElem? (i := 29) rfl)) (by decide) (by decide)) (g := (mkF m 152 #[.val (.int p1), .val (.int p2), .val (.int p3), .val (.int p4), .val (.int (0 : Int32)), .val .null, .val (.int (0 : Int32)), .val (.int (0 : Int32)), .val (.int (1 : Int32)), .val (.ref b2), .val (.ref b12), .val .null, .val (.ref b22), .unset, .unset] [(.ref b22), .null, .null, (.ref b35), (.ref b35)])) rfl (by rw [hml]; rfl) (Steps.refl _) (a := b35) (argsL := [.null, .null, (.ref b22)]) (rest := [(.ref b35)]) (lenOf pd_6 rfl) rfl (by show 2 * 0 + _ ≤ _; exact Nat.le_of_eq rfl) (hb hby at_152) (fun _ _ => ⟨rfl, e35, (by decide : 6 + 0 ≤ _), (by decide : 17 + 0 ≤ _)⟩)
  dsimp only [Pt.U, Pt.locs, Pt.cells, Pt.slots] at X43 l43 y43 z43 st43 hQ43
  subst l43 y43 z43
  obtain ⟨rfl, N43q, Kq43, Ft43, Fd43⟩ := hQ43
  have N43 := Fr.app N28 N43q
  have f44 := f36.keep Kq43 (fun q => (List.mem_cons.mp q).elim ne_b2_b35 (fun q => nomatch q))
  have f45 := f37.keep Kq43
  have f46 := f38.keep Kq43
  have f47 := A35.keep Kq43
  have O43 := O35.keep Kq43 (allS g_b35 all0)
  have K43 : Keep h0 T43.heap [] := K35.trans Kq43 (allS (Or.inr sz_b35) all0)
  have sf48 := Safe.keep Kq43 (sfS sf42 sf0) C35 sf39
  have sf49 := Safe.keep Kq43 (sfS sf42 sf0) C35 sf40
  have sf50 := Safe.keep Kq43 (sfS sf42 sf0) C35 sf41
  have sf51 := Safe.keep Kq43 (sfS sf42 sf0) C35 sf42
  have C43 : CHv Z own_EL s.vm T43.heap := C35.keep Kq43 (sfS sf42 sf0)
  have R43 : CHr Z own_EL s.vm h0 s.vm T43.heap := R35.trans (CHr.keep Kq43 (sfS sf42 sf0) C35)
  have hk43 := Nat.le_trans hk35 Kq43.1
  obtain ⟨cq52, kq52, q52a, q52b, q52c⟩ := isOf hZ rfl f47
  obtain ⟨_, _, ⟨T52, L52, k52, n52⟩, -, X52, ⟨Lc52, hQ52, l52, y52, z52⟩, st52⟩ := X43.virtualBack hx (y := (⟨"com/example/pending_actions/pendingactions/policy/Assessment", "isAutoApproved", "()Z"⟩ : MethodName)) (z := (⟨"com/example/pending_actions/pendingactions/policy/Assessment", "isAutoApproved", "()Z"⟩ : MethodName)) hown (mvT hZ (hw _ (List.mem_of_getElem? (i := 40) rfl))) (mvT hZ (hw _ (List.mem_of_getElem? (i := 41) rfl))) (notFace_of_selects (args := #[]) (mvT hZ (hw _ (List.mem_of_getElem? (i := 43) rfl)))) (mvT hZ (hw _ (List.mem_of_getElem? (i := 43) rfl))) (mvT hZ (hw _ (List.mem_of_getElem? (i := 42) rfl))) (by decide) (backOf (W := 0) (r_aa0 l Z a0 hw [] s_L1 s_L4 s_L3 s_L5 s_L2 cs1 T43.heap n0 O43 G0 b35  Ft43 Fd43) hZ (hw _ (List.mem_of_getElem? (i := 44) rfl)) (hw _ (List.mem_of_getElem? (i := 29) rfl)) (by decide) (by decide)) q52a q52c (g := (mkF m 176 #[.val (.int p1), .val (.int p2), .val (.int p3), .val (.int p4), .val (.int (0 : Int32)), .val .null, .val (.int (0 : Int32)), .val (.int (0 : Int32)), .val (.int (1 : Int32)), .val (.ref b2), .val (.ref b12), .val .null, .val (.ref b22), .val (.ref b35), .val (.int (0 : Int32))] [(.ref b35)])) rfl (by rw [hml]; rfl) (Steps.refl _) (argsL := []) (rest := []) (lenOf pd_7 rfl) rfl (by show 2 * 0 + _ ≤ _; exact Nat.le_of_eq rfl) (hb hby at_176) (fun _ _ => ⟨rfl, rfl, (by decide : 6 + 0 ≤ _), (by decide : 17 + 0 ≤ _)⟩)
  dsimp only [Pt.U, Pt.locs, Pt.cells, Pt.slots] at X52 l52 y52 z52 st52 hQ52
  subst l52 y52 z52
  obtain ⟨rfl, N52q, e52⟩ := hQ52
  have N52 := Fr.app N43 N52q
  obtain ⟨fs, hr, hrun, hended, hRW⟩ := X52.leaveW hS0 (by rw [e52]; exact hk43) (v := some (.int (1 : Int32))) (fun h => by rw [Bd.returns] at h; cases h)
  refine ⟨_, _, pre0 _ ?_, hrun, hended, _, _, rfl, ?_, ?_, hRW.1, hRW.2.1, hRW.2.2.1, hRW.2.2.2.mono (by decide) (by decide)⟩
  · show Steps p.tables e below (s₁.setTop (mkF m 0 #[.val (.int p1), .val (.int p2), .val (.int p3), .val (.int p4), .unset, .unset, .unset, .unset, .unset, .unset, .unset, .unset, .unset, .unset, .unset] [])) _
    refine XS.iloadN X0.here hx rfl (hb hby at_0) rfl ?_
    show Steps p.tables e below (s₁.setTop (mkF m 1 #[.val (.int p1), .val (.int p2), .val (.int p3), .val (.int p4), .unset, .unset, .unset, .unset, .unset, .unset, .unset, .unset, .unset, .unset, .unset] [(.int p1)])) _
    refine X0.ldcInt hx hown (mvT hZ (hw _ (List.mem_of_getElem? (i := 0) rfl))) (g := (mkF m 1 #[.val (.int p1), .val (.int p2), .val (.int p3), .val (.int p4), .unset, .unset, .unset, .unset, .unset, .unset, .unset, .unset, .unset, .unset, .unset] [(.int p1)])) rfl (hb hby at_1) _ ?_
    show Steps p.tables e below (s₁.setTop (mkF m 3 #[.val (.int p1), .val (.int p2), .val (.int p3), .val (.int p4), .unset, .unset, .unset, .unset, .unset, .unset, .unset, .unset, .unset, .unset, .unset] [(.int (2147483647 : Int32)), (.int p1)])) _
    refine XS.iand X0.here hx rfl (hb hby at_3) rfl ?_
    refine XS.bipush X0.here hx rfl (hb hby at_4) ?_
    show Steps p.tables e below (s₁.setTop (mkF m 6 #[.val (.int p1), .val (.int p2), .val (.int p3), .val (.int p4), .unset, .unset, .unset, .unset, .unset, .unset, .unset, .unset, .unset, .unset, .unset] [(.int (6 : Int32)), (.int (p1 &&& (2147483647 : Int32)))])) _
    refine iremM X0 hx rfl (hb hby at_6) rfl (by decide) ?_
    show Steps p.tables e below (s₁.setTop (mkF m 7 #[.val (.int p1), .val (.int p2), .val (.int p3), .val (.int p4), .unset, .unset, .unset, .unset, .unset, .unset, .unset, .unset, .unset, .unset, .unset] [(.int ((p1 &&& (2147483647 : Int32)) % (6 : Int32)))])) _
    rw [hk]
    show Steps p.tables e below (s₁.setTop (mkF m 7 #[.val (.int p1), .val (.int p2), .val (.int p3), .val (.int p4), .unset, .unset, .unset, .unset, .unset, .unset, .unset, .unset, .unset, .unset, .unset] [(.int (0 : Int32))])) _
    refine XS.istore X0.here hx rfl (hb hby at_7) rfl (l' := #[.val (.int p1), .val (.int p2), .val (.int p3), .val (.int p4), .val (.int (0 : Int32)), .unset, .unset, .unset, .unset, .unset, .unset, .unset, .unset, .unset, .unset]) rfl ?_
    refine XS.iload X0.here hx rfl (hb hby at_9) rfl ?_
    show Steps p.tables e below (s₁.setTop (mkF m 11 #[.val (.int p1), .val (.int p2), .val (.int p3), .val (.int p4), .val (.int (0 : Int32)), .unset, .unset, .unset, .unset, .unset, .unset, .unset, .unset, .unset, .unset] [(.int (0 : Int32))])) _
    refine st1 _ ?_
    show Steps p.tables e below (T1.setTop (mkF m 14 #[.val (.int p1), .val (.int p2), .val (.int p3), .val (.int p4), .val (.int (0 : Int32)), .unset, .unset, .unset, .unset, .unset, .unset, .unset, .unset, .unset, .unset] [.null])) _
    refine XS.astore X1.here hx rfl (hb hby at_14) rfl rfl (l' := #[.val (.int p1), .val (.int p2), .val (.int p3), .val (.int p4), .val (.int (0 : Int32)), .val .null, .unset, .unset, .unset, .unset, .unset, .unset, .unset, .unset, .unset]) rfl ?_
    refine XS.iloadN X1.here hx rfl (hb hby at_16) rfl ?_
    refine XS.iconst X1.here hx rfl (hb hby at_17) ?_
    refine XS.iand X1.here hx rfl (hb hby at_18) rfl ?_
    refine XS.ifYes X1.here hx rfl (pc0 := 19) (pc' := 26) rfl (hb hby at_19) rfl ((if0 _ _).trans (teq (hf0_ : (p2 &&& (1 : Int32)) = (0 : Int32))).1) (by decide) (by decide) ?_
    show Steps p.tables e below (T1.setTop (mkF m 26 #[.val (.int p1), .val (.int p2), .val (.int p3), .val (.int p4), .val (.int (0 : Int32)), .val .null, .unset, .unset, .unset, .unset, .unset, .unset, .unset, .unset, .unset] [])) _
    refine XS.iconst X1.here hx rfl (hb hby at_26) ?_
    refine XS.istore X1.here hx rfl (hb hby at_27) rfl (l' := #[.val (.int p1), .val (.int p2), .val (.int p3), .val (.int p4), .val (.int (0 : Int32)), .val .null, .val (.int (0 : Int32)), .unset, .unset, .unset, .unset, .unset, .unset, .unset, .unset]) rfl ?_
    refine XS.iloadN X1.here hx rfl (hb hby at_29) rfl ?_
    refine XS.iconst X1.here hx rfl (hb hby at_30) ?_
    refine XS.iand X1.here hx rfl (hb hby at_31) rfl ?_
    show Steps p.tables e below (T1.setTop (mkF m 32 #[.val (.int p1), .val (.int p2), .val (.int p3), .val (.int p4), .val (.int (0 : Int32)), .val .null, .val (.int (0 : Int32)), .unset, .unset, .unset, .unset, .unset, .unset, .unset, .unset] [(.int (p2 &&& (2 : Int32)))])) _
    refine XS.ifYes X1.here hx rfl (pc0 := 32) (pc' := 39) rfl (hb hby at_32) rfl ((if0 _ _).trans (teq (hf1_ : (p2 &&& (2 : Int32)) = (0 : Int32))).1) (by decide) (by decide) ?_
    refine XS.iconst X1.here hx rfl (hb hby at_39) ?_
    refine XS.istore X1.here hx rfl (hb hby at_40) rfl (l' := #[.val (.int p1), .val (.int p2), .val (.int p3), .val (.int p4), .val (.int (0 : Int32)), .val .null, .val (.int (0 : Int32)), .val (.int (0 : Int32)), .unset, .unset, .unset, .unset, .unset, .unset, .unset]) rfl ?_
    refine XS.iloadN X1.here hx rfl (hb hby at_42) rfl ?_
    refine XS.iconst X1.here hx rfl (hb hby at_43) ?_
    show Steps p.tables e below (T1.setTop (mkF m 44 #[.val (.int p1), .val (.int p2), .val (.int p3), .val (.int p4), .val (.int (0 : Int32)), .val .null, .val (.int (0 : Int32)), .val (.int (0 : Int32)), .unset, .unset, .unset, .unset, .unset, .unset, .unset] [(.int (4 : Int32)), (.int p2)])) _
    refine XS.iand X1.here hx rfl (hb hby at_44) rfl ?_
    refine XS.ifNo X1.here hx rfl (hb hby at_45) rfl ((if0 _ _).trans (feq (hf2_ : ¬ ((p2 &&& (4 : Int32)) = (0 : Int32)))).1) ?_
    refine XS.iconst X1.here hx rfl (hb hby at_48) ?_
    refine XS.goto X1.here hx rfl (pc0 := 49) (pc' := 53) rfl (hb hby at_49) (by decide) (by decide) ?_
    refine XS.istore X1.here hx rfl (hb hby at_53) rfl (l' := #[.val (.int p1), .val (.int p2), .val (.int p3), .val (.int p4), .val (.int (0 : Int32)), .val .null, .val (.int (0 : Int32)), .val (.int (0 : Int32)), .val (.int (1 : Int32)), .unset, .unset, .unset, .unset, .unset, .unset]) rfl ?_
    show Steps p.tables e below (T1.setTop (mkF m 55 #[.val (.int p1), .val (.int p2), .val (.int p3), .val (.int p4), .val (.int (0 : Int32)), .val .null, .val (.int (0 : Int32)), .val (.int (0 : Int32)), .val (.int (1 : Int32)), .unset, .unset, .unset, .unset, .unset, .unset] [])) _
    refine XS.iconst X1.here hx rfl (hb hby at_55) ?_
    show Steps p.tables e below (T1.setTop (mkF m 56 #[.val (.int p1), .val (.int p2), .val (.int p3), .val (.int p4), .val (.int (0 : Int32)), .val .null, .val (.int (0 : Int32)), .val (.int (0 : Int32)), .val (.int (1 : Int32)), .unset, .unset, .unset, .unset, .unset, .unset] [(.int (2 : Int32))])) _
    refine st2 _ ?_
    show Steps p.tables e below (T2.setTop (mkF m 58 #[.val (.int p1), .val (.int p2), .val (.int p3), .val (.int p4), .val (.int (0 : Int32)), .val .null, .val (.int (0 : Int32)), .val (.int (0 : Int32)), .val (.int (1 : Int32)), .unset, .unset, .unset, .unset, .unset, .unset] [(.ref b2)])) _
    refine XS.astore X2.here hx rfl (hb hby at_58) rfl rfl (l' := #[.val (.int p1), .val (.int p2), .val (.int p3), .val (.int p4), .val (.int (0 : Int32)), .val .null, .val (.int (0 : Int32)), .val (.int (0 : Int32)), .val (.int (1 : Int32)), .val (.ref b2), .unset, .unset, .unset, .unset, .unset]) rfl ?_
    refine XS.aload X2.here hx rfl (hb hby at_60) rfl rfl ?_
    refine XS.iconst X2.here hx rfl (hb hby at_62) ?_
    refine XS.iloadN X2.here hx rfl (hb hby at_63) rfl ?_
    refine XS.sipush X2.here hx rfl (hb hby at_64) ?_
    show Steps p.tables e below (T2.setTop (mkF m 67 #[.val (.int p1), .val (.int p2), .val (.int p3), .val (.int p4), .val (.int (0 : Int32)), .val .null, .val (.int (0 : Int32)), .val (.int (0 : Int32)), .val (.int (1 : Int32)), .val (.ref b2), .unset, .unset, .unset, .unset, .unset] [(.int (255 : Int32)), (.int p3), (.int (0 : Int32)), (.ref b2)])) _
    refine XS.iand X2.here hx rfl (hb hby at_67) rfl ?_
    refine XS.i2c X2.here hx rfl (hb hby at_68) rfl ?_
    show Steps p.tables e below (T2.setTop (mkF m 69 #[.val (.int p1), .val (.int p2), .val (.int p3), .val (.int p4), .val (.int (0 : Int32)), .val .null, .val (.int (0 : Int32)), .val (.int (0 : Int32)), .val (.int (1 : Int32)), .val (.ref b2), .unset, .unset, .unset, .unset, .unset] [(.int ((p3 &&& (255 : Int32)).toUInt32.toUInt16.toUInt32.toInt32)), (.int (0 : Int32)), (.ref b2)])) _
    refine st5 _ ?_
    show Steps p.tables e below (T5.setTop (mkF m 70 #[.val (.int p1), .val (.int p2), .val (.int p3), .val (.int p4), .val (.int (0 : Int32)), .val .null, .val (.int (0 : Int32)), .val (.int (0 : Int32)), .val (.int (1 : Int32)), .val (.ref b2), .unset, .unset, .unset, .unset, .unset] [])) _
    refine XS.aload X5.here hx rfl (hb hby at_70) rfl rfl ?_
    refine XS.iconst X5.here hx rfl (hb hby at_72) ?_
    refine XS.iloadN X5.here hx rfl (hb hby at_73) rfl ?_
    refine XS.sipush X5.here hx rfl (hb hby at_74) ?_
    refine XS.iand X5.here hx rfl (hb hby at_77) rfl ?_
    show Steps p.tables e below (T5.setTop (mkF m 78 #[.val (.int p1), .val (.int p2), .val (.int p3), .val (.int p4), .val (.int (0 : Int32)), .val .null, .val (.int (0 : Int32)), .val (.int (0 : Int32)), .val (.int (1 : Int32)), .val (.ref b2), .unset, .unset, .unset, .unset, .unset] [(.int (p4 &&& (255 : Int32))), (.int (1 : Int32)), (.ref b2)])) _
    refine XS.i2c X5.here hx rfl (hb hby at_78) rfl ?_
    show Steps p.tables e below (T5.setTop (mkF m 79 #[.val (.int p1), .val (.int p2), .val (.int p3), .val (.int p4), .val (.int (0 : Int32)), .val .null, .val (.int (0 : Int32)), .val (.int (0 : Int32)), .val (.int (1 : Int32)), .val (.ref b2), .unset, .unset, .unset, .unset, .unset] [(.int ((p4 &&& (255 : Int32)).toUInt32.toUInt16.toUInt32.toInt32)), (.int (1 : Int32)), (.ref b2)])) _
    refine st9 _ ?_
    show Steps p.tables e below (T9.setTop (mkF m 80 #[.val (.int p1), .val (.int p2), .val (.int p3), .val (.int p4), .val (.int (0 : Int32)), .val .null, .val (.int (0 : Int32)), .val (.int (0 : Int32)), .val (.int (1 : Int32)), .val (.ref b2), .unset, .unset, .unset, .unset, .unset] [])) _
    refine XS.iload X9.here hx rfl (hb hby at_80) rfl ?_
    refine XS.ifYes X9.here hx rfl (pc0 := 82) (pc' := 98) rfl (hb hby at_82) rfl ((if0 _ _).trans (teq (by decide : (0 : Int32) = (0 : Int32))).1) (by decide) (by decide) ?_
    show Steps p.tables e below (T9.setTop (mkF m 98 #[.val (.int p1), .val (.int p2), .val (.int p3), .val (.int p4), .val (.int (0 : Int32)), .val .null, .val (.int (0 : Int32)), .val (.int (0 : Int32)), .val (.int (1 : Int32)), .val (.ref b2), .unset, .unset, .unset, .unset, .unset] [])) _
    refine st12 _ ?_
    show Steps p.tables e below (T12.setTop (mkF m 101 #[.val (.int p1), .val (.int p2), .val (.int p3), .val (.int p4), .val (.int (0 : Int32)), .val .null, .val (.int (0 : Int32)), .val (.int (0 : Int32)), .val (.int (1 : Int32)), .val (.ref b2), .unset, .unset, .unset, .unset, .unset] [(.ref b12)])) _
    refine XS.dup X12.here hx rfl (hb hby at_101) rfl rfl ?_
    refine XS.aload X12.here hx rfl (hb hby at_102) rfl rfl ?_
    show Steps p.tables e below (T12.setTop (mkF m 104 #[.val (.int p1), .val (.int p2), .val (.int p3), .val (.int p4), .val (.int (0 : Int32)), .val .null, .val (.int (0 : Int32)), .val (.int (0 : Int32)), .val (.int (1 : Int32)), .val (.ref b2), .unset, .unset, .unset, .unset, .unset] [(.ref b2), (.ref b12), (.ref b12)])) _
    refine st17.trans ?_
    show Steps p.tables e below (T17.setTop (mkF m 107 #[.val (.int p1), .val (.int p2), .val (.int p3), .val (.int p4), .val (.int (0 : Int32)), .val .null, .val (.int (0 : Int32)), .val (.int (0 : Int32)), .val (.int (1 : Int32)), .val (.ref b2), .unset, .unset, .unset, .unset, .unset] [(.ref b12)])) _
    refine XS.astore X17.here hx rfl (hb hby at_107) rfl rfl (l' := #[.val (.int p1), .val (.int p2), .val (.int p3), .val (.int p4), .val (.int (0 : Int32)), .val .null, .val (.int (0 : Int32)), .val (.int (0 : Int32)), .val (.int (1 : Int32)), .val (.ref b2), .val (.ref b12), .unset, .unset, .unset, .unset]) rfl ?_
    refine XS.iload X17.here hx rfl (hb hby at_109) rfl ?_
    refine XS.ifYes X17.here hx rfl (pc0 := 111) (pc' := 119) rfl (hb hby at_111) rfl ((if0 _ _).trans (teq (by decide : (0 : Int32) = (0 : Int32))).1) (by decide) (by decide) ?_
    refine XS.aconstNull X17.here hx rfl (hb hby at_119) ?_
    refine XS.astore X17.here hx rfl (hb hby at_120) rfl rfl (l' := #[.val (.int p1), .val (.int p2), .val (.int p3), .val (.int p4), .val (.int (0 : Int32)), .val .null, .val (.int (0 : Int32)), .val (.int (0 : Int32)), .val (.int (1 : Int32)), .val (.ref b2), .val (.ref b12), .val .null, .unset, .unset, .unset]) rfl ?_
    show Steps p.tables e below (T17.setTop (mkF m 122 #[.val (.int p1), .val (.int p2), .val (.int p3), .val (.int p4), .val (.int (0 : Int32)), .val .null, .val (.int (0 : Int32)), .val (.int (0 : Int32)), .val (.int (1 : Int32)), .val (.ref b2), .val (.ref b12), .val .null, .unset, .unset, .unset] [])) _
    refine XS.iload X17.here hx rfl (hb hby at_122) rfl ?_
    refine XS.ifNo X17.here hx rfl (hb hby at_124) rfl ((if0 _ _).trans (feq (by decide : ¬ ((1 : Int32) = (0 : Int32)))).1) ?_
    show Steps p.tables e below (T17.setTop (mkF m 127 #[.val (.int p1), .val (.int p2), .val (.int p3), .val (.int p4), .val (.int (0 : Int32)), .val .null, .val (.int (0 : Int32)), .val (.int (0 : Int32)), .val (.int (1 : Int32)), .val (.ref b2), .val (.ref b12), .val .null, .unset, .unset, .unset] [])) _
    refine st22 _ ?_
    show Steps p.tables e below (T22.setTop (mkF m 130 #[.val (.int p1), .val (.int p2), .val (.int p3), .val (.int p4), .val (.int (0 : Int32)), .val .null, .val (.int (0 : Int32)), .val (.int (0 : Int32)), .val (.int (1 : Int32)), .val (.ref b2), .val (.ref b12), .val .null, .unset, .unset, .unset] [(.ref b22)])) _
    refine XS.dup X22.here hx rfl (hb hby at_130) rfl rfl ?_
    refine XS.aload X22.here hx rfl (hb hby at_131) rfl rfl ?_
    show Steps p.tables e below (T22.setTop (mkF m 133 #[.val (.int p1), .val (.int p2), .val (.int p3), .val (.int p4), .val (.int (0 : Int32)), .val .null, .val (.int (0 : Int32)), .val (.int (0 : Int32)), .val (.int (1 : Int32)), .val (.ref b2), .val (.ref b12), .val .null, .unset, .unset, .unset] [(.ref b2), (.ref b22), (.ref b22)])) _
    refine st28.trans ?_
    show Steps p.tables e below (T28.setTop (mkF m 136 #[.val (.int p1), .val (.int p2), .val (.int p3), .val (.int p4), .val (.int (0 : Int32)), .val .null, .val (.int (0 : Int32)), .val (.int (0 : Int32)), .val (.int (1 : Int32)), .val (.ref b2), .val (.ref b12), .val .null, .unset, .unset, .unset] [(.ref b22)])) _
    refine XS.goto X28.here hx rfl (pc0 := 136) (pc' := 140) rfl (hb hby at_136) (by decide) (by decide) ?_
    refine XS.astore X28.here hx rfl (hb hby at_140) rfl rfl (l' := #[.val (.int p1), .val (.int p2), .val (.int p3), .val (.int p4), .val (.int (0 : Int32)), .val .null, .val (.int (0 : Int32)), .val (.int (0 : Int32)), .val (.int (1 : Int32)), .val (.ref b2), .val (.ref b12), .val .null, .val (.ref b22), .unset, .unset]) rfl ?_
    show Steps p.tables e below (T28.setTop (mkF m 142 #[.val (.int p1), .val (.int p2), .val (.int p3), .val (.int p4), .val (.int (0 : Int32)), .val .null, .val (.int (0 : Int32)), .val (.int (0 : Int32)), .val (.int (1 : Int32)), .val (.ref b2), .val (.ref b12), .val .null, .val (.ref b22), .unset, .unset] [])) _
    refine st35 _ ?_
    show Steps p.tables e below (T35.setTop (mkF m 145 #[.val (.int p1), .val (.int p2), .val (.int p3), .val (.int p4), .val (.int (0 : Int32)), .val .null, .val (.int (0 : Int32)), .val (.int (0 : Int32)), .val (.int (1 : Int32)), .val (.ref b2), .val (.ref b12), .val .null, .val (.ref b22), .unset, .unset] [(.ref b35)])) _
    refine XS.dup X35.here hx rfl (hb hby at_145) rfl rfl ?_
    refine XS.aload X35.here hx rfl (hb hby at_146) rfl rfl ?_
    refine XS.aload X35.here hx rfl (hb hby at_148) rfl rfl ?_
    refine XS.aload X35.here hx rfl (hb hby at_150) rfl rfl ?_
    show Steps p.tables e below (T35.setTop (mkF m 152 #[.val (.int p1), .val (.int p2), .val (.int p3), .val (.int p4), .val (.int (0 : Int32)), .val .null, .val (.int (0 : Int32)), .val (.int (0 : Int32)), .val (.int (1 : Int32)), .val (.ref b2), .val (.ref b12), .val .null, .val (.ref b22), .unset, .unset] [(.ref b22), .null, .null, (.ref b35), (.ref b35)])) _
    refine st43.trans ?_
    show Steps p.tables e below (T43.setTop (mkF m 155 #[.val (.int p1), .val (.int p2), .val (.int p3), .val (.int p4), .val (.int (0 : Int32)), .val .null, .val (.int (0 : Int32)), .val (.int (0 : Int32)), .val (.int (1 : Int32)), .val (.ref b2), .val (.ref b12), .val .null, .val (.ref b22), .unset, .unset] [(.ref b35)])) _
    refine XS.astore X43.here hx rfl (hb hby at_155) rfl rfl (l' := #[.val (.int p1), .val (.int p2), .val (.int p3), .val (.int p4), .val (.int (0 : Int32)), .val .null, .val (.int (0 : Int32)), .val (.int (0 : Int32)), .val (.int (1 : Int32)), .val (.ref b2), .val (.ref b12), .val .null, .val (.ref b22), .val (.ref b35), .unset]) rfl ?_
    refine XS.iload X43.here hx rfl (hb hby at_157) rfl ?_
    refine XS.ifYes X43.here hx rfl (pc0 := 159) (pc' := 171) rfl (hb hby at_159) rfl ((if0 _ _).trans (teq (by decide : (0 : Int32) = (0 : Int32))).1) (by decide) (by decide) ?_
    refine XS.iconst X43.here hx rfl (hb hby at_171) ?_
    refine XS.istore X43.here hx rfl (hb hby at_172) rfl (l' := #[.val (.int p1), .val (.int p2), .val (.int p3), .val (.int p4), .val (.int (0 : Int32)), .val .null, .val (.int (0 : Int32)), .val (.int (0 : Int32)), .val (.int (1 : Int32)), .val (.ref b2), .val (.ref b12), .val .null, .val (.ref b22), .val (.ref b35), .val (.int (0 : Int32))]) rfl ?_
    show Steps p.tables e below (T43.setTop (mkF m 174 #[.val (.int p1), .val (.int p2), .val (.int p3), .val (.int p4), .val (.int (0 : Int32)), .val .null, .val (.int (0 : Int32)), .val (.int (0 : Int32)), .val (.int (1 : Int32)), .val (.ref b2), .val (.ref b12), .val .null, .val (.ref b22), .val (.ref b35), .val (.int (0 : Int32))] [])) _
    refine XS.aload X43.here hx rfl (hb hby at_174) rfl rfl ?_
    show Steps p.tables e below (T43.setTop (mkF m 176 #[.val (.int p1), .val (.int p2), .val (.int p3), .val (.int p4), .val (.int (0 : Int32)), .val .null, .val (.int (0 : Int32)), .val (.int (0 : Int32)), .val (.int (1 : Int32)), .val (.ref b2), .val (.ref b12), .val .null, .val (.ref b22), .val (.ref b35), .val (.int (0 : Int32))] [(.ref b35)])) _
    refine st52.trans ?_
    show Steps p.tables e below (T52.setTop (mkF m 179 #[.val (.int p1), .val (.int p2), .val (.int p3), .val (.int p4), .val (.int (0 : Int32)), .val .null, .val (.int (0 : Int32)), .val (.int (0 : Int32)), .val (.int (1 : Int32)), .val (.ref b2), .val (.ref b12), .val .null, .val (.ref b22), .val (.ref b35), .val (.int (0 : Int32))] [(.int (0 : Int32))])) _
    refine XS.iload X52.here hx rfl (hb hby at_179) rfl ?_
    refine XS.icmpNo X52.here hx rfl (hb hby at_181) rfl (teq (by decide : (0 : Int32) = (0 : Int32))).2 ?_
    refine XS.iconst X52.here hx rfl (hb hby at_184) ?_
    refine XS.goto X52.here hx rfl (pc0 := 185) (pc' := 189) rfl (hb hby at_185) (by decide) (by decide) ?_
    show Steps p.tables e below (T52.setTop (mkF m 189 #[.val (.int p1), .val (.int p2), .val (.int p3), .val (.int p4), .val (.int (0 : Int32)), .val .null, .val (.int (0 : Int32)), .val (.int (0 : Int32)), .val (.int (1 : Int32)), .val (.ref b2), .val (.ref b12), .val .null, .val (.ref b22), .val (.ref b35), .val (.int (0 : Int32))] [(.int (1 : Int32))])) _
    exact retN X52 hx (t := .boolean) Bd.returns (by simp) (hb hby at_189) hr
  · show own_Qk (some (.int (1 : Int32))) [] h0 n0 _ T52.heap _
    rw [e52]
    exact ⟨rfl, N52, K43⟩
  · show CHr Z own_EL s.vm s.heap T52.vm T52.heap
    rw [hh, e52]
    exact R43.trans (CHv.at (s := s) (vm0 := s.vm) X52 hZ hEL C43)
set_option maxRecDepth 65536 in
set_option maxHeartbeats 40000000 in
theorem r_law9 (l : Launch) (Z : State) (a0 : Array Value) (hw : ∀ d ∈ tables_1, d.before a0 Z = true) (ws : List Jvm.Cond) (s_L1 s_L4 s_L3 s_L5 s_L2 : Addr) (cs1 : Int32) (h0 : Heap) (n0 : Nat) (O0 : Old Z n0 h0) (G : own_Ctx Z Z.heap s_L1 s_L4 s_L3 s_L5 s_L2 cs1) (hEL : EW Z a0 own_EL) (wS : ∀ a ∈ Bundle.stringAtoms, a.before a0 Z = true) (p1 p2 p3 p4 : Int32) (kk : Int32) (hk : (p1 &&& (2147483647 : Int32)) % (6 : Int32) = kk) (hk1 : kk = (1 : Int32) ∨ kk = (2 : Int32) ∨ kk = (3 : Int32) ∨ kk = (4 : Int32) ∨ kk = (5 : Int32)) (hf0_ : (p2 &&& (1 : Int32)) = (0 : Int32)) (hf1_ : (p2 &&& (2 : Int32)) = (0 : Int32)) (hf2_ : ¬ ((p2 &&& (4 : Int32)) = (0 : Int32))) :
    MetFree l x (head1 (Jvm.Cond.code x code maxLocals ret :: ws) room_1) (fun a U => a = #[(.int p1), (.int p2), (.int p3), (.int p4)] ∧ Z.Warmed39 U.vm ∧ U.heap = h0 ∧ CHv Z own_EL U.vm h0) (fun _ _ _ _ _ => True) (fun _ U o U' => ∃ v L, o = .returned v ∧ own_Qk (some (.int (1 : Int32))) [] h0 n0 v U'.heap L ∧ CHr Z own_EL U.vm U.heap U'.vm U'.heap ∧ ReturnedEndW U o U' L 24 1152) := by
  have G0 := G
  obtain ⟨S_L1, E_L1, S_L4, E_L4, S_L3, E_L3, S_L5, E_L5, S_L2, E_L2, S_CS, N_CS⟩ := G
  refine MetFree.of_bodySF (plainFor_of_name pn_0) hisR ?_
  intro p e s m args below meth c s₁ Bd hml0 hP hK
  obtain ⟨rfl, hZ, hh, hC⟩ := hP
  have hx := Bd.exec
  have hby := Bd.bytes
  have hml : c.maxLocals = 15 := hml0
  have hown : s.vm.findClass "com/example/pending_actions/pendingactions/policy/AssessmentIsAutoApprovedPinLaw" = some m.cls := findClass_of_methodNamed Bd.named
  have hnm := (name_of_methodNamed Bd.named Bd.method).1
  have X0 : Stand p l e room_1 (s.setVm s.vm) m #[(.int p1), (.int p2), (.int p3), (.int p4)] below meth c s₁ [] 0 0 := Stand.of_body Bd
  have e0 : s₁.heap = h0 := by rw [← hh, Bd.state]; rfl
  have N0 := Fr.nil n0
  have hS0 : s.Since s.vm h0.size := State.WarmedH.since (State.WarmedH.refl s) _
  have hk0 : h0.size ≤ h0.size := Nat.le_refl _
  have pre0 : ∀ t, Steps p.tables e below (s₁.setTop (mkF m 0 #[.val (.int p1), .val (.int p2), .val (.int p3), .val (.int p4), .unset, .unset, .unset, .unset, .unset, .unset, .unset, .unset, .unset, .unset, .unset] [])) t → Steps p.tables e below (s₁.setTop (entryFrame m #[(.int p1), (.int p2), (.int p3), (.int p4)] maxLocals)) t := fun t k => castTop (ef_0_15 m p1 p2 p3 p4) k
  obtain ⟨_, _, ⟨T1, L1, k1, n1⟩, -, X1, ⟨Lc1, hQ1, l1, y1, z1⟩, st1⟩ := Jvm.LawKit.callS X0 hx (y := (⟨"com/example/pending_actions/pendingactions/policy/AssessmentIsAutoApprovedPinLaw", "pick", "(I)Lcom/example/pending_actions/pendingactions/policy/RiskTier;"⟩ : MethodName)) hown (mvT hZ (hw _ (List.mem_of_getElem? (i := 1) rfl))) (mvT hZ (hw _ (List.mem_of_getElem? (i := 2) rfl))) (mvT hZ (hw _ (List.mem_of_getElem? (i := 3) rfl))) (mvT hZ (hw _ (List.mem_of_getElem? (i := 4) rfl))) (by decide) (backOf (W := 0) (r_tierN l Z a0 hw [] s_L1 s_L4 s_L3 s_L5 s_L2 cs1 h0 n0 O0 G0 kk hk1) hZ (hw _ (List.mem_of_getElem? (i := 4) rfl)) (hw _ (List.mem_of_getElem? (i := 3) rfl)) (by decide) (by decide)) (g := (mkF m 11 #[.val (.int p1), .val (.int p2), .val (.int p3), .val (.int p4), .val (.int kk), .unset, .unset, .unset, .unset, .unset, .unset, .unset, .unset, .unset, .unset] [(.int kk)])) rfl (by rw [hml]; rfl) (argsL := [(.int kk)]) (rest := []) (lenOf pd_4 rfl) rfl (by show 2 * 0 + _ ≤ _; exact Nat.le_of_eq rfl) (hb hby at_11) (fun _ _ => ⟨rfl, e0, (by decide : 0 + 0 ≤ _), (by decide : 0 + 0 ≤ _)⟩)
  dsimp only [Pt.U, Pt.locs, Pt.cells, Pt.slots] at X1 l1 y1 z1 st1 hQ1
  subst l1 y1 z1
  obtain ⟨ta1, rfl, N1q, e1⟩ := hQ1
  have N1 := Fr.app N0 N1q
  obtain ⟨T2, h2, k2, X2, e2, E2, A2, st2⟩ := newP X1 hx hZ (hw _ (List.mem_of_getElem? (i := 5) rfl)) e1 (g := (mkF m 56 #[.val (.int p1), .val (.int p2), .val (.int p3), .val (.int p4), .val (.int kk), .val (.ref ta1), .val (.int (0 : Int32)), .val (.int (0 : Int32)), .val (.int (1 : Int32)), .unset, .unset, .unset, .unset, .unset, .unset] [(.int (2 : Int32))])) rfl (hb hby at_56) rfl (by decide) (cap := 2) (by decide) (by decide) (by decide) (by decide)
  obtain ⟨b2, g2⟩ : ∃ z, z = h0.size := ⟨_, rfl⟩
  have ne_s_L1_b2 : s_L1 ≠ b2 := Nat.ne_of_lt (Nat.lt_of_lt_of_le (E_L1.ext O0.2).lt (Nat.le_of_eq g2.symm))
  have ne_s_L4_b2 : s_L4 ≠ b2 := Nat.ne_of_lt (Nat.lt_of_lt_of_le (E_L4.ext O0.2).lt (Nat.le_of_eq g2.symm))
  have ne_s_L3_b2 : s_L3 ≠ b2 := Nat.ne_of_lt (Nat.lt_of_lt_of_le (E_L3.ext O0.2).lt (Nat.le_of_eq g2.symm))
  have ne_s_L5_b2 : s_L5 ≠ b2 := Nat.ne_of_lt (Nat.lt_of_lt_of_le (E_L5.ext O0.2).lt (Nat.le_of_eq g2.symm))
  have ne_s_L2_b2 : s_L2 ≠ b2 := Nat.ne_of_lt (Nat.lt_of_lt_of_le (E_L2.ext O0.2).lt (Nat.le_of_eq g2.symm))
  have g_b2 : n0 ≤ b2 := Nat.le_trans (O0.1 ▸ O0.2.1) (Nat.le_of_eq g2.symm)
  have sz_b2 : h0.size ≤ b2 := Nat.le_trans (Keep.refl h0 []).1 (Nat.le_of_eq g2.symm)
  have sn2 : Safe Z own_EL s.vm h0 b2 := Safe.new (Nat.le_of_eq g2.symm)
  rw [← g2] at A2 st2
  have O2 := O0.ext E2
  have K2 : Keep h0 h2 [] := (Keep.refl h0 []).ext E2
  have sf3 := Safe.ext E2 hC sn2
  have C2 : CHv Z own_EL s.vm h2 := hC.ext E2
  have R2 : CHr Z own_EL s.vm h0 s.vm h2 := (CHr.refl hC).trans (CHr.ext E2 hC)
  have hk2 := Nat.le_trans hk0 E2.1
  have V2 : Arv Z h2 b2 k2 .char (2 : Int32) [(.int (0 : Int32)), (.int (0 : Int32))] (.int (0 : Int32)) := (Arv.new A2 (by decide)).pad (pad_rep [] (.int (0 : Int32)) 2)
  have vc4 := V2
  obtain ⟨cl4, Ar4, qk4, S4, Nn4, Hs4, Gf4⟩ := vc4
  have hin4 : ¬ ((0 : Int32) < 0 ∨ cl4.slots.size ≤ ((0 : Int32)).toNatClampNeg) := inb_of S4 ⟨by decide, by decide⟩
  obtain ⟨T5, h5, X5, e5, W5, st5⟩ := stC X2 hx hZ e2 Ar4 (j := (0 : Int32)) hin4 (g := (mkF m 69 #[.val (.int p1), .val (.int p2), .val (.int p3), .val (.int p4), .val (.int kk), .val (.ref ta1), .val (.int (0 : Int32)), .val (.int (0 : Int32)), .val (.int (1 : Int32)), .val (.ref b2), .unset, .unset, .unset, .unset, .unset] [(.int ((p3 &&& (255 : Int32)).toUInt32.toUInt16.toUInt32.toInt32)), (.int (0 : Int32)), (.ref b2)])) rfl rfl (hb hby at_69)
  have O5 := O2.wr W5 g_b2
  have K5 : Keep h0 h5 [] := K2.wr W5 (Or.inr sz_b2)
  have N5 := Fr.snoc X5 N1 g_b2
  have sf6 := Safe.wr W5 sf3 C2 sf3
  have C5 : CHv Z own_EL s.vm h5 := C2.wr W5 sf3
  have R5 : CHr Z own_EL s.vm h0 s.vm h5 := R2.trans (CHr.wr W5 sf3 C2)
  have hk5 := Nat.le_trans hk2 (Keep.of_wr W5).1
  have f7 : Arv Z h5 b2 k2 .char (2 : Int32) [(.int (nar .char ((p3 &&& (255 : Int32)).toUInt32.toUInt16.toUInt32.toInt32))), (.int (0 : Int32))] (.int (0 : Int32)) := Arv.set Ar4 qk4 S4 Nn4 Hs4 Gf4 (fits_nar_char _) W5 0 rfl (Nat.le_of_ble_eq_true rfl)
  have vc8 := f7
  obtain ⟨cl8, Ar8, qk8, S8, Nn8, Hs8, Gf8⟩ := vc8
  have hin8 : ¬ ((1 : Int32) < 0 ∨ cl8.slots.size ≤ ((1 : Int32)).toNatClampNeg) := inb_of S8 ⟨by decide, by decide⟩
  obtain ⟨T9, h9, X9, e9, W9, st9⟩ := stC X5 hx hZ e5 Ar8 (j := (1 : Int32)) hin8 (g := (mkF m 79 #[.val (.int p1), .val (.int p2), .val (.int p3), .val (.int p4), .val (.int kk), .val (.ref ta1), .val (.int (0 : Int32)), .val (.int (0 : Int32)), .val (.int (1 : Int32)), .val (.ref b2), .unset, .unset, .unset, .unset, .unset] [(.int ((p4 &&& (255 : Int32)).toUInt32.toUInt16.toUInt32.toInt32)), (.int (1 : Int32)), (.ref b2)])) rfl rfl (hb hby at_79)
  have O9 := O5.wr W9 g_b2
  have K9 : Keep h0 h9 [] := K5.wr W9 (Or.inr sz_b2)
  have N9 := Fr.snoc X9 N5 g_b2
  have sf10 := Safe.wr W9 sf6 C5 sf6
  have C9 : CHv Z own_EL s.vm h9 := C5.wr W9 sf6
  have R9 : CHr Z own_EL s.vm h0 s.vm h9 := R5.trans (CHr.wr W9 sf6 C5)
  have hk9 := Nat.le_trans hk5 (Keep.of_wr W9).1
  have f11 : Arv Z h9 b2 k2 .char (2 : Int32) [(.int (nar .char ((p3 &&& (255 : Int32)).toUInt32.toUInt16.toUInt32.toInt32))), (.int (nar .char ((p4 &&& (255 : Int32)).toUInt32.toUInt16.toUInt32.toInt32)))] (.int (0 : Int32)) := Arv.set Ar8 qk8 S8 Nn8 Hs8 Gf8 (fits_nar_char _) W9 1 rfl (Nat.le_of_ble_eq_true rfl)
  obtain ⟨T12, h12, X12, e12, E12, A12, D12, -, st12⟩ := newO X9 hx hZ hown (hw _ (List.mem_of_getElem? (i := 6) rfl)) (hw _ (List.mem_of_getElem? (i := 7) rfl)) (hw _ (List.mem_of_getElem? (i := 8) rfl)) e9 (g := (mkF m 98 #[.val (.int p1), .val (.int p2), .val (.int p3), .val (.int p4), .val (.int kk), .val (.ref ta1), .val (.int (0 : Int32)), .val (.int (0 : Int32)), .val (.int (1 : Int32)), .val (.ref b2), .unset, .unset, .unset, .unset, .unset] [])) rfl (hb hby at_98) (by decide) (by decide)
  obtain ⟨b12, g12⟩ : ∃ z, z = h9.size := ⟨_, rfl⟩
  have ne_b2_b12 : b2 ≠ b12 := Nat.ne_of_lt (Nat.lt_of_lt_of_le f11.lt (Nat.le_of_eq g12.symm))
  have ne_s_L1_b12 : s_L1 ≠ b12 := Nat.ne_of_lt (Nat.lt_of_lt_of_le (E_L1.ext O9.2).lt (Nat.le_of_eq g12.symm))
  have ne_s_L4_b12 : s_L4 ≠ b12 := Nat.ne_of_lt (Nat.lt_of_lt_of_le (E_L4.ext O9.2).lt (Nat.le_of_eq g12.symm))
  have ne_s_L3_b12 : s_L3 ≠ b12 := Nat.ne_of_lt (Nat.lt_of_lt_of_le (E_L3.ext O9.2).lt (Nat.le_of_eq g12.symm))
  have ne_s_L5_b12 : s_L5 ≠ b12 := Nat.ne_of_lt (Nat.lt_of_lt_of_le (E_L5.ext O9.2).lt (Nat.le_of_eq g12.symm))
  have ne_s_L2_b12 : s_L2 ≠ b12 := Nat.ne_of_lt (Nat.lt_of_lt_of_le (E_L2.ext O9.2).lt (Nat.le_of_eq g12.symm))
  have g_b12 : n0 ≤ b12 := Nat.le_trans (O9.1 ▸ O9.2.1) (Nat.le_of_eq g12.symm)
  have sz_b12 : h0.size ≤ b12 := Nat.le_trans K9.1 (Nat.le_of_eq g12.symm)
  have sn12 : Safe Z own_EL s.vm h9 b12 := Safe.new (Nat.le_of_eq g12.symm)
  rw [← g12] at A12 D12 st12
  have f13 := f11.ext E12
  have O12 := O9.ext E12
  have K12 : Keep h0 h12 [] := K9.ext E12
  have sf14 := Safe.ext E12 C9 sf10
  have sf15 := Safe.ext E12 C9 sn12
  have C12 : CHv Z own_EL s.vm h12 := C9.ext E12
  have R12 : CHr Z own_EL s.vm h0 s.vm h12 := R9.trans (CHr.ext E12 C9)
  have hk12 := Nat.le_trans hk9 E12.1
  have F12_21 : Fld Z h12 b12 "java/lang/String" "value" "[B" .null := D12 (Or.inr (hw _ (List.mem_of_getElem? (i := 21) rfl))) (ty := (.array .byte)) (by decide)
  have F12_22 : Fld Z h12 b12 "java/lang/String" "coder" "B" (.int (0 : Int32)) := D12 (Or.inr (hw _ (List.mem_of_getElem? (i := 22) rfl))) (ty := .byte) (by decide)
  obtain ⟨LL16, X16, N16⟩ : ∃ LL, Stand p l e room_1 (s.setVm s.vm) m #[(.int p1), (.int p2), (.int p3), (.int p4)] below meth c T12 LL 2 6 ∧ Fr n0 LL := ⟨_, X12, N9⟩
  obtain ⟨_, _, ⟨T17, L17, k17, n17⟩, -, X17, ⟨Lc17, hQ17, l17, y17, z17⟩, st17⟩ := X16.specialBack hx (y := (⟨"java/lang/String", "<init>", "([C)V"⟩ : MethodName)) rfl hown (mvT hZ (hw _ (List.mem_of_getElem? (i := 9) rfl))) (mvT hZ (hw _ (List.mem_of_getElem? (i := 10) rfl))) (mvT hZ (hw _ (List.mem_of_getElem? (i := 11) rfl))) (by decide) (backOf (W := 1) (r_s2 l Z a0 hw [] s_L1 s_L4 s_L3 s_L5 s_L2 cs1 h12 n0 O12 G0 b12 b2 k2 (nar .char ((p3 &&& (255 : Int32)).toUInt32.toUInt16.toUInt32.toInt32)) (nar .char ((p4 &&& (255 : Int32)).toUInt32.toUInt16.toUInt32.toInt32)) A12 g_b12 F12_22 F12_21 f13 (own_ch _) (own_ch _) ne_b2_b12) hZ (hw _ (List.mem_of_getElem? (i := 11) rfl)) (hw _ (List.mem_of_getElem? (i := 8) rfl)) (by decide) (by decide)) (g := (mkF m 104 #[.val (.int p1), .val (.int p2), .val (.int p3), .val (.int p4), .val (.int kk), .val (.ref ta1), .val (.int (0 : Int32)), .val (.int (0 : Int32)), .val (.int (1 : Int32)), .val (.ref b2), .unset, .unset, .unset, .unset, .unset] [(.ref b2), (.ref b12), (.ref b12)])) rfl (by rw [hml]; rfl) (Steps.refl _) (a := b12) (argsL := [(.ref b2)]) (rest := [(.ref b12)]) (lenOf pd_5 rfl) rfl (by show 2 * 0 + _ ≤ _; exact Nat.le_of_eq rfl) (hb hby at_104) (fun _ _ => ⟨rfl, e12, (by decide : 2 + 1 ≤ _), (by decide : 6 + 2 ≤ _)⟩)
  dsimp only [Pt.U, Pt.locs, Pt.cells, Pt.slots] at X17 l17 y17 z17 st17 hQ17
  subst l17 y17 z17
  obtain ⟨rfl, N17q, Kq17⟩ := hQ17
  have N17 := Fr.app N16 N17q
  have f18 := f13.keep Kq17 (fun q => (List.mem_cons.mp q).elim ne_b2_b12 (fun q => nomatch q))
  have f19 := A12.keep Kq17
  have O17 := O12.keep Kq17 (allS g_b12 all0)
  have K17 : Keep h0 T17.heap [] := K12.trans Kq17 (allS (Or.inr sz_b12) all0)
  have sf20 := Safe.keep Kq17 (sfS sf15 sf0) C12 sf14
  have sf21 := Safe.keep Kq17 (sfS sf15 sf0) C12 sf15
  have C17 : CHv Z own_EL s.vm T17.heap := C12.keep Kq17 (sfS sf15 sf0)
  have R17 : CHr Z own_EL s.vm h0 s.vm T17.heap := R12.trans (CHr.keep Kq17 (sfS sf15 sf0) C12)
  have hk17 := Nat.le_trans hk12 Kq17.1
  obtain ⟨T22, h22, X22, e22, E22, A22, D22, -, st22⟩ := newO X17 hx hZ hown (hw _ (List.mem_of_getElem? (i := 6) rfl)) (hw _ (List.mem_of_getElem? (i := 7) rfl)) (hw _ (List.mem_of_getElem? (i := 8) rfl)) rfl (g := (mkF m 127 #[.val (.int p1), .val (.int p2), .val (.int p3), .val (.int p4), .val (.int kk), .val (.ref ta1), .val (.int (0 : Int32)), .val (.int (0 : Int32)), .val (.int (1 : Int32)), .val (.ref b2), .val (.ref b12), .val .null, .unset, .unset, .unset] [])) rfl (hb hby at_127) (by decide) (by decide)
  obtain ⟨b22, g22⟩ : ∃ z, z = T17.heap.size := ⟨_, rfl⟩
  have ne_b2_b22 : b2 ≠ b22 := Nat.ne_of_lt (Nat.lt_of_lt_of_le f18.lt (Nat.le_of_eq g22.symm))
  have ne_b12_b22 : b12 ≠ b22 := Nat.ne_of_lt (Nat.lt_of_lt_of_le f19.lt (Nat.le_of_eq g22.symm))
  have ne_s_L1_b22 : s_L1 ≠ b22 := Nat.ne_of_lt (Nat.lt_of_lt_of_le (E_L1.ext O17.2).lt (Nat.le_of_eq g22.symm))
  have ne_s_L4_b22 : s_L4 ≠ b22 := Nat.ne_of_lt (Nat.lt_of_lt_of_le (E_L4.ext O17.2).lt (Nat.le_of_eq g22.symm))
  have ne_s_L3_b22 : s_L3 ≠ b22 := Nat.ne_of_lt (Nat.lt_of_lt_of_le (E_L3.ext O17.2).lt (Nat.le_of_eq g22.symm))
  have ne_s_L5_b22 : s_L5 ≠ b22 := Nat.ne_of_lt (Nat.lt_of_lt_of_le (E_L5.ext O17.2).lt (Nat.le_of_eq g22.symm))
  have ne_s_L2_b22 : s_L2 ≠ b22 := Nat.ne_of_lt (Nat.lt_of_lt_of_le (E_L2.ext O17.2).lt (Nat.le_of_eq g22.symm))
  have g_b22 : n0 ≤ b22 := Nat.le_trans (O17.1 ▸ O17.2.1) (Nat.le_of_eq g22.symm)
  have sz_b22 : h0.size ≤ b22 := Nat.le_trans K17.1 (Nat.le_of_eq g22.symm)
  have sn22 : Safe Z own_EL s.vm T17.heap b22 := Safe.new (Nat.le_of_eq g22.symm)
  rw [← g22] at A22 D22 st22
  have f23 := f18.ext E22
  have f24 := f19.ext E22
  have O22 := O17.ext E22
  have K22 : Keep h0 h22 [] := K17.ext E22
  have sf25 := Safe.ext E22 C17 sf20
  have sf26 := Safe.ext E22 C17 sf21
  have sf27 := Safe.ext E22 C17 sn22
  have C22 : CHv Z own_EL s.vm h22 := C17.ext E22
  have R22 : CHr Z own_EL s.vm h0 s.vm h22 := R17.trans (CHr.ext E22 C17)
  have hk22 := Nat.le_trans hk17 E22.1
  have F22_21 : Fld Z h22 b22 "java/lang/String" "value" "[B" .null := D22 (Or.inr (hw _ (List.mem_of_getElem? (i := 21) rfl))) (ty := (.array .byte)) (by decide)
  have F22_22 : Fld Z h22 b22 "java/lang/String" "coder" "B" (.int (0 : Int32)) := D22 (Or.inr (hw _ (List.mem_of_getElem? (i := 22) rfl))) (ty := .byte) (by decide)
  obtain ⟨_, _, ⟨T28, L28, k28, n28⟩, -, X28, ⟨Lc28, hQ28, l28, y28, z28⟩, st28⟩ := X22.specialBack hx (y := (⟨"java/lang/String", "<init>", "([C)V"⟩ : MethodName)) rfl hown (mvT hZ (hw _ (List.mem_of_getElem? (i := 9) rfl))) (mvT hZ (hw _ (List.mem_of_getElem? (i := 10) rfl))) (mvT hZ (hw _ (List.mem_of_getElem? (i := 11) rfl))) (by decide) (backOf (W := 1) (r_s2 l Z a0 hw [] s_L1 s_L4 s_L3 s_L5 s_L2 cs1 h22 n0 O22 G0 b22 b2 k2 (nar .char ((p3 &&& (255 : Int32)).toUInt32.toUInt16.toUInt32.toInt32)) (nar .char ((p4 &&& (255 : Int32)).toUInt32.toUInt16.toUInt32.toInt32)) A22 g_b22 F22_22 F22_21 f23 (own_ch _) (own_ch _) ne_b2_b22) hZ (hw _ (List.mem_of_getElem? (i := 11) rfl)) (hw _ (List.mem_of_getElem? (i := 8) rfl)) (by decide) (by decide)) (g := (mkF m 133 #[.val (.int p1), .val (.int p2), .val (.int p3), .val (.int p4), .val (.int kk), .val (.ref ta1), .val (.int (0 : Int32)), .val (.int (0 : Int32)), .val (.int (1 : Int32)), .val (.ref b2), .val (.ref b12), .val .null, .unset, .unset, .unset] [(.ref b2), (.ref b22), (.ref b22)])) rfl (by rw [hml]; rfl) (Steps.refl _) (a := b22) (argsL := [(.ref b2)]) (rest := [(.ref b22)]) (lenOf pd_5 rfl) rfl (by show 2 * 0 + _ ≤ _; exact Nat.le_of_eq rfl) (hb hby at_133) (fun _ _ => ⟨rfl, e22, (by decide : 4 + 1 ≤ _), (by decide : 12 + 2 ≤ _)⟩)
  dsimp only [Pt.U, Pt.locs, Pt.cells, Pt.slots] at X28 l28 y28 z28 st28 hQ28
  subst l28 y28 z28
  obtain ⟨rfl, N28q, Kq28⟩ := hQ28
  have N28 := Fr.app N17 N28q
  have f29 := f23.keep Kq28 (fun q => (List.mem_cons.mp q).elim ne_b2_b22 (fun q => nomatch q))
  have f30 := f24.keep Kq28
  have f31 := A22.keep Kq28
  have O28 := O22.keep Kq28 (allS g_b22 all0)
  have K28 : Keep h0 T28.heap [] := K22.trans Kq28 (allS (Or.inr sz_b22) all0)
  have sf32 := Safe.keep Kq28 (sfS sf27 sf0) C22 sf25
  have sf33 := Safe.keep Kq28 (sfS sf27 sf0) C22 sf26
  have sf34 := Safe.keep Kq28 (sfS sf27 sf0) C22 sf27
  have C28 : CHv Z own_EL s.vm T28.heap := C22.keep Kq28 (sfS sf27 sf0)
  have R28 : CHr Z own_EL s.vm h0 s.vm T28.heap := R22.trans (CHr.keep Kq28 (sfS sf27 sf0) C22)
  have hk28 := Nat.le_trans hk22 Kq28.1
  obtain ⟨T35, h35, X35, e35, E35, A35, D35, -, st35⟩ := newO X28 hx hZ hown (hw _ (List.mem_of_getElem? (i := 27) rfl)) (hw _ (List.mem_of_getElem? (i := 28) rfl)) (hw _ (List.mem_of_getElem? (i := 29) rfl)) rfl (g := (mkF m 142 #[.val (.int p1), .val (.int p2), .val (.int p3), .val (.int p4), .val (.int kk), .val (.ref ta1), .val (.int (0 : Int32)), .val (.int (0 : Int32)), .val (.int (1 : Int32)), .val (.ref b2), .val (.ref b12), .val .null, .val (.ref b22), .unset, .unset] [])) rfl (hb hby at_142) (by decide) (by decide)
  obtain ⟨b35, g35⟩ : ∃ z, z = T28.heap.size := ⟨_, rfl⟩
  have ne_b2_b35 : b2 ≠ b35 := Nat.ne_of_lt (Nat.lt_of_lt_of_le f29.lt (Nat.le_of_eq g35.symm))
  have ne_b12_b35 : b12 ≠ b35 := Nat.ne_of_lt (Nat.lt_of_lt_of_le f30.lt (Nat.le_of_eq g35.symm))
  have ne_b22_b35 : b22 ≠ b35 := Nat.ne_of_lt (Nat.lt_of_lt_of_le f31.lt (Nat.le_of_eq g35.symm))
  have ne_s_L1_b35 : s_L1 ≠ b35 := Nat.ne_of_lt (Nat.lt_of_lt_of_le (E_L1.ext O28.2).lt (Nat.le_of_eq g35.symm))
  have ne_s_L4_b35 : s_L4 ≠ b35 := Nat.ne_of_lt (Nat.lt_of_lt_of_le (E_L4.ext O28.2).lt (Nat.le_of_eq g35.symm))
  have ne_s_L3_b35 : s_L3 ≠ b35 := Nat.ne_of_lt (Nat.lt_of_lt_of_le (E_L3.ext O28.2).lt (Nat.le_of_eq g35.symm))
  have ne_s_L5_b35 : s_L5 ≠ b35 := Nat.ne_of_lt (Nat.lt_of_lt_of_le (E_L5.ext O28.2).lt (Nat.le_of_eq g35.symm))
  have ne_s_L2_b35 : s_L2 ≠ b35 := Nat.ne_of_lt (Nat.lt_of_lt_of_le (E_L2.ext O28.2).lt (Nat.le_of_eq g35.symm))
  have g_b35 : n0 ≤ b35 := Nat.le_trans (O28.1 ▸ O28.2.1) (Nat.le_of_eq g35.symm)
  have sz_b35 : h0.size ≤ b35 := Nat.le_trans K28.1 (Nat.le_of_eq g35.symm)
  have sn35 : Safe Z own_EL s.vm T28.heap b35 := Safe.new (Nat.le_of_eq g35.symm)
  rw [← g35] at A35 D35 st35
  have f36 := f29.ext E35
  have f37 := f30.ext E35
  have f38 := f31.ext E35
  have O35 := O28.ext E35
  have K35 : Keep h0 h35 [] := K28.ext E35
  have sf39 := Safe.ext E35 C28 sf32
  have sf40 := Safe.ext E35 C28 sf33
  have sf41 := Safe.ext E35 C28 sf34
  have sf42 := Safe.ext E35 C28 sn35
  have C35 : CHv Z own_EL s.vm h35 := C28.ext E35
  have R35 : CHr Z own_EL s.vm h0 s.vm h35 := R28.trans (CHr.ext E35 C28)
  have hk35 := Nat.le_trans hk28 E35.1
  have F35_35 : Fld Z h35 b35 "com/example/pending_actions/pendingactions/policy/Assessment" "tier" "Lcom/example/pending_actions/pendingactions/policy/RiskTier;" .null := D35 (Or.inr (hw _ (List.mem_of_getElem? (i := 35) rfl))) (ty := (.object "com/example/pending_actions/pendingactions/policy/RiskTier")) (by decide)
  have F35_37 : Fld Z h35 b35 "com/example/pending_actions/pendingactions/policy/Assessment" "decider" "Ljava/lang/String;" .null := D35 (Or.inr (hw _ (List.mem_of_getElem? (i := 37) rfl))) (ty := (.object "java/lang/String")) (by decide)
  have F35_39 : Fld Z h35 b35 "com/example/pending_actions/pendingactions/policy/Assessment" "policyVersion" "Ljava/lang/String;" .null := D35 (Or.inr (hw _ (List.mem_of_getElem? (i := 39) rfl))) (ty := (.object "java/lang/String")) (by decide)
  obtain ⟨_, _, ⟨T43, L43, k43, n43⟩, -, X43, ⟨Lc43, hQ43, l43, y43, z43⟩, st43⟩ := X35.specialBack hx (y := (⟨"com/example/pending_actions/pendingactions/policy/Assessment", "<init>", "(Lcom/example/pending_actions/pendingactions/policy/RiskTier;Ljava/lang/String;Ljava/lang/String;)V"⟩ : MethodName)) rfl hown (mvT hZ (hw _ (List.mem_of_getElem? (i := 30) rfl))) (mvT hZ (hw _ (List.mem_of_getElem? (i := 31) rfl))) (mvT hZ (hw _ (List.mem_of_getElem? (i := 32) rfl))) (by decide) (backOf (W := 1) (r_ai5 l Z a0 hw [] s_L1 s_L4 s_L3 s_L5 s_L2 cs1 h35 n0 O35 G0 b35 ta1 b22 A35 g_b35 F35_35 F35_37 F35_39) hZ (hw _ (List.mem_of_getElem? (i := 32) rfl)) (hw _ (List.mem_of_getElem? (i := 29) rfl)) (by decide) (by decide)) (g := (mkF m 152 #[.val (.int p1), .val (.int p2), .val (.int p3), .val (.int p4), .val (.int kk), .val (.ref ta1), .val (.int (0 : Int32)), .val (.int (0 : Int32)), .val (.int (1 : Int32)), .val (.ref b2), .val (.ref b12), .val .null, .val (.ref b22), .unset, .unset] [(.ref b22), .null, (.ref ta1), (.ref b35), (.ref b35)])) rfl (by rw [hml]; rfl) (Steps.refl _) (a := b35) (argsL := [(.ref ta1), .null, (.ref b22)]) (rest := [(.ref b35)]) (lenOf pd_6 rfl) rfl (by show 2 * 0 + _ ≤ _; exact Nat.le_of_eq rfl) (hb hby at_152) (fun _ _ => ⟨rfl, e35, (by decide : 6 + 0 ≤ _), (by decide : 17 + 0 ≤ _)⟩)
  dsimp only [Pt.U, Pt.locs, Pt.cells, Pt.slots] at X43 l43 y43 z43 st43 hQ43
  subst l43 y43 z43
  obtain ⟨rfl, N43q, Kq43, Ft43, Fd43⟩ := hQ43
  have N43 := Fr.app N28 N43q
  have f44 := f36.keep Kq43 (fun q => (List.mem_cons.mp q).elim ne_b2_b35 (fun q => nomatch q))
  have f45 := f37.keep Kq43
  have f46 := f38.keep Kq43
  have f47 := A35.keep Kq43
  have O43 := O35.keep Kq43 (allS g_b35 all0)
  have K43 : Keep h0 T43.heap [] := K35.trans Kq43 (allS (Or.inr sz_b35) all0)
  have sf48 := Safe.keep Kq43 (sfS sf42 sf0) C35 sf39
  have sf49 := Safe.keep Kq43 (sfS sf42 sf0) C35 sf40
  have sf50 := Safe.keep Kq43 (sfS sf42 sf0) C35 sf41
  have sf51 := Safe.keep Kq43 (sfS sf42 sf0) C35 sf42
  have C43 : CHv Z own_EL s.vm T43.heap := C35.keep Kq43 (sfS sf42 sf0)
  have R43 : CHr Z own_EL s.vm h0 s.vm T43.heap := R35.trans (CHr.keep Kq43 (sfS sf42 sf0) C35)
  have hk43 := Nat.le_trans hk35 Kq43.1
  obtain ⟨cq52, kq52, q52a, q52b, q52c⟩ := isOf hZ rfl f47
  obtain ⟨_, _, ⟨T52, L52, k52, n52⟩, -, X52, ⟨Lc52, hQ52, l52, y52, z52⟩, st52⟩ := X43.virtualBack hx (y := (⟨"com/example/pending_actions/pendingactions/policy/Assessment", "isAutoApproved", "()Z"⟩ : MethodName)) (z := (⟨"com/example/pending_actions/pendingactions/policy/Assessment", "isAutoApproved", "()Z"⟩ : MethodName)) hown (mvT hZ (hw _ (List.mem_of_getElem? (i := 40) rfl))) (mvT hZ (hw _ (List.mem_of_getElem? (i := 41) rfl))) (notFace_of_selects (args := #[]) (mvT hZ (hw _ (List.mem_of_getElem? (i := 43) rfl)))) (mvT hZ (hw _ (List.mem_of_getElem? (i := 43) rfl))) (mvT hZ (hw _ (List.mem_of_getElem? (i := 42) rfl))) (by decide) (backOf (W := 0) (r_aa1 l Z a0 hw [] s_L1 s_L4 s_L3 s_L5 s_L2 cs1 T43.heap n0 O43 G0 b35 ta1 Ft43 Fd43) hZ (hw _ (List.mem_of_getElem? (i := 44) rfl)) (hw _ (List.mem_of_getElem? (i := 29) rfl)) (by decide) (by decide)) q52a q52c (g := (mkF m 176 #[.val (.int p1), .val (.int p2), .val (.int p3), .val (.int p4), .val (.int kk), .val (.ref ta1), .val (.int (0 : Int32)), .val (.int (0 : Int32)), .val (.int (1 : Int32)), .val (.ref b2), .val (.ref b12), .val .null, .val (.ref b22), .val (.ref b35), .val (.int (0 : Int32))] [(.ref b35)])) rfl (by rw [hml]; rfl) (Steps.refl _) (argsL := []) (rest := []) (lenOf pd_7 rfl) rfl (by show 2 * 0 + _ ≤ _; exact Nat.le_of_eq rfl) (hb hby at_176) (fun _ _ => ⟨rfl, rfl, (by decide : 6 + 0 ≤ _), (by decide : 17 + 0 ≤ _)⟩)
  dsimp only [Pt.U, Pt.locs, Pt.cells, Pt.slots] at X52 l52 y52 z52 st52 hQ52
  subst l52 y52 z52
  obtain ⟨rfl, N52q, e52⟩ := hQ52
  have N52 := Fr.app N43 N52q
  obtain ⟨fs, hr, hrun, hended, hRW⟩ := X52.leaveW hS0 (by rw [e52]; exact hk43) (v := some (.int (1 : Int32))) (fun h => by rw [Bd.returns] at h; cases h)
  refine ⟨_, _, pre0 _ ?_, hrun, hended, _, _, rfl, ?_, ?_, hRW.1, hRW.2.1, hRW.2.2.1, hRW.2.2.2.mono (by decide) (by decide)⟩
  · show Steps p.tables e below (s₁.setTop (mkF m 0 #[.val (.int p1), .val (.int p2), .val (.int p3), .val (.int p4), .unset, .unset, .unset, .unset, .unset, .unset, .unset, .unset, .unset, .unset, .unset] [])) _
    refine XS.iloadN X0.here hx rfl (hb hby at_0) rfl ?_
    show Steps p.tables e below (s₁.setTop (mkF m 1 #[.val (.int p1), .val (.int p2), .val (.int p3), .val (.int p4), .unset, .unset, .unset, .unset, .unset, .unset, .unset, .unset, .unset, .unset, .unset] [(.int p1)])) _
    refine X0.ldcInt hx hown (mvT hZ (hw _ (List.mem_of_getElem? (i := 0) rfl))) (g := (mkF m 1 #[.val (.int p1), .val (.int p2), .val (.int p3), .val (.int p4), .unset, .unset, .unset, .unset, .unset, .unset, .unset, .unset, .unset, .unset, .unset] [(.int p1)])) rfl (hb hby at_1) _ ?_
    show Steps p.tables e below (s₁.setTop (mkF m 3 #[.val (.int p1), .val (.int p2), .val (.int p3), .val (.int p4), .unset, .unset, .unset, .unset, .unset, .unset, .unset, .unset, .unset, .unset, .unset] [(.int (2147483647 : Int32)), (.int p1)])) _
    refine XS.iand X0.here hx rfl (hb hby at_3) rfl ?_
    refine XS.bipush X0.here hx rfl (hb hby at_4) ?_
    show Steps p.tables e below (s₁.setTop (mkF m 6 #[.val (.int p1), .val (.int p2), .val (.int p3), .val (.int p4), .unset, .unset, .unset, .unset, .unset, .unset, .unset, .unset, .unset, .unset, .unset] [(.int (6 : Int32)), (.int (p1 &&& (2147483647 : Int32)))])) _
    refine iremM X0 hx rfl (hb hby at_6) rfl (by decide) ?_
    show Steps p.tables e below (s₁.setTop (mkF m 7 #[.val (.int p1), .val (.int p2), .val (.int p3), .val (.int p4), .unset, .unset, .unset, .unset, .unset, .unset, .unset, .unset, .unset, .unset, .unset] [(.int ((p1 &&& (2147483647 : Int32)) % (6 : Int32)))])) _
    rw [hk]
    show Steps p.tables e below (s₁.setTop (mkF m 7 #[.val (.int p1), .val (.int p2), .val (.int p3), .val (.int p4), .unset, .unset, .unset, .unset, .unset, .unset, .unset, .unset, .unset, .unset, .unset] [(.int kk)])) _
    refine XS.istore X0.here hx rfl (hb hby at_7) rfl (l' := #[.val (.int p1), .val (.int p2), .val (.int p3), .val (.int p4), .val (.int kk), .unset, .unset, .unset, .unset, .unset, .unset, .unset, .unset, .unset, .unset]) rfl ?_
    refine XS.iload X0.here hx rfl (hb hby at_9) rfl ?_
    show Steps p.tables e below (s₁.setTop (mkF m 11 #[.val (.int p1), .val (.int p2), .val (.int p3), .val (.int p4), .val (.int kk), .unset, .unset, .unset, .unset, .unset, .unset, .unset, .unset, .unset, .unset] [(.int kk)])) _
    refine st1 _ ?_
    show Steps p.tables e below (T1.setTop (mkF m 14 #[.val (.int p1), .val (.int p2), .val (.int p3), .val (.int p4), .val (.int kk), .unset, .unset, .unset, .unset, .unset, .unset, .unset, .unset, .unset, .unset] [(.ref ta1)])) _
    refine XS.astore X1.here hx rfl (hb hby at_14) rfl rfl (l' := #[.val (.int p1), .val (.int p2), .val (.int p3), .val (.int p4), .val (.int kk), .val (.ref ta1), .unset, .unset, .unset, .unset, .unset, .unset, .unset, .unset, .unset]) rfl ?_
    refine XS.iloadN X1.here hx rfl (hb hby at_16) rfl ?_
    refine XS.iconst X1.here hx rfl (hb hby at_17) ?_
    refine XS.iand X1.here hx rfl (hb hby at_18) rfl ?_
    refine XS.ifYes X1.here hx rfl (pc0 := 19) (pc' := 26) rfl (hb hby at_19) rfl ((if0 _ _).trans (teq (hf0_ : (p2 &&& (1 : Int32)) = (0 : Int32))).1) (by decide) (by decide) ?_
    show Steps p.tables e below (T1.setTop (mkF m 26 #[.val (.int p1), .val (.int p2), .val (.int p3), .val (.int p4), .val (.int kk), .val (.ref ta1), .unset, .unset, .unset, .unset, .unset, .unset, .unset, .unset, .unset] [])) _
    refine XS.iconst X1.here hx rfl (hb hby at_26) ?_
    refine XS.istore X1.here hx rfl (hb hby at_27) rfl (l' := #[.val (.int p1), .val (.int p2), .val (.int p3), .val (.int p4), .val (.int kk), .val (.ref ta1), .val (.int (0 : Int32)), .unset, .unset, .unset, .unset, .unset, .unset, .unset, .unset]) rfl ?_
    refine XS.iloadN X1.here hx rfl (hb hby at_29) rfl ?_
    refine XS.iconst X1.here hx rfl (hb hby at_30) ?_
    refine XS.iand X1.here hx rfl (hb hby at_31) rfl ?_
    show Steps p.tables e below (T1.setTop (mkF m 32 #[.val (.int p1), .val (.int p2), .val (.int p3), .val (.int p4), .val (.int kk), .val (.ref ta1), .val (.int (0 : Int32)), .unset, .unset, .unset, .unset, .unset, .unset, .unset, .unset] [(.int (p2 &&& (2 : Int32)))])) _
    refine XS.ifYes X1.here hx rfl (pc0 := 32) (pc' := 39) rfl (hb hby at_32) rfl ((if0 _ _).trans (teq (hf1_ : (p2 &&& (2 : Int32)) = (0 : Int32))).1) (by decide) (by decide) ?_
    refine XS.iconst X1.here hx rfl (hb hby at_39) ?_
    refine XS.istore X1.here hx rfl (hb hby at_40) rfl (l' := #[.val (.int p1), .val (.int p2), .val (.int p3), .val (.int p4), .val (.int kk), .val (.ref ta1), .val (.int (0 : Int32)), .val (.int (0 : Int32)), .unset, .unset, .unset, .unset, .unset, .unset, .unset]) rfl ?_
    refine XS.iloadN X1.here hx rfl (hb hby at_42) rfl ?_
    refine XS.iconst X1.here hx rfl (hb hby at_43) ?_
    show Steps p.tables e below (T1.setTop (mkF m 44 #[.val (.int p1), .val (.int p2), .val (.int p3), .val (.int p4), .val (.int kk), .val (.ref ta1), .val (.int (0 : Int32)), .val (.int (0 : Int32)), .unset, .unset, .unset, .unset, .unset, .unset, .unset] [(.int (4 : Int32)), (.int p2)])) _
    refine XS.iand X1.here hx rfl (hb hby at_44) rfl ?_
    refine XS.ifNo X1.here hx rfl (hb hby at_45) rfl ((if0 _ _).trans (feq (hf2_ : ¬ ((p2 &&& (4 : Int32)) = (0 : Int32)))).1) ?_
    refine XS.iconst X1.here hx rfl (hb hby at_48) ?_
    refine XS.goto X1.here hx rfl (pc0 := 49) (pc' := 53) rfl (hb hby at_49) (by decide) (by decide) ?_
    refine XS.istore X1.here hx rfl (hb hby at_53) rfl (l' := #[.val (.int p1), .val (.int p2), .val (.int p3), .val (.int p4), .val (.int kk), .val (.ref ta1), .val (.int (0 : Int32)), .val (.int (0 : Int32)), .val (.int (1 : Int32)), .unset, .unset, .unset, .unset, .unset, .unset]) rfl ?_
    show Steps p.tables e below (T1.setTop (mkF m 55 #[.val (.int p1), .val (.int p2), .val (.int p3), .val (.int p4), .val (.int kk), .val (.ref ta1), .val (.int (0 : Int32)), .val (.int (0 : Int32)), .val (.int (1 : Int32)), .unset, .unset, .unset, .unset, .unset, .unset] [])) _
    refine XS.iconst X1.here hx rfl (hb hby at_55) ?_
    show Steps p.tables e below (T1.setTop (mkF m 56 #[.val (.int p1), .val (.int p2), .val (.int p3), .val (.int p4), .val (.int kk), .val (.ref ta1), .val (.int (0 : Int32)), .val (.int (0 : Int32)), .val (.int (1 : Int32)), .unset, .unset, .unset, .unset, .unset, .unset] [(.int (2 : Int32))])) _
    refine st2 _ ?_
    show Steps p.tables e below (T2.setTop (mkF m 58 #[.val (.int p1), .val (.int p2), .val (.int p3), .val (.int p4), .val (.int kk), .val (.ref ta1), .val (.int (0 : Int32)), .val (.int (0 : Int32)), .val (.int (1 : Int32)), .unset, .unset, .unset, .unset, .unset, .unset] [(.ref b2)])) _
    refine XS.astore X2.here hx rfl (hb hby at_58) rfl rfl (l' := #[.val (.int p1), .val (.int p2), .val (.int p3), .val (.int p4), .val (.int kk), .val (.ref ta1), .val (.int (0 : Int32)), .val (.int (0 : Int32)), .val (.int (1 : Int32)), .val (.ref b2), .unset, .unset, .unset, .unset, .unset]) rfl ?_
    refine XS.aload X2.here hx rfl (hb hby at_60) rfl rfl ?_
    refine XS.iconst X2.here hx rfl (hb hby at_62) ?_
    refine XS.iloadN X2.here hx rfl (hb hby at_63) rfl ?_
    refine XS.sipush X2.here hx rfl (hb hby at_64) ?_
    show Steps p.tables e below (T2.setTop (mkF m 67 #[.val (.int p1), .val (.int p2), .val (.int p3), .val (.int p4), .val (.int kk), .val (.ref ta1), .val (.int (0 : Int32)), .val (.int (0 : Int32)), .val (.int (1 : Int32)), .val (.ref b2), .unset, .unset, .unset, .unset, .unset] [(.int (255 : Int32)), (.int p3), (.int (0 : Int32)), (.ref b2)])) _
    refine XS.iand X2.here hx rfl (hb hby at_67) rfl ?_
    refine XS.i2c X2.here hx rfl (hb hby at_68) rfl ?_
    show Steps p.tables e below (T2.setTop (mkF m 69 #[.val (.int p1), .val (.int p2), .val (.int p3), .val (.int p4), .val (.int kk), .val (.ref ta1), .val (.int (0 : Int32)), .val (.int (0 : Int32)), .val (.int (1 : Int32)), .val (.ref b2), .unset, .unset, .unset, .unset, .unset] [(.int ((p3 &&& (255 : Int32)).toUInt32.toUInt16.toUInt32.toInt32)), (.int (0 : Int32)), (.ref b2)])) _
    refine st5 _ ?_
    show Steps p.tables e below (T5.setTop (mkF m 70 #[.val (.int p1), .val (.int p2), .val (.int p3), .val (.int p4), .val (.int kk), .val (.ref ta1), .val (.int (0 : Int32)), .val (.int (0 : Int32)), .val (.int (1 : Int32)), .val (.ref b2), .unset, .unset, .unset, .unset, .unset] [])) _
    refine XS.aload X5.here hx rfl (hb hby at_70) rfl rfl ?_
    refine XS.iconst X5.here hx rfl (hb hby at_72) ?_
    refine XS.iloadN X5.here hx rfl (hb hby at_73) rfl ?_
    refine XS.sipush X5.here hx rfl (hb hby at_74) ?_
    refine XS.iand X5.here hx rfl (hb hby at_77) rfl ?_
    show Steps p.tables e below (T5.setTop (mkF m 78 #[.val (.int p1), .val (.int p2), .val (.int p3), .val (.int p4), .val (.int kk), .val (.ref ta1), .val (.int (0 : Int32)), .val (.int (0 : Int32)), .val (.int (1 : Int32)), .val (.ref b2), .unset, .unset, .unset, .unset, .unset] [(.int (p4 &&& (255 : Int32))), (.int (1 : Int32)), (.ref b2)])) _
    refine XS.i2c X5.here hx rfl (hb hby at_78) rfl ?_
    show Steps p.tables e below (T5.setTop (mkF m 79 #[.val (.int p1), .val (.int p2), .val (.int p3), .val (.int p4), .val (.int kk), .val (.ref ta1), .val (.int (0 : Int32)), .val (.int (0 : Int32)), .val (.int (1 : Int32)), .val (.ref b2), .unset, .unset, .unset, .unset, .unset] [(.int ((p4 &&& (255 : Int32)).toUInt32.toUInt16.toUInt32.toInt32)), (.int (1 : Int32)), (.ref b2)])) _
    refine st9 _ ?_
    show Steps p.tables e below (T9.setTop (mkF m 80 #[.val (.int p1), .val (.int p2), .val (.int p3), .val (.int p4), .val (.int kk), .val (.ref ta1), .val (.int (0 : Int32)), .val (.int (0 : Int32)), .val (.int (1 : Int32)), .val (.ref b2), .unset, .unset, .unset, .unset, .unset] [])) _
    refine XS.iload X9.here hx rfl (hb hby at_80) rfl ?_
    refine XS.ifYes X9.here hx rfl (pc0 := 82) (pc' := 98) rfl (hb hby at_82) rfl ((if0 _ _).trans (teq (by decide : (0 : Int32) = (0 : Int32))).1) (by decide) (by decide) ?_
    show Steps p.tables e below (T9.setTop (mkF m 98 #[.val (.int p1), .val (.int p2), .val (.int p3), .val (.int p4), .val (.int kk), .val (.ref ta1), .val (.int (0 : Int32)), .val (.int (0 : Int32)), .val (.int (1 : Int32)), .val (.ref b2), .unset, .unset, .unset, .unset, .unset] [])) _
    refine st12 _ ?_
    show Steps p.tables e below (T12.setTop (mkF m 101 #[.val (.int p1), .val (.int p2), .val (.int p3), .val (.int p4), .val (.int kk), .val (.ref ta1), .val (.int (0 : Int32)), .val (.int (0 : Int32)), .val (.int (1 : Int32)), .val (.ref b2), .unset, .unset, .unset, .unset, .unset] [(.ref b12)])) _
    refine XS.dup X12.here hx rfl (hb hby at_101) rfl rfl ?_
    refine XS.aload X12.here hx rfl (hb hby at_102) rfl rfl ?_
    show Steps p.tables e below (T12.setTop (mkF m 104 #[.val (.int p1), .val (.int p2), .val (.int p3), .val (.int p4), .val (.int kk), .val (.ref ta1), .val (.int (0 : Int32)), .val (.int (0 : Int32)), .val (.int (1 : Int32)), .val (.ref b2), .unset, .unset, .unset, .unset, .unset] [(.ref b2), (.ref b12), (.ref b12)])) _
    refine st17.trans ?_
    show Steps p.tables e below (T17.setTop (mkF m 107 #[.val (.int p1), .val (.int p2), .val (.int p3), .val (.int p4), .val (.int kk), .val (.ref ta1), .val (.int (0 : Int32)), .val (.int (0 : Int32)), .val (.int (1 : Int32)), .val (.ref b2), .unset, .unset, .unset, .unset, .unset] [(.ref b12)])) _
    refine XS.astore X17.here hx rfl (hb hby at_107) rfl rfl (l' := #[.val (.int p1), .val (.int p2), .val (.int p3), .val (.int p4), .val (.int kk), .val (.ref ta1), .val (.int (0 : Int32)), .val (.int (0 : Int32)), .val (.int (1 : Int32)), .val (.ref b2), .val (.ref b12), .unset, .unset, .unset, .unset]) rfl ?_
    refine XS.iload X17.here hx rfl (hb hby at_109) rfl ?_
    refine XS.ifYes X17.here hx rfl (pc0 := 111) (pc' := 119) rfl (hb hby at_111) rfl ((if0 _ _).trans (teq (by decide : (0 : Int32) = (0 : Int32))).1) (by decide) (by decide) ?_
    refine XS.aconstNull X17.here hx rfl (hb hby at_119) ?_
    refine XS.astore X17.here hx rfl (hb hby at_120) rfl rfl (l' := #[.val (.int p1), .val (.int p2), .val (.int p3), .val (.int p4), .val (.int kk), .val (.ref ta1), .val (.int (0 : Int32)), .val (.int (0 : Int32)), .val (.int (1 : Int32)), .val (.ref b2), .val (.ref b12), .val .null, .unset, .unset, .unset]) rfl ?_
    show Steps p.tables e below (T17.setTop (mkF m 122 #[.val (.int p1), .val (.int p2), .val (.int p3), .val (.int p4), .val (.int kk), .val (.ref ta1), .val (.int (0 : Int32)), .val (.int (0 : Int32)), .val (.int (1 : Int32)), .val (.ref b2), .val (.ref b12), .val .null, .unset, .unset, .unset] [])) _
    refine XS.iload X17.here hx rfl (hb hby at_122) rfl ?_
    refine XS.ifNo X17.here hx rfl (hb hby at_124) rfl ((if0 _ _).trans (feq (by decide : ¬ ((1 : Int32) = (0 : Int32)))).1) ?_
    show Steps p.tables e below (T17.setTop (mkF m 127 #[.val (.int p1), .val (.int p2), .val (.int p3), .val (.int p4), .val (.int kk), .val (.ref ta1), .val (.int (0 : Int32)), .val (.int (0 : Int32)), .val (.int (1 : Int32)), .val (.ref b2), .val (.ref b12), .val .null, .unset, .unset, .unset] [])) _
    refine st22 _ ?_
    show Steps p.tables e below (T22.setTop (mkF m 130 #[.val (.int p1), .val (.int p2), .val (.int p3), .val (.int p4), .val (.int kk), .val (.ref ta1), .val (.int (0 : Int32)), .val (.int (0 : Int32)), .val (.int (1 : Int32)), .val (.ref b2), .val (.ref b12), .val .null, .unset, .unset, .unset] [(.ref b22)])) _
    refine XS.dup X22.here hx rfl (hb hby at_130) rfl rfl ?_
    refine XS.aload X22.here hx rfl (hb hby at_131) rfl rfl ?_
    show Steps p.tables e below (T22.setTop (mkF m 133 #[.val (.int p1), .val (.int p2), .val (.int p3), .val (.int p4), .val (.int kk), .val (.ref ta1), .val (.int (0 : Int32)), .val (.int (0 : Int32)), .val (.int (1 : Int32)), .val (.ref b2), .val (.ref b12), .val .null, .unset, .unset, .unset] [(.ref b2), (.ref b22), (.ref b22)])) _
    refine st28.trans ?_
    show Steps p.tables e below (T28.setTop (mkF m 136 #[.val (.int p1), .val (.int p2), .val (.int p3), .val (.int p4), .val (.int kk), .val (.ref ta1), .val (.int (0 : Int32)), .val (.int (0 : Int32)), .val (.int (1 : Int32)), .val (.ref b2), .val (.ref b12), .val .null, .unset, .unset, .unset] [(.ref b22)])) _
    refine XS.goto X28.here hx rfl (pc0 := 136) (pc' := 140) rfl (hb hby at_136) (by decide) (by decide) ?_
    refine XS.astore X28.here hx rfl (hb hby at_140) rfl rfl (l' := #[.val (.int p1), .val (.int p2), .val (.int p3), .val (.int p4), .val (.int kk), .val (.ref ta1), .val (.int (0 : Int32)), .val (.int (0 : Int32)), .val (.int (1 : Int32)), .val (.ref b2), .val (.ref b12), .val .null, .val (.ref b22), .unset, .unset]) rfl ?_
    show Steps p.tables e below (T28.setTop (mkF m 142 #[.val (.int p1), .val (.int p2), .val (.int p3), .val (.int p4), .val (.int kk), .val (.ref ta1), .val (.int (0 : Int32)), .val (.int (0 : Int32)), .val (.int (1 : Int32)), .val (.ref b2), .val (.ref b12), .val .null, .val (.ref b22), .unset, .unset] [])) _
    refine st35 _ ?_
    show Steps p.tables e below (T35.setTop (mkF m 145 #[.val (.int p1), .val (.int p2), .val (.int p3), .val (.int p4), .val (.int kk), .val (.ref ta1), .val (.int (0 : Int32)), .val (.int (0 : Int32)), .val (.int (1 : Int32)), .val (.ref b2), .val (.ref b12), .val .null, .val (.ref b22), .unset, .unset] [(.ref b35)])) _
    refine XS.dup X35.here hx rfl (hb hby at_145) rfl rfl ?_
    refine XS.aload X35.here hx rfl (hb hby at_146) rfl rfl ?_
    refine XS.aload X35.here hx rfl (hb hby at_148) rfl rfl ?_
    refine XS.aload X35.here hx rfl (hb hby at_150) rfl rfl ?_
    show Steps p.tables e below (T35.setTop (mkF m 152 #[.val (.int p1), .val (.int p2), .val (.int p3), .val (.int p4), .val (.int kk), .val (.ref ta1), .val (.int (0 : Int32)), .val (.int (0 : Int32)), .val (.int (1 : Int32)), .val (.ref b2), .val (.ref b12), .val .null, .val (.ref b22), .unset, .unset] [(.ref b22), .null, (.ref ta1), (.ref b35), (.ref b35)])) _
    refine st43.trans ?_
    show Steps p.tables e below (T43.setTop (mkF m 155 #[.val (.int p1), .val (.int p2), .val (.int p3), .val (.int p4), .val (.int kk), .val (.ref ta1), .val (.int (0 : Int32)), .val (.int (0 : Int32)), .val (.int (1 : Int32)), .val (.ref b2), .val (.ref b12), .val .null, .val (.ref b22), .unset, .unset] [(.ref b35)])) _
    refine XS.astore X43.here hx rfl (hb hby at_155) rfl rfl (l' := #[.val (.int p1), .val (.int p2), .val (.int p3), .val (.int p4), .val (.int kk), .val (.ref ta1), .val (.int (0 : Int32)), .val (.int (0 : Int32)), .val (.int (1 : Int32)), .val (.ref b2), .val (.ref b12), .val .null, .val (.ref b22), .val (.ref b35), .unset]) rfl ?_
    refine XS.iload X43.here hx rfl (hb hby at_157) rfl ?_
    refine XS.ifNo X43.here hx rfl (hb hby at_159) rfl ((if0 _ _).trans (feq ((by rcases hk1 with h | h | h | h | h <;> rw [h] <;> decide) : ¬ (kk = (0 : Int32)))).1) ?_
    refine XS.iload X43.here hx rfl (hb hby at_162) rfl ?_
    refine XS.ifYes X43.here hx rfl (pc0 := 164) (pc' := 171) rfl (hb hby at_164) rfl ((if0 _ _).trans (teq (by decide : (0 : Int32) = (0 : Int32))).1) (by decide) (by decide) ?_
    show Steps p.tables e below (T43.setTop (mkF m 171 #[.val (.int p1), .val (.int p2), .val (.int p3), .val (.int p4), .val (.int kk), .val (.ref ta1), .val (.int (0 : Int32)), .val (.int (0 : Int32)), .val (.int (1 : Int32)), .val (.ref b2), .val (.ref b12), .val .null, .val (.ref b22), .val (.ref b35), .unset] [])) _
    refine XS.iconst X43.here hx rfl (hb hby at_171) ?_
    refine XS.istore X43.here hx rfl (hb hby at_172) rfl (l' := #[.val (.int p1), .val (.int p2), .val (.int p3), .val (.int p4), .val (.int kk), .val (.ref ta1), .val (.int (0 : Int32)), .val (.int (0 : Int32)), .val (.int (1 : Int32)), .val (.ref b2), .val (.ref b12), .val .null, .val (.ref b22), .val (.ref b35), .val (.int (0 : Int32))]) rfl ?_
    refine XS.aload X43.here hx rfl (hb hby at_174) rfl rfl ?_
    show Steps p.tables e below (T43.setTop (mkF m 176 #[.val (.int p1), .val (.int p2), .val (.int p3), .val (.int p4), .val (.int kk), .val (.ref ta1), .val (.int (0 : Int32)), .val (.int (0 : Int32)), .val (.int (1 : Int32)), .val (.ref b2), .val (.ref b12), .val .null, .val (.ref b22), .val (.ref b35), .val (.int (0 : Int32))] [(.ref b35)])) _
    refine st52.trans ?_
    show Steps p.tables e below (T52.setTop (mkF m 179 #[.val (.int p1), .val (.int p2), .val (.int p3), .val (.int p4), .val (.int kk), .val (.ref ta1), .val (.int (0 : Int32)), .val (.int (0 : Int32)), .val (.int (1 : Int32)), .val (.ref b2), .val (.ref b12), .val .null, .val (.ref b22), .val (.ref b35), .val (.int (0 : Int32))] [(.int (0 : Int32))])) _
    refine XS.iload X52.here hx rfl (hb hby at_179) rfl ?_
    refine XS.icmpNo X52.here hx rfl (hb hby at_181) rfl (teq (by decide : (0 : Int32) = (0 : Int32))).2 ?_
    refine XS.iconst X52.here hx rfl (hb hby at_184) ?_
    refine XS.goto X52.here hx rfl (pc0 := 185) (pc' := 189) rfl (hb hby at_185) (by decide) (by decide) ?_
    show Steps p.tables e below (T52.setTop (mkF m 189 #[.val (.int p1), .val (.int p2), .val (.int p3), .val (.int p4), .val (.int kk), .val (.ref ta1), .val (.int (0 : Int32)), .val (.int (0 : Int32)), .val (.int (1 : Int32)), .val (.ref b2), .val (.ref b12), .val .null, .val (.ref b22), .val (.ref b35), .val (.int (0 : Int32))] [(.int (1 : Int32))])) _
    exact retN X52 hx (t := .boolean) Bd.returns (by simp) (hb hby at_189) hr
  · show own_Qk (some (.int (1 : Int32))) [] h0 n0 _ T52.heap _
    rw [e52]
    exact ⟨rfl, N52, K43⟩
  · show CHr Z own_EL s.vm s.heap T52.vm T52.heap
    rw [hh, e52]
    exact R43.trans (CHv.at (s := s) (vm0 := s.vm) X52 hZ hEL C43)
set_option maxRecDepth 65536 in
set_option maxHeartbeats 40000000 in
theorem r_law10 (l : Launch) (Z : State) (a0 : Array Value) (hw : ∀ d ∈ tables_1, d.before a0 Z = true) (ws : List Jvm.Cond) (s_L1 s_L4 s_L3 s_L5 s_L2 : Addr) (cs1 : Int32) (h0 : Heap) (n0 : Nat) (O0 : Old Z n0 h0) (G : own_Ctx Z Z.heap s_L1 s_L4 s_L3 s_L5 s_L2 cs1) (hEL : EW Z a0 own_EL) (wS : ∀ a ∈ Bundle.stringAtoms, a.before a0 Z = true) (p1 p2 p3 p4 : Int32) (hk : (p1 &&& (2147483647 : Int32)) % (6 : Int32) = (0 : Int32)) (hf0_ : ¬ ((p2 &&& (1 : Int32)) = (0 : Int32))) (hf1_ : (p2 &&& (2 : Int32)) = (0 : Int32)) (hf2_ : ¬ ((p2 &&& (4 : Int32)) = (0 : Int32))) :
    MetFree l x (head1 (Jvm.Cond.code x code maxLocals ret :: ws) room_1) (fun a U => a = #[(.int p1), (.int p2), (.int p3), (.int p4)] ∧ Z.Warmed39 U.vm ∧ U.heap = h0 ∧ CHv Z own_EL U.vm h0) (fun _ _ _ _ _ => True) (fun _ U o U' => ∃ v L, o = .returned v ∧ own_Qk (some (.int (1 : Int32))) [] h0 n0 v U'.heap L ∧ CHr Z own_EL U.vm U.heap U'.vm U'.heap ∧ ReturnedEndW U o U' L 24 1152) := by
  have G0 := G
  obtain ⟨S_L1, E_L1, S_L4, E_L4, S_L3, E_L3, S_L5, E_L5, S_L2, E_L2, S_CS, N_CS⟩ := G
  refine MetFree.of_bodySF (plainFor_of_name pn_0) hisR ?_
  intro p e s m args below meth c s₁ Bd hml0 hP hK
  obtain ⟨rfl, hZ, hh, hC⟩ := hP
  have hx := Bd.exec
  have hby := Bd.bytes
  have hml : c.maxLocals = 15 := hml0
  have hown : s.vm.findClass "com/example/pending_actions/pendingactions/policy/AssessmentIsAutoApprovedPinLaw" = some m.cls := findClass_of_methodNamed Bd.named
  have hnm := (name_of_methodNamed Bd.named Bd.method).1
  have X0 : Stand p l e room_1 (s.setVm s.vm) m #[(.int p1), (.int p2), (.int p3), (.int p4)] below meth c s₁ [] 0 0 := Stand.of_body Bd
  have e0 : s₁.heap = h0 := by rw [← hh, Bd.state]; rfl
  have N0 := Fr.nil n0
  have hS0 : s.Since s.vm h0.size := State.WarmedH.since (State.WarmedH.refl s) _
  have hk0 : h0.size ≤ h0.size := Nat.le_refl _
  have pre0 : ∀ t, Steps p.tables e below (s₁.setTop (mkF m 0 #[.val (.int p1), .val (.int p2), .val (.int p3), .val (.int p4), .unset, .unset, .unset, .unset, .unset, .unset, .unset, .unset, .unset, .unset, .unset] [])) t → Steps p.tables e below (s₁.setTop (entryFrame m #[(.int p1), (.int p2), (.int p3), (.int p4)] maxLocals)) t := fun t k => castTop (ef_0_15 m p1 p2 p3 p4) k
  obtain ⟨_, _, ⟨T1, L1, k1, n1⟩, -, X1, ⟨Lc1, hQ1, l1, y1, z1⟩, st1⟩ := Jvm.LawKit.callS X0 hx (y := (⟨"com/example/pending_actions/pendingactions/policy/AssessmentIsAutoApprovedPinLaw", "pick", "(I)Lcom/example/pending_actions/pendingactions/policy/RiskTier;"⟩ : MethodName)) hown (mvT hZ (hw _ (List.mem_of_getElem? (i := 1) rfl))) (mvT hZ (hw _ (List.mem_of_getElem? (i := 2) rfl))) (mvT hZ (hw _ (List.mem_of_getElem? (i := 3) rfl))) (mvT hZ (hw _ (List.mem_of_getElem? (i := 4) rfl))) (by decide) (backOf (W := 0) (r_tier_0 l Z a0 hw [] s_L1 s_L4 s_L3 s_L5 s_L2 cs1 h0 n0 O0 G0) hZ (hw _ (List.mem_of_getElem? (i := 4) rfl)) (hw _ (List.mem_of_getElem? (i := 3) rfl)) (by decide) (by decide)) (g := (mkF m 11 #[.val (.int p1), .val (.int p2), .val (.int p3), .val (.int p4), .val (.int (0 : Int32)), .unset, .unset, .unset, .unset, .unset, .unset, .unset, .unset, .unset, .unset] [(.int (0 : Int32))])) rfl (by rw [hml]; rfl) (argsL := [(.int (0 : Int32))]) (rest := []) (lenOf pd_4 rfl) rfl (by show 2 * 0 + _ ≤ _; exact Nat.le_of_eq rfl) (hb hby at_11) (fun _ _ => ⟨rfl, e0, (by decide : 0 + 0 ≤ _), (by decide : 0 + 0 ≤ _)⟩)
  dsimp only [Pt.U, Pt.locs, Pt.cells, Pt.slots] at X1 l1 y1 z1 st1 hQ1
  subst l1 y1 z1
  obtain ⟨rfl, N1q, e1⟩ := hQ1
  have N1 := Fr.app N0 N1q
  obtain ⟨T2, h2, k2, X2, e2, E2, A2, st2⟩ := newP X1 hx hZ (hw _ (List.mem_of_getElem? (i := 5) rfl)) e1 (g := (mkF m 56 #[.val (.int p1), .val (.int p2), .val (.int p3), .val (.int p4), .val (.int (0 : Int32)), .val .null, .val (.int (1 : Int32)), .val (.int (0 : Int32)), .val (.int (1 : Int32)), .unset, .unset, .unset, .unset, .unset, .unset] [(.int (2 : Int32))])) rfl (hb hby at_56) rfl (by decide) (cap := 2) (by decide) (by decide) (by decide) (by decide)
  obtain ⟨b2, g2⟩ : ∃ z, z = h0.size := ⟨_, rfl⟩
  have ne_s_L1_b2 : s_L1 ≠ b2 := Nat.ne_of_lt (Nat.lt_of_lt_of_le (E_L1.ext O0.2).lt (Nat.le_of_eq g2.symm))
  have ne_s_L4_b2 : s_L4 ≠ b2 := Nat.ne_of_lt (Nat.lt_of_lt_of_le (E_L4.ext O0.2).lt (Nat.le_of_eq g2.symm))
  have ne_s_L3_b2 : s_L3 ≠ b2 := Nat.ne_of_lt (Nat.lt_of_lt_of_le (E_L3.ext O0.2).lt (Nat.le_of_eq g2.symm))
  have ne_s_L5_b2 : s_L5 ≠ b2 := Nat.ne_of_lt (Nat.lt_of_lt_of_le (E_L5.ext O0.2).lt (Nat.le_of_eq g2.symm))
  have ne_s_L2_b2 : s_L2 ≠ b2 := Nat.ne_of_lt (Nat.lt_of_lt_of_le (E_L2.ext O0.2).lt (Nat.le_of_eq g2.symm))
  have g_b2 : n0 ≤ b2 := Nat.le_trans (O0.1 ▸ O0.2.1) (Nat.le_of_eq g2.symm)
  have sz_b2 : h0.size ≤ b2 := Nat.le_trans (Keep.refl h0 []).1 (Nat.le_of_eq g2.symm)
  have sn2 : Safe Z own_EL s.vm h0 b2 := Safe.new (Nat.le_of_eq g2.symm)
  rw [← g2] at A2 st2
  have O2 := O0.ext E2
  have K2 : Keep h0 h2 [] := (Keep.refl h0 []).ext E2
  have sf3 := Safe.ext E2 hC sn2
  have C2 : CHv Z own_EL s.vm h2 := hC.ext E2
  have R2 : CHr Z own_EL s.vm h0 s.vm h2 := (CHr.refl hC).trans (CHr.ext E2 hC)
  have hk2 := Nat.le_trans hk0 E2.1
  have V2 : Arv Z h2 b2 k2 .char (2 : Int32) [(.int (0 : Int32)), (.int (0 : Int32))] (.int (0 : Int32)) := (Arv.new A2 (by decide)).pad (pad_rep [] (.int (0 : Int32)) 2)
  have vc4 := V2
  obtain ⟨cl4, Ar4, qk4, S4, Nn4, Hs4, Gf4⟩ := vc4
  have hin4 : ¬ ((0 : Int32) < 0 ∨ cl4.slots.size ≤ ((0 : Int32)).toNatClampNeg) := inb_of S4 ⟨by decide, by decide⟩
  obtain ⟨T5, h5, X5, e5, W5, st5⟩ := stC X2 hx hZ e2 Ar4 (j := (0 : Int32)) hin4 (g := (mkF m 69 #[.val (.int p1), .val (.int p2), .val (.int p3), .val (.int p4), .val (.int (0 : Int32)), .val .null, .val (.int (1 : Int32)), .val (.int (0 : Int32)), .val (.int (1 : Int32)), .val (.ref b2), .unset, .unset, .unset, .unset, .unset] [(.int ((p3 &&& (255 : Int32)).toUInt32.toUInt16.toUInt32.toInt32)), (.int (0 : Int32)), (.ref b2)])) rfl rfl (hb hby at_69)
  have O5 := O2.wr W5 g_b2
  have K5 : Keep h0 h5 [] := K2.wr W5 (Or.inr sz_b2)
  have N5 := Fr.snoc X5 N1 g_b2
  have sf6 := Safe.wr W5 sf3 C2 sf3
  have C5 : CHv Z own_EL s.vm h5 := C2.wr W5 sf3
  have R5 : CHr Z own_EL s.vm h0 s.vm h5 := R2.trans (CHr.wr W5 sf3 C2)
  have hk5 := Nat.le_trans hk2 (Keep.of_wr W5).1
  have f7 : Arv Z h5 b2 k2 .char (2 : Int32) [(.int (nar .char ((p3 &&& (255 : Int32)).toUInt32.toUInt16.toUInt32.toInt32))), (.int (0 : Int32))] (.int (0 : Int32)) := Arv.set Ar4 qk4 S4 Nn4 Hs4 Gf4 (fits_nar_char _) W5 0 rfl (Nat.le_of_ble_eq_true rfl)
  have vc8 := f7
  obtain ⟨cl8, Ar8, qk8, S8, Nn8, Hs8, Gf8⟩ := vc8
  have hin8 : ¬ ((1 : Int32) < 0 ∨ cl8.slots.size ≤ ((1 : Int32)).toNatClampNeg) := inb_of S8 ⟨by decide, by decide⟩
  obtain ⟨T9, h9, X9, e9, W9, st9⟩ := stC X5 hx hZ e5 Ar8 (j := (1 : Int32)) hin8 (g := (mkF m 79 #[.val (.int p1), .val (.int p2), .val (.int p3), .val (.int p4), .val (.int (0 : Int32)), .val .null, .val (.int (1 : Int32)), .val (.int (0 : Int32)), .val (.int (1 : Int32)), .val (.ref b2), .unset, .unset, .unset, .unset, .unset] [(.int ((p4 &&& (255 : Int32)).toUInt32.toUInt16.toUInt32.toInt32)), (.int (1 : Int32)), (.ref b2)])) rfl rfl (hb hby at_79)
  have O9 := O5.wr W9 g_b2
  have K9 : Keep h0 h9 [] := K5.wr W9 (Or.inr sz_b2)
  have N9 := Fr.snoc X9 N5 g_b2
  have sf10 := Safe.wr W9 sf6 C5 sf6
  have C9 : CHv Z own_EL s.vm h9 := C5.wr W9 sf6
  have R9 : CHr Z own_EL s.vm h0 s.vm h9 := R5.trans (CHr.wr W9 sf6 C5)
  have hk9 := Nat.le_trans hk5 (Keep.of_wr W9).1
  have f11 : Arv Z h9 b2 k2 .char (2 : Int32) [(.int (nar .char ((p3 &&& (255 : Int32)).toUInt32.toUInt16.toUInt32.toInt32))), (.int (nar .char ((p4 &&& (255 : Int32)).toUInt32.toUInt16.toUInt32.toInt32)))] (.int (0 : Int32)) := Arv.set Ar8 qk8 S8 Nn8 Hs8 Gf8 (fits_nar_char _) W9 1 rfl (Nat.le_of_ble_eq_true rfl)
  obtain ⟨T12, h12, X12, e12, E12, A12, D12, -, st12⟩ := newO X9 hx hZ hown (hw _ (List.mem_of_getElem? (i := 6) rfl)) (hw _ (List.mem_of_getElem? (i := 7) rfl)) (hw _ (List.mem_of_getElem? (i := 8) rfl)) e9 (g := (mkF m 98 #[.val (.int p1), .val (.int p2), .val (.int p3), .val (.int p4), .val (.int (0 : Int32)), .val .null, .val (.int (1 : Int32)), .val (.int (0 : Int32)), .val (.int (1 : Int32)), .val (.ref b2), .unset, .unset, .unset, .unset, .unset] [])) rfl (hb hby at_98) (by decide) (by decide)
  obtain ⟨b12, g12⟩ : ∃ z, z = h9.size := ⟨_, rfl⟩
  have ne_b2_b12 : b2 ≠ b12 := Nat.ne_of_lt (Nat.lt_of_lt_of_le f11.lt (Nat.le_of_eq g12.symm))
  have ne_s_L1_b12 : s_L1 ≠ b12 := Nat.ne_of_lt (Nat.lt_of_lt_of_le (E_L1.ext O9.2).lt (Nat.le_of_eq g12.symm))
  have ne_s_L4_b12 : s_L4 ≠ b12 := Nat.ne_of_lt (Nat.lt_of_lt_of_le (E_L4.ext O9.2).lt (Nat.le_of_eq g12.symm))
  have ne_s_L3_b12 : s_L3 ≠ b12 := Nat.ne_of_lt (Nat.lt_of_lt_of_le (E_L3.ext O9.2).lt (Nat.le_of_eq g12.symm))
  have ne_s_L5_b12 : s_L5 ≠ b12 := Nat.ne_of_lt (Nat.lt_of_lt_of_le (E_L5.ext O9.2).lt (Nat.le_of_eq g12.symm))
  have ne_s_L2_b12 : s_L2 ≠ b12 := Nat.ne_of_lt (Nat.lt_of_lt_of_le (E_L2.ext O9.2).lt (Nat.le_of_eq g12.symm))
  have g_b12 : n0 ≤ b12 := Nat.le_trans (O9.1 ▸ O9.2.1) (Nat.le_of_eq g12.symm)
  have sz_b12 : h0.size ≤ b12 := Nat.le_trans K9.1 (Nat.le_of_eq g12.symm)
  have sn12 : Safe Z own_EL s.vm h9 b12 := Safe.new (Nat.le_of_eq g12.symm)
  rw [← g12] at A12 D12 st12
  have f13 := f11.ext E12
  have O12 := O9.ext E12
  have K12 : Keep h0 h12 [] := K9.ext E12
  have sf14 := Safe.ext E12 C9 sf10
  have sf15 := Safe.ext E12 C9 sn12
  have C12 : CHv Z own_EL s.vm h12 := C9.ext E12
  have R12 : CHr Z own_EL s.vm h0 s.vm h12 := R9.trans (CHr.ext E12 C9)
  have hk12 := Nat.le_trans hk9 E12.1
  have F12_21 : Fld Z h12 b12 "java/lang/String" "value" "[B" .null := D12 (Or.inr (hw _ (List.mem_of_getElem? (i := 21) rfl))) (ty := (.array .byte)) (by decide)
  have F12_22 : Fld Z h12 b12 "java/lang/String" "coder" "B" (.int (0 : Int32)) := D12 (Or.inr (hw _ (List.mem_of_getElem? (i := 22) rfl))) (ty := .byte) (by decide)
  obtain ⟨LL16, X16, N16⟩ : ∃ LL, Stand p l e room_1 (s.setVm s.vm) m #[(.int p1), (.int p2), (.int p3), (.int p4)] below meth c T12 LL 2 6 ∧ Fr n0 LL := ⟨_, X12, N9⟩
  obtain ⟨_, _, ⟨T17, L17, k17, n17⟩, -, X17, ⟨Lc17, hQ17, l17, y17, z17⟩, st17⟩ := X16.specialBack hx (y := (⟨"java/lang/String", "<init>", "([C)V"⟩ : MethodName)) rfl hown (mvT hZ (hw _ (List.mem_of_getElem? (i := 9) rfl))) (mvT hZ (hw _ (List.mem_of_getElem? (i := 10) rfl))) (mvT hZ (hw _ (List.mem_of_getElem? (i := 11) rfl))) (by decide) (backOf (W := 1) (r_s2 l Z a0 hw [] s_L1 s_L4 s_L3 s_L5 s_L2 cs1 h12 n0 O12 G0 b12 b2 k2 (nar .char ((p3 &&& (255 : Int32)).toUInt32.toUInt16.toUInt32.toInt32)) (nar .char ((p4 &&& (255 : Int32)).toUInt32.toUInt16.toUInt32.toInt32)) A12 g_b12 F12_22 F12_21 f13 (own_ch _) (own_ch _) ne_b2_b12) hZ (hw _ (List.mem_of_getElem? (i := 11) rfl)) (hw _ (List.mem_of_getElem? (i := 8) rfl)) (by decide) (by decide)) (g := (mkF m 104 #[.val (.int p1), .val (.int p2), .val (.int p3), .val (.int p4), .val (.int (0 : Int32)), .val .null, .val (.int (1 : Int32)), .val (.int (0 : Int32)), .val (.int (1 : Int32)), .val (.ref b2), .unset, .unset, .unset, .unset, .unset] [(.ref b2), (.ref b12), (.ref b12)])) rfl (by rw [hml]; rfl) (Steps.refl _) (a := b12) (argsL := [(.ref b2)]) (rest := [(.ref b12)]) (lenOf pd_5 rfl) rfl (by show 2 * 0 + _ ≤ _; exact Nat.le_of_eq rfl) (hb hby at_104) (fun _ _ => ⟨rfl, e12, (by decide : 2 + 1 ≤ _), (by decide : 6 + 2 ≤ _)⟩)
  dsimp only [Pt.U, Pt.locs, Pt.cells, Pt.slots] at X17 l17 y17 z17 st17 hQ17
  subst l17 y17 z17
  obtain ⟨rfl, N17q, Kq17⟩ := hQ17
  have N17 := Fr.app N16 N17q
  have f18 := f13.keep Kq17 (fun q => (List.mem_cons.mp q).elim ne_b2_b12 (fun q => nomatch q))
  have f19 := A12.keep Kq17
  have O17 := O12.keep Kq17 (allS g_b12 all0)
  have K17 : Keep h0 T17.heap [] := K12.trans Kq17 (allS (Or.inr sz_b12) all0)
  have sf20 := Safe.keep Kq17 (sfS sf15 sf0) C12 sf14
  have sf21 := Safe.keep Kq17 (sfS sf15 sf0) C12 sf15
  have C17 : CHv Z own_EL s.vm T17.heap := C12.keep Kq17 (sfS sf15 sf0)
  have R17 : CHr Z own_EL s.vm h0 s.vm T17.heap := R12.trans (CHr.keep Kq17 (sfS sf15 sf0) C12)
  have hk17 := Nat.le_trans hk12 Kq17.1
  obtain ⟨T22, h22, X22, e22, E22, A22, D22, -, st22⟩ := newO X17 hx hZ hown (hw _ (List.mem_of_getElem? (i := 6) rfl)) (hw _ (List.mem_of_getElem? (i := 7) rfl)) (hw _ (List.mem_of_getElem? (i := 8) rfl)) rfl (g := (mkF m 127 #[.val (.int p1), .val (.int p2), .val (.int p3), .val (.int p4), .val (.int (0 : Int32)), .val .null, .val (.int (1 : Int32)), .val (.int (0 : Int32)), .val (.int (1 : Int32)), .val (.ref b2), .val (.ref b12), .val (.ref b12), .unset, .unset, .unset] [])) rfl (hb hby at_127) (by decide) (by decide)
  obtain ⟨b22, g22⟩ : ∃ z, z = T17.heap.size := ⟨_, rfl⟩
  have ne_b2_b22 : b2 ≠ b22 := Nat.ne_of_lt (Nat.lt_of_lt_of_le f18.lt (Nat.le_of_eq g22.symm))
  have ne_b12_b22 : b12 ≠ b22 := Nat.ne_of_lt (Nat.lt_of_lt_of_le f19.lt (Nat.le_of_eq g22.symm))
  have ne_s_L1_b22 : s_L1 ≠ b22 := Nat.ne_of_lt (Nat.lt_of_lt_of_le (E_L1.ext O17.2).lt (Nat.le_of_eq g22.symm))
  have ne_s_L4_b22 : s_L4 ≠ b22 := Nat.ne_of_lt (Nat.lt_of_lt_of_le (E_L4.ext O17.2).lt (Nat.le_of_eq g22.symm))
  have ne_s_L3_b22 : s_L3 ≠ b22 := Nat.ne_of_lt (Nat.lt_of_lt_of_le (E_L3.ext O17.2).lt (Nat.le_of_eq g22.symm))
  have ne_s_L5_b22 : s_L5 ≠ b22 := Nat.ne_of_lt (Nat.lt_of_lt_of_le (E_L5.ext O17.2).lt (Nat.le_of_eq g22.symm))
  have ne_s_L2_b22 : s_L2 ≠ b22 := Nat.ne_of_lt (Nat.lt_of_lt_of_le (E_L2.ext O17.2).lt (Nat.le_of_eq g22.symm))
  have g_b22 : n0 ≤ b22 := Nat.le_trans (O17.1 ▸ O17.2.1) (Nat.le_of_eq g22.symm)
  have sz_b22 : h0.size ≤ b22 := Nat.le_trans K17.1 (Nat.le_of_eq g22.symm)
  have sn22 : Safe Z own_EL s.vm T17.heap b22 := Safe.new (Nat.le_of_eq g22.symm)
  rw [← g22] at A22 D22 st22
  have f23 := f18.ext E22
  have f24 := f19.ext E22
  have O22 := O17.ext E22
  have K22 : Keep h0 h22 [] := K17.ext E22
  have sf25 := Safe.ext E22 C17 sf20
  have sf26 := Safe.ext E22 C17 sf21
  have sf27 := Safe.ext E22 C17 sn22
  have C22 : CHv Z own_EL s.vm h22 := C17.ext E22
  have R22 : CHr Z own_EL s.vm h0 s.vm h22 := R17.trans (CHr.ext E22 C17)
  have hk22 := Nat.le_trans hk17 E22.1
  have F22_21 : Fld Z h22 b22 "java/lang/String" "value" "[B" .null := D22 (Or.inr (hw _ (List.mem_of_getElem? (i := 21) rfl))) (ty := (.array .byte)) (by decide)
  have F22_22 : Fld Z h22 b22 "java/lang/String" "coder" "B" (.int (0 : Int32)) := D22 (Or.inr (hw _ (List.mem_of_getElem? (i := 22) rfl))) (ty := .byte) (by decide)
  obtain ⟨_, _, ⟨T28, L28, k28, n28⟩, -, X28, ⟨Lc28, hQ28, l28, y28, z28⟩, st28⟩ := X22.specialBack hx (y := (⟨"java/lang/String", "<init>", "([C)V"⟩ : MethodName)) rfl hown (mvT hZ (hw _ (List.mem_of_getElem? (i := 9) rfl))) (mvT hZ (hw _ (List.mem_of_getElem? (i := 10) rfl))) (mvT hZ (hw _ (List.mem_of_getElem? (i := 11) rfl))) (by decide) (backOf (W := 1) (r_s2 l Z a0 hw [] s_L1 s_L4 s_L3 s_L5 s_L2 cs1 h22 n0 O22 G0 b22 b2 k2 (nar .char ((p3 &&& (255 : Int32)).toUInt32.toUInt16.toUInt32.toInt32)) (nar .char ((p4 &&& (255 : Int32)).toUInt32.toUInt16.toUInt32.toInt32)) A22 g_b22 F22_22 F22_21 f23 (own_ch _) (own_ch _) ne_b2_b22) hZ (hw _ (List.mem_of_getElem? (i := 11) rfl)) (hw _ (List.mem_of_getElem? (i := 8) rfl)) (by decide) (by decide)) (g := (mkF m 133 #[.val (.int p1), .val (.int p2), .val (.int p3), .val (.int p4), .val (.int (0 : Int32)), .val .null, .val (.int (1 : Int32)), .val (.int (0 : Int32)), .val (.int (1 : Int32)), .val (.ref b2), .val (.ref b12), .val (.ref b12), .unset, .unset, .unset] [(.ref b2), (.ref b22), (.ref b22)])) rfl (by rw [hml]; rfl) (Steps.refl _) (a := b22) (argsL := [(.ref b2)]) (rest := [(.ref b22)]) (lenOf pd_5 rfl) rfl (by show 2 * 0 + _ ≤ _; exact Nat.le_of_eq rfl) (hb hby at_133) (fun _ _ => ⟨rfl, e22, (by decide : 4 + 1 ≤ _), (by decide : 12 + 2 ≤ _)⟩)
  dsimp only [Pt.U, Pt.locs, Pt.cells, Pt.slots] at X28 l28 y28 z28 st28 hQ28
  subst l28 y28 z28
  obtain ⟨rfl, N28q, Kq28⟩ := hQ28
  have N28 := Fr.app N17 N28q
  have f29 := f23.keep Kq28 (fun q => (List.mem_cons.mp q).elim ne_b2_b22 (fun q => nomatch q))
  have f30 := f24.keep Kq28
  have f31 := A22.keep Kq28
  have O28 := O22.keep Kq28 (allS g_b22 all0)
  have K28 : Keep h0 T28.heap [] := K22.trans Kq28 (allS (Or.inr sz_b22) all0)
  have sf32 := Safe.keep Kq28 (sfS sf27 sf0) C22 sf25
  have sf33 := Safe.keep Kq28 (sfS sf27 sf0) C22 sf26
  have sf34 := Safe.keep Kq28 (sfS sf27 sf0) C22 sf27
  have C28 : CHv Z own_EL s.vm T28.heap := C22.keep Kq28 (sfS sf27 sf0)
  have R28 : CHr Z own_EL s.vm h0 s.vm T28.heap := R22.trans (CHr.keep Kq28 (sfS sf27 sf0) C22)
  have hk28 := Nat.le_trans hk22 Kq28.1
  obtain ⟨T35, h35, X35, e35, E35, A35, D35, -, st35⟩ := newO X28 hx hZ hown (hw _ (List.mem_of_getElem? (i := 27) rfl)) (hw _ (List.mem_of_getElem? (i := 28) rfl)) (hw _ (List.mem_of_getElem? (i := 29) rfl)) rfl (g := (mkF m 142 #[.val (.int p1), .val (.int p2), .val (.int p3), .val (.int p4), .val (.int (0 : Int32)), .val .null, .val (.int (1 : Int32)), .val (.int (0 : Int32)), .val (.int (1 : Int32)), .val (.ref b2), .val (.ref b12), .val (.ref b12), .val (.ref b22), .unset, .unset] [])) rfl (hb hby at_142) (by decide) (by decide)
  obtain ⟨b35, g35⟩ : ∃ z, z = T28.heap.size := ⟨_, rfl⟩
  have ne_b2_b35 : b2 ≠ b35 := Nat.ne_of_lt (Nat.lt_of_lt_of_le f29.lt (Nat.le_of_eq g35.symm))
  have ne_b12_b35 : b12 ≠ b35 := Nat.ne_of_lt (Nat.lt_of_lt_of_le f30.lt (Nat.le_of_eq g35.symm))
  have ne_b22_b35 : b22 ≠ b35 := Nat.ne_of_lt (Nat.lt_of_lt_of_le f31.lt (Nat.le_of_eq g35.symm))
  have ne_s_L1_b35 : s_L1 ≠ b35 := Nat.ne_of_lt (Nat.lt_of_lt_of_le (E_L1.ext O28.2).lt (Nat.le_of_eq g35.symm))
  have ne_s_L4_b35 : s_L4 ≠ b35 := Nat.ne_of_lt (Nat.lt_of_lt_of_le (E_L4.ext O28.2).lt (Nat.le_of_eq g35.symm))
  have ne_s_L3_b35 : s_L3 ≠ b35 := Nat.ne_of_lt (Nat.lt_of_lt_of_le (E_L3.ext O28.2).lt (Nat.le_of_eq g35.symm))
  have ne_s_L5_b35 : s_L5 ≠ b35 := Nat.ne_of_lt (Nat.lt_of_lt_of_le (E_L5.ext O28.2).lt (Nat.le_of_eq g35.symm))
  have ne_s_L2_b35 : s_L2 ≠ b35 := Nat.ne_of_lt (Nat.lt_of_lt_of_le (E_L2.ext O28.2).lt (Nat.le_of_eq g35.symm))
  have g_b35 : n0 ≤ b35 := Nat.le_trans (O28.1 ▸ O28.2.1) (Nat.le_of_eq g35.symm)
  have sz_b35 : h0.size ≤ b35 := Nat.le_trans K28.1 (Nat.le_of_eq g35.symm)
  have sn35 : Safe Z own_EL s.vm T28.heap b35 := Safe.new (Nat.le_of_eq g35.symm)
  rw [← g35] at A35 D35 st35
  have f36 := f29.ext E35
  have f37 := f30.ext E35
  have f38 := f31.ext E35
  have O35 := O28.ext E35
  have K35 : Keep h0 h35 [] := K28.ext E35
  have sf39 := Safe.ext E35 C28 sf32
  have sf40 := Safe.ext E35 C28 sf33
  have sf41 := Safe.ext E35 C28 sf34
  have sf42 := Safe.ext E35 C28 sn35
  have C35 : CHv Z own_EL s.vm h35 := C28.ext E35
  have R35 : CHr Z own_EL s.vm h0 s.vm h35 := R28.trans (CHr.ext E35 C28)
  have hk35 := Nat.le_trans hk28 E35.1
  have F35_35 : Fld Z h35 b35 "com/example/pending_actions/pendingactions/policy/Assessment" "tier" "Lcom/example/pending_actions/pendingactions/policy/RiskTier;" .null := D35 (Or.inr (hw _ (List.mem_of_getElem? (i := 35) rfl))) (ty := (.object "com/example/pending_actions/pendingactions/policy/RiskTier")) (by decide)
  have F35_37 : Fld Z h35 b35 "com/example/pending_actions/pendingactions/policy/Assessment" "decider" "Ljava/lang/String;" .null := D35 (Or.inr (hw _ (List.mem_of_getElem? (i := 37) rfl))) (ty := (.object "java/lang/String")) (by decide)
  have F35_39 : Fld Z h35 b35 "com/example/pending_actions/pendingactions/policy/Assessment" "policyVersion" "Ljava/lang/String;" .null := D35 (Or.inr (hw _ (List.mem_of_getElem? (i := 39) rfl))) (ty := (.object "java/lang/String")) (by decide)
  obtain ⟨_, _, ⟨T43, L43, k43, n43⟩, -, X43, ⟨Lc43, hQ43, l43, y43, z43⟩, st43⟩ := X35.specialBack hx (y := (⟨"com/example/pending_actions/pendingactions/policy/Assessment", "<init>", "(Lcom/example/pending_actions/pendingactions/policy/RiskTier;Ljava/lang/String;Ljava/lang/String;)V"⟩ : MethodName)) rfl hown (mvT hZ (hw _ (List.mem_of_getElem? (i := 30) rfl))) (mvT hZ (hw _ (List.mem_of_getElem? (i := 31) rfl))) (mvT hZ (hw _ (List.mem_of_getElem? (i := 32) rfl))) (by decide) (backOf (W := 1) (r_ai6 l Z a0 hw [] s_L1 s_L4 s_L3 s_L5 s_L2 cs1 h35 n0 O35 G0 b35 b12 b22 A35 g_b35 F35_35 F35_37 F35_39) hZ (hw _ (List.mem_of_getElem? (i := 32) rfl)) (hw _ (List.mem_of_getElem? (i := 29) rfl)) (by decide) (by decide)) (g := (mkF m 152 #[.val (.int p1), .val (.int p2), .val (.int p3), .val (.int p4), .val (.int (0 : Int32)), .val .null, .val (.int (1 : Int32)), .val (.int (0 : Int32)), .val (.int (1 : Int32)), .val (.ref b2), .val (.ref b12), .val (.ref b12), .val (.ref b22), .unset, .unset] [(.ref b22), (.ref b12), .null, (.ref b35), (.ref b35)])) rfl (by rw [hml]; rfl) (Steps.refl _) (a := b35) (argsL := [.null, (.ref b12), (.ref b22)]) (rest := [(.ref b35)]) (lenOf pd_6 rfl) rfl (by show 2 * 0 + _ ≤ _; exact Nat.le_of_eq rfl) (hb hby at_152) (fun _ _ => ⟨rfl, e35, (by decide : 6 + 0 ≤ _), (by decide : 17 + 0 ≤ _)⟩)
  dsimp only [Pt.U, Pt.locs, Pt.cells, Pt.slots] at X43 l43 y43 z43 st43 hQ43
  subst l43 y43 z43
  obtain ⟨rfl, N43q, Kq43, Ft43, Fd43⟩ := hQ43
  have N43 := Fr.app N28 N43q
  have f44 := f36.keep Kq43 (fun q => (List.mem_cons.mp q).elim ne_b2_b35 (fun q => nomatch q))
  have f45 := f37.keep Kq43
  have f46 := f38.keep Kq43
  have f47 := A35.keep Kq43
  have O43 := O35.keep Kq43 (allS g_b35 all0)
  have K43 : Keep h0 T43.heap [] := K35.trans Kq43 (allS (Or.inr sz_b35) all0)
  have sf48 := Safe.keep Kq43 (sfS sf42 sf0) C35 sf39
  have sf49 := Safe.keep Kq43 (sfS sf42 sf0) C35 sf40
  have sf50 := Safe.keep Kq43 (sfS sf42 sf0) C35 sf41
  have sf51 := Safe.keep Kq43 (sfS sf42 sf0) C35 sf42
  have C43 : CHv Z own_EL s.vm T43.heap := C35.keep Kq43 (sfS sf42 sf0)
  have R43 : CHr Z own_EL s.vm h0 s.vm T43.heap := R35.trans (CHr.keep Kq43 (sfS sf42 sf0) C35)
  have hk43 := Nat.le_trans hk35 Kq43.1
  obtain ⟨cq52, kq52, q52a, q52b, q52c⟩ := isOf hZ rfl f47
  obtain ⟨_, _, ⟨T52, L52, k52, n52⟩, -, X52, ⟨Lc52, hQ52, l52, y52, z52⟩, st52⟩ := X43.virtualBack hx (y := (⟨"com/example/pending_actions/pendingactions/policy/Assessment", "isAutoApproved", "()Z"⟩ : MethodName)) (z := (⟨"com/example/pending_actions/pendingactions/policy/Assessment", "isAutoApproved", "()Z"⟩ : MethodName)) hown (mvT hZ (hw _ (List.mem_of_getElem? (i := 40) rfl))) (mvT hZ (hw _ (List.mem_of_getElem? (i := 41) rfl))) (notFace_of_selects (args := #[]) (mvT hZ (hw _ (List.mem_of_getElem? (i := 43) rfl)))) (mvT hZ (hw _ (List.mem_of_getElem? (i := 43) rfl))) (mvT hZ (hw _ (List.mem_of_getElem? (i := 42) rfl))) (by decide) (backOf (W := 0) (r_aa2 l Z a0 hw [] s_L1 s_L4 s_L3 s_L5 s_L2 cs1 T43.heap n0 O43 G0 b35 b12 Ft43 Fd43) hZ (hw _ (List.mem_of_getElem? (i := 44) rfl)) (hw _ (List.mem_of_getElem? (i := 29) rfl)) (by decide) (by decide)) q52a q52c (g := (mkF m 176 #[.val (.int p1), .val (.int p2), .val (.int p3), .val (.int p4), .val (.int (0 : Int32)), .val .null, .val (.int (1 : Int32)), .val (.int (0 : Int32)), .val (.int (1 : Int32)), .val (.ref b2), .val (.ref b12), .val (.ref b12), .val (.ref b22), .val (.ref b35), .val (.int (0 : Int32))] [(.ref b35)])) rfl (by rw [hml]; rfl) (Steps.refl _) (argsL := []) (rest := []) (lenOf pd_7 rfl) rfl (by show 2 * 0 + _ ≤ _; exact Nat.le_of_eq rfl) (hb hby at_176) (fun _ _ => ⟨rfl, rfl, (by decide : 6 + 0 ≤ _), (by decide : 17 + 0 ≤ _)⟩)
  dsimp only [Pt.U, Pt.locs, Pt.cells, Pt.slots] at X52 l52 y52 z52 st52 hQ52
  subst l52 y52 z52
  obtain ⟨rfl, N52q, e52⟩ := hQ52
  have N52 := Fr.app N43 N52q
  obtain ⟨fs, hr, hrun, hended, hRW⟩ := X52.leaveW hS0 (by rw [e52]; exact hk43) (v := some (.int (1 : Int32))) (fun h => by rw [Bd.returns] at h; cases h)
  refine ⟨_, _, pre0 _ ?_, hrun, hended, _, _, rfl, ?_, ?_, hRW.1, hRW.2.1, hRW.2.2.1, hRW.2.2.2.mono (by decide) (by decide)⟩
  · show Steps p.tables e below (s₁.setTop (mkF m 0 #[.val (.int p1), .val (.int p2), .val (.int p3), .val (.int p4), .unset, .unset, .unset, .unset, .unset, .unset, .unset, .unset, .unset, .unset, .unset] [])) _
    refine XS.iloadN X0.here hx rfl (hb hby at_0) rfl ?_
    show Steps p.tables e below (s₁.setTop (mkF m 1 #[.val (.int p1), .val (.int p2), .val (.int p3), .val (.int p4), .unset, .unset, .unset, .unset, .unset, .unset, .unset, .unset, .unset, .unset, .unset] [(.int p1)])) _
    refine X0.ldcInt hx hown (mvT hZ (hw _ (List.mem_of_getElem? (i := 0) rfl))) (g := (mkF m 1 #[.val (.int p1), .val (.int p2), .val (.int p3), .val (.int p4), .unset, .unset, .unset, .unset, .unset, .unset, .unset, .unset, .unset, .unset, .unset] [(.int p1)])) rfl (hb hby at_1) _ ?_
    show Steps p.tables e below (s₁.setTop (mkF m 3 #[.val (.int p1), .val (.int p2), .val (.int p3), .val (.int p4), .unset, .unset, .unset, .unset, .unset, .unset, .unset, .unset, .unset, .unset, .unset] [(.int (2147483647 : Int32)), (.int p1)])) _
    refine XS.iand X0.here hx rfl (hb hby at_3) rfl ?_
    refine XS.bipush X0.here hx rfl (hb hby at_4) ?_
    show Steps p.tables e below (s₁.setTop (mkF m 6 #[.val (.int p1), .val (.int p2), .val (.int p3), .val (.int p4), .unset, .unset, .unset, .unset, .unset, .unset, .unset, .unset, .unset, .unset, .unset] [(.int (6 : Int32)), (.int (p1 &&& (2147483647 : Int32)))])) _
    refine iremM X0 hx rfl (hb hby at_6) rfl (by decide) ?_
    show Steps p.tables e below (s₁.setTop (mkF m 7 #[.val (.int p1), .val (.int p2), .val (.int p3), .val (.int p4), .unset, .unset, .unset, .unset, .unset, .unset, .unset, .unset, .unset, .unset, .unset] [(.int ((p1 &&& (2147483647 : Int32)) % (6 : Int32)))])) _
    rw [hk]
    show Steps p.tables e below (s₁.setTop (mkF m 7 #[.val (.int p1), .val (.int p2), .val (.int p3), .val (.int p4), .unset, .unset, .unset, .unset, .unset, .unset, .unset, .unset, .unset, .unset, .unset] [(.int (0 : Int32))])) _
    refine XS.istore X0.here hx rfl (hb hby at_7) rfl (l' := #[.val (.int p1), .val (.int p2), .val (.int p3), .val (.int p4), .val (.int (0 : Int32)), .unset, .unset, .unset, .unset, .unset, .unset, .unset, .unset, .unset, .unset]) rfl ?_
    refine XS.iload X0.here hx rfl (hb hby at_9) rfl ?_
    show Steps p.tables e below (s₁.setTop (mkF m 11 #[.val (.int p1), .val (.int p2), .val (.int p3), .val (.int p4), .val (.int (0 : Int32)), .unset, .unset, .unset, .unset, .unset, .unset, .unset, .unset, .unset, .unset] [(.int (0 : Int32))])) _
    refine st1 _ ?_
    show Steps p.tables e below (T1.setTop (mkF m 14 #[.val (.int p1), .val (.int p2), .val (.int p3), .val (.int p4), .val (.int (0 : Int32)), .unset, .unset, .unset, .unset, .unset, .unset, .unset, .unset, .unset, .unset] [.null])) _
    refine XS.astore X1.here hx rfl (hb hby at_14) rfl rfl (l' := #[.val (.int p1), .val (.int p2), .val (.int p3), .val (.int p4), .val (.int (0 : Int32)), .val .null, .unset, .unset, .unset, .unset, .unset, .unset, .unset, .unset, .unset]) rfl ?_
    refine XS.iloadN X1.here hx rfl (hb hby at_16) rfl ?_
    refine XS.iconst X1.here hx rfl (hb hby at_17) ?_
    refine XS.iand X1.here hx rfl (hb hby at_18) rfl ?_
    refine XS.ifNo X1.here hx rfl (hb hby at_19) rfl ((if0 _ _).trans (feq (hf0_ : ¬ ((p2 &&& (1 : Int32)) = (0 : Int32)))).1) ?_
    show Steps p.tables e below (T1.setTop (mkF m 22 #[.val (.int p1), .val (.int p2), .val (.int p3), .val (.int p4), .val (.int (0 : Int32)), .val .null, .unset, .unset, .unset, .unset, .unset, .unset, .unset, .unset, .unset] [])) _
    refine XS.iconst X1.here hx rfl (hb hby at_22) ?_
    refine XS.goto X1.here hx rfl (pc0 := 23) (pc' := 27) rfl (hb hby at_23) (by decide) (by decide) ?_
    refine XS.istore X1.here hx rfl (hb hby at_27) rfl (l' := #[.val (.int p1), .val (.int p2), .val (.int p3), .val (.int p4), .val (.int (0 : Int32)), .val .null, .val (.int (1 : Int32)), .unset, .unset, .unset, .unset, .unset, .unset, .unset, .unset]) rfl ?_
    refine XS.iloadN X1.here hx rfl (hb hby at_29) rfl ?_
    refine XS.iconst X1.here hx rfl (hb hby at_30) ?_
    show Steps p.tables e below (T1.setTop (mkF m 31 #[.val (.int p1), .val (.int p2), .val (.int p3), .val (.int p4), .val (.int (0 : Int32)), .val .null, .val (.int (1 : Int32)), .unset, .unset, .unset, .unset, .unset, .unset, .unset, .unset] [(.int (2 : Int32)), (.int p2)])) _
    refine XS.iand X1.here hx rfl (hb hby at_31) rfl ?_
    refine XS.ifYes X1.here hx rfl (pc0 := 32) (pc' := 39) rfl (hb hby at_32) rfl ((if0 _ _).trans (teq (hf1_ : (p2 &&& (2 : Int32)) = (0 : Int32))).1) (by decide) (by decide) ?_
    refine XS.iconst X1.here hx rfl (hb hby at_39) ?_
    refine XS.istore X1.here hx rfl (hb hby at_40) rfl (l' := #[.val (.int p1), .val (.int p2), .val (.int p3), .val (.int p4), .val (.int (0 : Int32)), .val .null, .val (.int (1 : Int32)), .val (.int (0 : Int32)), .unset, .unset, .unset, .unset, .unset, .unset, .unset]) rfl ?_
    refine XS.iloadN X1.here hx rfl (hb hby at_42) rfl ?_
    show Steps p.tables e below (T1.setTop (mkF m 43 #[.val (.int p1), .val (.int p2), .val (.int p3), .val (.int p4), .val (.int (0 : Int32)), .val .null, .val (.int (1 : Int32)), .val (.int (0 : Int32)), .unset, .unset, .unset, .unset, .unset, .unset, .unset] [(.int p2)])) _
    refine XS.iconst X1.here hx rfl (hb hby at_43) ?_
    refine XS.iand X1.here hx rfl (hb hby at_44) rfl ?_
    refine XS.ifNo X1.here hx rfl (hb hby at_45) rfl ((if0 _ _).trans (feq (hf2_ : ¬ ((p2 &&& (4 : Int32)) = (0 : Int32)))).1) ?_
    refine XS.iconst X1.here hx rfl (hb hby at_48) ?_
    refine XS.goto X1.here hx rfl (pc0 := 49) (pc' := 53) rfl (hb hby at_49) (by decide) (by decide) ?_
    show Steps p.tables e below (T1.setTop (mkF m 53 #[.val (.int p1), .val (.int p2), .val (.int p3), .val (.int p4), .val (.int (0 : Int32)), .val .null, .val (.int (1 : Int32)), .val (.int (0 : Int32)), .unset, .unset, .unset, .unset, .unset, .unset, .unset] [(.int (1 : Int32))])) _
    refine XS.istore X1.here hx rfl (hb hby at_53) rfl (l' := #[.val (.int p1), .val (.int p2), .val (.int p3), .val (.int p4), .val (.int (0 : Int32)), .val .null, .val (.int (1 : Int32)), .val (.int (0 : Int32)), .val (.int (1 : Int32)), .unset, .unset, .unset, .unset, .unset, .unset]) rfl ?_
    refine XS.iconst X1.here hx rfl (hb hby at_55) ?_
    show Steps p.tables e below (T1.setTop (mkF m 56 #[.val (.int p1), .val (.int p2), .val (.int p3), .val (.int p4), .val (.int (0 : Int32)), .val .null, .val (.int (1 : Int32)), .val (.int (0 : Int32)), .val (.int (1 : Int32)), .unset, .unset, .unset, .unset, .unset, .unset] [(.int (2 : Int32))])) _
    refine st2 _ ?_
    show Steps p.tables e below (T2.setTop (mkF m 58 #[.val (.int p1), .val (.int p2), .val (.int p3), .val (.int p4), .val (.int (0 : Int32)), .val .null, .val (.int (1 : Int32)), .val (.int (0 : Int32)), .val (.int (1 : Int32)), .unset, .unset, .unset, .unset, .unset, .unset] [(.ref b2)])) _
    refine XS.astore X2.here hx rfl (hb hby at_58) rfl rfl (l' := #[.val (.int p1), .val (.int p2), .val (.int p3), .val (.int p4), .val (.int (0 : Int32)), .val .null, .val (.int (1 : Int32)), .val (.int (0 : Int32)), .val (.int (1 : Int32)), .val (.ref b2), .unset, .unset, .unset, .unset, .unset]) rfl ?_
    refine XS.aload X2.here hx rfl (hb hby at_60) rfl rfl ?_
    refine XS.iconst X2.here hx rfl (hb hby at_62) ?_
    refine XS.iloadN X2.here hx rfl (hb hby at_63) rfl ?_
    refine XS.sipush X2.here hx rfl (hb hby at_64) ?_
    show Steps p.tables e below (T2.setTop (mkF m 67 #[.val (.int p1), .val (.int p2), .val (.int p3), .val (.int p4), .val (.int (0 : Int32)), .val .null, .val (.int (1 : Int32)), .val (.int (0 : Int32)), .val (.int (1 : Int32)), .val (.ref b2), .unset, .unset, .unset, .unset, .unset] [(.int (255 : Int32)), (.int p3), (.int (0 : Int32)), (.ref b2)])) _
    refine XS.iand X2.here hx rfl (hb hby at_67) rfl ?_
    refine XS.i2c X2.here hx rfl (hb hby at_68) rfl ?_
    show Steps p.tables e below (T2.setTop (mkF m 69 #[.val (.int p1), .val (.int p2), .val (.int p3), .val (.int p4), .val (.int (0 : Int32)), .val .null, .val (.int (1 : Int32)), .val (.int (0 : Int32)), .val (.int (1 : Int32)), .val (.ref b2), .unset, .unset, .unset, .unset, .unset] [(.int ((p3 &&& (255 : Int32)).toUInt32.toUInt16.toUInt32.toInt32)), (.int (0 : Int32)), (.ref b2)])) _
    refine st5 _ ?_
    show Steps p.tables e below (T5.setTop (mkF m 70 #[.val (.int p1), .val (.int p2), .val (.int p3), .val (.int p4), .val (.int (0 : Int32)), .val .null, .val (.int (1 : Int32)), .val (.int (0 : Int32)), .val (.int (1 : Int32)), .val (.ref b2), .unset, .unset, .unset, .unset, .unset] [])) _
    refine XS.aload X5.here hx rfl (hb hby at_70) rfl rfl ?_
    refine XS.iconst X5.here hx rfl (hb hby at_72) ?_
    refine XS.iloadN X5.here hx rfl (hb hby at_73) rfl ?_
    refine XS.sipush X5.here hx rfl (hb hby at_74) ?_
    refine XS.iand X5.here hx rfl (hb hby at_77) rfl ?_
    show Steps p.tables e below (T5.setTop (mkF m 78 #[.val (.int p1), .val (.int p2), .val (.int p3), .val (.int p4), .val (.int (0 : Int32)), .val .null, .val (.int (1 : Int32)), .val (.int (0 : Int32)), .val (.int (1 : Int32)), .val (.ref b2), .unset, .unset, .unset, .unset, .unset] [(.int (p4 &&& (255 : Int32))), (.int (1 : Int32)), (.ref b2)])) _
    refine XS.i2c X5.here hx rfl (hb hby at_78) rfl ?_
    show Steps p.tables e below (T5.setTop (mkF m 79 #[.val (.int p1), .val (.int p2), .val (.int p3), .val (.int p4), .val (.int (0 : Int32)), .val .null, .val (.int (1 : Int32)), .val (.int (0 : Int32)), .val (.int (1 : Int32)), .val (.ref b2), .unset, .unset, .unset, .unset, .unset] [(.int ((p4 &&& (255 : Int32)).toUInt32.toUInt16.toUInt32.toInt32)), (.int (1 : Int32)), (.ref b2)])) _
    refine st9 _ ?_
    show Steps p.tables e below (T9.setTop (mkF m 80 #[.val (.int p1), .val (.int p2), .val (.int p3), .val (.int p4), .val (.int (0 : Int32)), .val .null, .val (.int (1 : Int32)), .val (.int (0 : Int32)), .val (.int (1 : Int32)), .val (.ref b2), .unset, .unset, .unset, .unset, .unset] [])) _
    refine XS.iload X9.here hx rfl (hb hby at_80) rfl ?_
    refine XS.ifYes X9.here hx rfl (pc0 := 82) (pc' := 98) rfl (hb hby at_82) rfl ((if0 _ _).trans (teq (by decide : (0 : Int32) = (0 : Int32))).1) (by decide) (by decide) ?_
    show Steps p.tables e below (T9.setTop (mkF m 98 #[.val (.int p1), .val (.int p2), .val (.int p3), .val (.int p4), .val (.int (0 : Int32)), .val .null, .val (.int (1 : Int32)), .val (.int (0 : Int32)), .val (.int (1 : Int32)), .val (.ref b2), .unset, .unset, .unset, .unset, .unset] [])) _
    refine st12 _ ?_
    show Steps p.tables e below (T12.setTop (mkF m 101 #[.val (.int p1), .val (.int p2), .val (.int p3), .val (.int p4), .val (.int (0 : Int32)), .val .null, .val (.int (1 : Int32)), .val (.int (0 : Int32)), .val (.int (1 : Int32)), .val (.ref b2), .unset, .unset, .unset, .unset, .unset] [(.ref b12)])) _
    refine XS.dup X12.here hx rfl (hb hby at_101) rfl rfl ?_
    refine XS.aload X12.here hx rfl (hb hby at_102) rfl rfl ?_
    show Steps p.tables e below (T12.setTop (mkF m 104 #[.val (.int p1), .val (.int p2), .val (.int p3), .val (.int p4), .val (.int (0 : Int32)), .val .null, .val (.int (1 : Int32)), .val (.int (0 : Int32)), .val (.int (1 : Int32)), .val (.ref b2), .unset, .unset, .unset, .unset, .unset] [(.ref b2), (.ref b12), (.ref b12)])) _
    refine st17.trans ?_
    show Steps p.tables e below (T17.setTop (mkF m 107 #[.val (.int p1), .val (.int p2), .val (.int p3), .val (.int p4), .val (.int (0 : Int32)), .val .null, .val (.int (1 : Int32)), .val (.int (0 : Int32)), .val (.int (1 : Int32)), .val (.ref b2), .unset, .unset, .unset, .unset, .unset] [(.ref b12)])) _
    refine XS.astore X17.here hx rfl (hb hby at_107) rfl rfl (l' := #[.val (.int p1), .val (.int p2), .val (.int p3), .val (.int p4), .val (.int (0 : Int32)), .val .null, .val (.int (1 : Int32)), .val (.int (0 : Int32)), .val (.int (1 : Int32)), .val (.ref b2), .val (.ref b12), .unset, .unset, .unset, .unset]) rfl ?_
    refine XS.iload X17.here hx rfl (hb hby at_109) rfl ?_
    refine XS.ifNo X17.here hx rfl (hb hby at_111) rfl ((if0 _ _).trans (feq (by decide : ¬ ((1 : Int32) = (0 : Int32)))).1) ?_
    refine XS.aload X17.here hx rfl (hb hby at_114) rfl rfl ?_
    refine XS.goto X17.here hx rfl (pc0 := 116) (pc' := 120) rfl (hb hby at_116) (by decide) (by decide) ?_
    show Steps p.tables e below (T17.setTop (mkF m 120 #[.val (.int p1), .val (.int p2), .val (.int p3), .val (.int p4), .val (.int (0 : Int32)), .val .null, .val (.int (1 : Int32)), .val (.int (0 : Int32)), .val (.int (1 : Int32)), .val (.ref b2), .val (.ref b12), .unset, .unset, .unset, .unset] [(.ref b12)])) _
    refine XS.astore X17.here hx rfl (hb hby at_120) rfl rfl (l' := #[.val (.int p1), .val (.int p2), .val (.int p3), .val (.int p4), .val (.int (0 : Int32)), .val .null, .val (.int (1 : Int32)), .val (.int (0 : Int32)), .val (.int (1 : Int32)), .val (.ref b2), .val (.ref b12), .val (.ref b12), .unset, .unset, .unset]) rfl ?_
    refine XS.iload X17.here hx rfl (hb hby at_122) rfl ?_
    refine XS.ifNo X17.here hx rfl (hb hby at_124) rfl ((if0 _ _).trans (feq (by decide : ¬ ((1 : Int32) = (0 : Int32)))).1) ?_
    show Steps p.tables e below (T17.setTop (mkF m 127 #[.val (.int p1), .val (.int p2), .val (.int p3), .val (.int p4), .val (.int (0 : Int32)), .val .null, .val (.int (1 : Int32)), .val (.int (0 : Int32)), .val (.int (1 : Int32)), .val (.ref b2), .val (.ref b12), .val (.ref b12), .unset, .unset, .unset] [])) _
    refine st22 _ ?_
    show Steps p.tables e below (T22.setTop (mkF m 130 #[.val (.int p1), .val (.int p2), .val (.int p3), .val (.int p4), .val (.int (0 : Int32)), .val .null, .val (.int (1 : Int32)), .val (.int (0 : Int32)), .val (.int (1 : Int32)), .val (.ref b2), .val (.ref b12), .val (.ref b12), .unset, .unset, .unset] [(.ref b22)])) _
    refine XS.dup X22.here hx rfl (hb hby at_130) rfl rfl ?_
    refine XS.aload X22.here hx rfl (hb hby at_131) rfl rfl ?_
    show Steps p.tables e below (T22.setTop (mkF m 133 #[.val (.int p1), .val (.int p2), .val (.int p3), .val (.int p4), .val (.int (0 : Int32)), .val .null, .val (.int (1 : Int32)), .val (.int (0 : Int32)), .val (.int (1 : Int32)), .val (.ref b2), .val (.ref b12), .val (.ref b12), .unset, .unset, .unset] [(.ref b2), (.ref b22), (.ref b22)])) _
    refine st28.trans ?_
    show Steps p.tables e below (T28.setTop (mkF m 136 #[.val (.int p1), .val (.int p2), .val (.int p3), .val (.int p4), .val (.int (0 : Int32)), .val .null, .val (.int (1 : Int32)), .val (.int (0 : Int32)), .val (.int (1 : Int32)), .val (.ref b2), .val (.ref b12), .val (.ref b12), .unset, .unset, .unset] [(.ref b22)])) _
    refine XS.goto X28.here hx rfl (pc0 := 136) (pc' := 140) rfl (hb hby at_136) (by decide) (by decide) ?_
    refine XS.astore X28.here hx rfl (hb hby at_140) rfl rfl (l' := #[.val (.int p1), .val (.int p2), .val (.int p3), .val (.int p4), .val (.int (0 : Int32)), .val .null, .val (.int (1 : Int32)), .val (.int (0 : Int32)), .val (.int (1 : Int32)), .val (.ref b2), .val (.ref b12), .val (.ref b12), .val (.ref b22), .unset, .unset]) rfl ?_
    show Steps p.tables e below (T28.setTop (mkF m 142 #[.val (.int p1), .val (.int p2), .val (.int p3), .val (.int p4), .val (.int (0 : Int32)), .val .null, .val (.int (1 : Int32)), .val (.int (0 : Int32)), .val (.int (1 : Int32)), .val (.ref b2), .val (.ref b12), .val (.ref b12), .val (.ref b22), .unset, .unset] [])) _
    refine st35 _ ?_
    show Steps p.tables e below (T35.setTop (mkF m 145 #[.val (.int p1), .val (.int p2), .val (.int p3), .val (.int p4), .val (.int (0 : Int32)), .val .null, .val (.int (1 : Int32)), .val (.int (0 : Int32)), .val (.int (1 : Int32)), .val (.ref b2), .val (.ref b12), .val (.ref b12), .val (.ref b22), .unset, .unset] [(.ref b35)])) _
    refine XS.dup X35.here hx rfl (hb hby at_145) rfl rfl ?_
    refine XS.aload X35.here hx rfl (hb hby at_146) rfl rfl ?_
    refine XS.aload X35.here hx rfl (hb hby at_148) rfl rfl ?_
    refine XS.aload X35.here hx rfl (hb hby at_150) rfl rfl ?_
    show Steps p.tables e below (T35.setTop (mkF m 152 #[.val (.int p1), .val (.int p2), .val (.int p3), .val (.int p4), .val (.int (0 : Int32)), .val .null, .val (.int (1 : Int32)), .val (.int (0 : Int32)), .val (.int (1 : Int32)), .val (.ref b2), .val (.ref b12), .val (.ref b12), .val (.ref b22), .unset, .unset] [(.ref b22), (.ref b12), .null, (.ref b35), (.ref b35)])) _
    refine st43.trans ?_
    show Steps p.tables e below (T43.setTop (mkF m 155 #[.val (.int p1), .val (.int p2), .val (.int p3), .val (.int p4), .val (.int (0 : Int32)), .val .null, .val (.int (1 : Int32)), .val (.int (0 : Int32)), .val (.int (1 : Int32)), .val (.ref b2), .val (.ref b12), .val (.ref b12), .val (.ref b22), .unset, .unset] [(.ref b35)])) _
    refine XS.astore X43.here hx rfl (hb hby at_155) rfl rfl (l' := #[.val (.int p1), .val (.int p2), .val (.int p3), .val (.int p4), .val (.int (0 : Int32)), .val .null, .val (.int (1 : Int32)), .val (.int (0 : Int32)), .val (.int (1 : Int32)), .val (.ref b2), .val (.ref b12), .val (.ref b12), .val (.ref b22), .val (.ref b35), .unset]) rfl ?_
    refine XS.iload X43.here hx rfl (hb hby at_157) rfl ?_
    refine XS.ifYes X43.here hx rfl (pc0 := 159) (pc' := 171) rfl (hb hby at_159) rfl ((if0 _ _).trans (teq (by decide : (0 : Int32) = (0 : Int32))).1) (by decide) (by decide) ?_
    refine XS.iconst X43.here hx rfl (hb hby at_171) ?_
    refine XS.istore X43.here hx rfl (hb hby at_172) rfl (l' := #[.val (.int p1), .val (.int p2), .val (.int p3), .val (.int p4), .val (.int (0 : Int32)), .val .null, .val (.int (1 : Int32)), .val (.int (0 : Int32)), .val (.int (1 : Int32)), .val (.ref b2), .val (.ref b12), .val (.ref b12), .val (.ref b22), .val (.ref b35), .val (.int (0 : Int32))]) rfl ?_
    show Steps p.tables e below (T43.setTop (mkF m 174 #[.val (.int p1), .val (.int p2), .val (.int p3), .val (.int p4), .val (.int (0 : Int32)), .val .null, .val (.int (1 : Int32)), .val (.int (0 : Int32)), .val (.int (1 : Int32)), .val (.ref b2), .val (.ref b12), .val (.ref b12), .val (.ref b22), .val (.ref b35), .val (.int (0 : Int32))] [])) _
    refine XS.aload X43.here hx rfl (hb hby at_174) rfl rfl ?_
    show Steps p.tables e below (T43.setTop (mkF m 176 #[.val (.int p1), .val (.int p2), .val (.int p3), .val (.int p4), .val (.int (0 : Int32)), .val .null, .val (.int (1 : Int32)), .val (.int (0 : Int32)), .val (.int (1 : Int32)), .val (.ref b2), .val (.ref b12), .val (.ref b12), .val (.ref b22), .val (.ref b35), .val (.int (0 : Int32))] [(.ref b35)])) _
    refine st52.trans ?_
    show Steps p.tables e below (T52.setTop (mkF m 179 #[.val (.int p1), .val (.int p2), .val (.int p3), .val (.int p4), .val (.int (0 : Int32)), .val .null, .val (.int (1 : Int32)), .val (.int (0 : Int32)), .val (.int (1 : Int32)), .val (.ref b2), .val (.ref b12), .val (.ref b12), .val (.ref b22), .val (.ref b35), .val (.int (0 : Int32))] [(.int (0 : Int32))])) _
    refine XS.iload X52.here hx rfl (hb hby at_179) rfl ?_
    refine XS.icmpNo X52.here hx rfl (hb hby at_181) rfl (teq (by decide : (0 : Int32) = (0 : Int32))).2 ?_
    refine XS.iconst X52.here hx rfl (hb hby at_184) ?_
    refine XS.goto X52.here hx rfl (pc0 := 185) (pc' := 189) rfl (hb hby at_185) (by decide) (by decide) ?_
    show Steps p.tables e below (T52.setTop (mkF m 189 #[.val (.int p1), .val (.int p2), .val (.int p3), .val (.int p4), .val (.int (0 : Int32)), .val .null, .val (.int (1 : Int32)), .val (.int (0 : Int32)), .val (.int (1 : Int32)), .val (.ref b2), .val (.ref b12), .val (.ref b12), .val (.ref b22), .val (.ref b35), .val (.int (0 : Int32))] [(.int (1 : Int32))])) _
    exact retN X52 hx (t := .boolean) Bd.returns (by simp) (hb hby at_189) hr
  · show own_Qk (some (.int (1 : Int32))) [] h0 n0 _ T52.heap _
    rw [e52]
    exact ⟨rfl, N52, K43⟩
  · show CHr Z own_EL s.vm s.heap T52.vm T52.heap
    rw [hh, e52]
    exact R43.trans (CHv.at (s := s) (vm0 := s.vm) X52 hZ hEL C43)
set_option maxRecDepth 65536 in
set_option maxHeartbeats 40000000 in
theorem r_law11 (l : Launch) (Z : State) (a0 : Array Value) (hw : ∀ d ∈ tables_1, d.before a0 Z = true) (ws : List Jvm.Cond) (s_L1 s_L4 s_L3 s_L5 s_L2 : Addr) (cs1 : Int32) (h0 : Heap) (n0 : Nat) (O0 : Old Z n0 h0) (G : own_Ctx Z Z.heap s_L1 s_L4 s_L3 s_L5 s_L2 cs1) (hEL : EW Z a0 own_EL) (wS : ∀ a ∈ Bundle.stringAtoms, a.before a0 Z = true) (p1 p2 p3 p4 : Int32) (kk : Int32) (hk : (p1 &&& (2147483647 : Int32)) % (6 : Int32) = kk) (hk1 : kk = (1 : Int32) ∨ kk = (2 : Int32) ∨ kk = (3 : Int32) ∨ kk = (4 : Int32) ∨ kk = (5 : Int32)) (hf0_ : ¬ ((p2 &&& (1 : Int32)) = (0 : Int32))) (hf1_ : (p2 &&& (2 : Int32)) = (0 : Int32)) (hf2_ : ¬ ((p2 &&& (4 : Int32)) = (0 : Int32))) :
    MetFree l x (head1 (Jvm.Cond.code x code maxLocals ret :: ws) room_1) (fun a U => a = #[(.int p1), (.int p2), (.int p3), (.int p4)] ∧ Z.Warmed39 U.vm ∧ U.heap = h0 ∧ CHv Z own_EL U.vm h0) (fun _ _ _ _ _ => True) (fun _ U o U' => ∃ v L, o = .returned v ∧ own_Qk (some (.int (1 : Int32))) [] h0 n0 v U'.heap L ∧ CHr Z own_EL U.vm U.heap U'.vm U'.heap ∧ ReturnedEndW U o U' L 24 1152) := by
  have G0 := G
  obtain ⟨S_L1, E_L1, S_L4, E_L4, S_L3, E_L3, S_L5, E_L5, S_L2, E_L2, S_CS, N_CS⟩ := G
  refine MetFree.of_bodySF (plainFor_of_name pn_0) hisR ?_
  intro p e s m args below meth c s₁ Bd hml0 hP hK
  obtain ⟨rfl, hZ, hh, hC⟩ := hP
  have hx := Bd.exec
  have hby := Bd.bytes
  have hml : c.maxLocals = 15 := hml0
  have hown : s.vm.findClass "com/example/pending_actions/pendingactions/policy/AssessmentIsAutoApprovedPinLaw" = some m.cls := findClass_of_methodNamed Bd.named
  have hnm := (name_of_methodNamed Bd.named Bd.method).1
  have X0 : Stand p l e room_1 (s.setVm s.vm) m #[(.int p1), (.int p2), (.int p3), (.int p4)] below meth c s₁ [] 0 0 := Stand.of_body Bd
  have e0 : s₁.heap = h0 := by rw [← hh, Bd.state]; rfl
  have N0 := Fr.nil n0
  have hS0 : s.Since s.vm h0.size := State.WarmedH.since (State.WarmedH.refl s) _
  have hk0 : h0.size ≤ h0.size := Nat.le_refl _
  have pre0 : ∀ t, Steps p.tables e below (s₁.setTop (mkF m 0 #[.val (.int p1), .val (.int p2), .val (.int p3), .val (.int p4), .unset, .unset, .unset, .unset, .unset, .unset, .unset, .unset, .unset, .unset, .unset] [])) t → Steps p.tables e below (s₁.setTop (entryFrame m #[(.int p1), (.int p2), (.int p3), (.int p4)] maxLocals)) t := fun t k => castTop (ef_0_15 m p1 p2 p3 p4) k
  obtain ⟨_, _, ⟨T1, L1, k1, n1⟩, -, X1, ⟨Lc1, hQ1, l1, y1, z1⟩, st1⟩ := Jvm.LawKit.callS X0 hx (y := (⟨"com/example/pending_actions/pendingactions/policy/AssessmentIsAutoApprovedPinLaw", "pick", "(I)Lcom/example/pending_actions/pendingactions/policy/RiskTier;"⟩ : MethodName)) hown (mvT hZ (hw _ (List.mem_of_getElem? (i := 1) rfl))) (mvT hZ (hw _ (List.mem_of_getElem? (i := 2) rfl))) (mvT hZ (hw _ (List.mem_of_getElem? (i := 3) rfl))) (mvT hZ (hw _ (List.mem_of_getElem? (i := 4) rfl))) (by decide) (backOf (W := 0) (r_tierN l Z a0 hw [] s_L1 s_L4 s_L3 s_L5 s_L2 cs1 h0 n0 O0 G0 kk hk1) hZ (hw _ (List.mem_of_getElem? (i := 4) rfl)) (hw _ (List.mem_of_getElem? (i := 3) rfl)) (by decide) (by decide)) (g := (mkF m 11 #[.val (.int p1), .val (.int p2), .val (.int p3), .val (.int p4), .val (.int kk), .unset, .unset, .unset, .unset, .unset, .unset, .unset, .unset, .unset, .unset] [(.int kk)])) rfl (by rw [hml]; rfl) (argsL := [(.int kk)]) (rest := []) (lenOf pd_4 rfl) rfl (by show 2 * 0 + _ ≤ _; exact Nat.le_of_eq rfl) (hb hby at_11) (fun _ _ => ⟨rfl, e0, (by decide : 0 + 0 ≤ _), (by decide : 0 + 0 ≤ _)⟩)
  dsimp only [Pt.U, Pt.locs, Pt.cells, Pt.slots] at X1 l1 y1 z1 st1 hQ1
  subst l1 y1 z1
  obtain ⟨ta1, rfl, N1q, e1⟩ := hQ1
  have N1 := Fr.app N0 N1q
  obtain ⟨T2, h2, k2, X2, e2, E2, A2, st2⟩ := newP X1 hx hZ (hw _ (List.mem_of_getElem? (i := 5) rfl)) e1 (g := (mkF m 56 #[.val (.int p1), .val (.int p2), .val (.int p3), .val (.int p4), .val (.int kk), .val (.ref ta1), .val (.int (1 : Int32)), .val (.int (0 : Int32)), .val (.int (1 : Int32)), .unset, .unset, .unset, .unset, .unset, .unset] [(.int (2 : Int32))])) rfl (hb hby at_56) rfl (by decide) (cap := 2) (by decide) (by decide) (by decide) (by decide)
  obtain ⟨b2, g2⟩ : ∃ z, z = h0.size := ⟨_, rfl⟩
  have ne_s_L1_b2 : s_L1 ≠ b2 := Nat.ne_of_lt (Nat.lt_of_lt_of_le (E_L1.ext O0.2).lt (Nat.le_of_eq g2.symm))
  have ne_s_L4_b2 : s_L4 ≠ b2 := Nat.ne_of_lt (Nat.lt_of_lt_of_le (E_L4.ext O0.2).lt (Nat.le_of_eq g2.symm))
  have ne_s_L3_b2 : s_L3 ≠ b2 := Nat.ne_of_lt (Nat.lt_of_lt_of_le (E_L3.ext O0.2).lt (Nat.le_of_eq g2.symm))
  have ne_s_L5_b2 : s_L5 ≠ b2 := Nat.ne_of_lt (Nat.lt_of_lt_of_le (E_L5.ext O0.2).lt (Nat.le_of_eq g2.symm))
  have ne_s_L2_b2 : s_L2 ≠ b2 := Nat.ne_of_lt (Nat.lt_of_lt_of_le (E_L2.ext O0.2).lt (Nat.le_of_eq g2.symm))
  have g_b2 : n0 ≤ b2 := Nat.le_trans (O0.1 ▸ O0.2.1) (Nat.le_of_eq g2.symm)
  have sz_b2 : h0.size ≤ b2 := Nat.le_trans (Keep.refl h0 []).1 (Nat.le_of_eq g2.symm)
  have sn2 : Safe Z own_EL s.vm h0 b2 := Safe.new (Nat.le_of_eq g2.symm)
  rw [← g2] at A2 st2
  have O2 := O0.ext E2
  have K2 : Keep h0 h2 [] := (Keep.refl h0 []).ext E2
  have sf3 := Safe.ext E2 hC sn2
  have C2 : CHv Z own_EL s.vm h2 := hC.ext E2
  have R2 : CHr Z own_EL s.vm h0 s.vm h2 := (CHr.refl hC).trans (CHr.ext E2 hC)
  have hk2 := Nat.le_trans hk0 E2.1
  have V2 : Arv Z h2 b2 k2 .char (2 : Int32) [(.int (0 : Int32)), (.int (0 : Int32))] (.int (0 : Int32)) := (Arv.new A2 (by decide)).pad (pad_rep [] (.int (0 : Int32)) 2)
  have vc4 := V2
  obtain ⟨cl4, Ar4, qk4, S4, Nn4, Hs4, Gf4⟩ := vc4
  have hin4 : ¬ ((0 : Int32) < 0 ∨ cl4.slots.size ≤ ((0 : Int32)).toNatClampNeg) := inb_of S4 ⟨by decide, by decide⟩
  obtain ⟨T5, h5, X5, e5, W5, st5⟩ := stC X2 hx hZ e2 Ar4 (j := (0 : Int32)) hin4 (g := (mkF m 69 #[.val (.int p1), .val (.int p2), .val (.int p3), .val (.int p4), .val (.int kk), .val (.ref ta1), .val (.int (1 : Int32)), .val (.int (0 : Int32)), .val (.int (1 : Int32)), .val (.ref b2), .unset, .unset, .unset, .unset, .unset] [(.int ((p3 &&& (255 : Int32)).toUInt32.toUInt16.toUInt32.toInt32)), (.int (0 : Int32)), (.ref b2)])) rfl rfl (hb hby at_69)
  have O5 := O2.wr W5 g_b2
  have K5 : Keep h0 h5 [] := K2.wr W5 (Or.inr sz_b2)
  have N5 := Fr.snoc X5 N1 g_b2
  have sf6 := Safe.wr W5 sf3 C2 sf3
  have C5 : CHv Z own_EL s.vm h5 := C2.wr W5 sf3
  have R5 : CHr Z own_EL s.vm h0 s.vm h5 := R2.trans (CHr.wr W5 sf3 C2)
  have hk5 := Nat.le_trans hk2 (Keep.of_wr W5).1
  have f7 : Arv Z h5 b2 k2 .char (2 : Int32) [(.int (nar .char ((p3 &&& (255 : Int32)).toUInt32.toUInt16.toUInt32.toInt32))), (.int (0 : Int32))] (.int (0 : Int32)) := Arv.set Ar4 qk4 S4 Nn4 Hs4 Gf4 (fits_nar_char _) W5 0 rfl (Nat.le_of_ble_eq_true rfl)
  have vc8 := f7
  obtain ⟨cl8, Ar8, qk8, S8, Nn8, Hs8, Gf8⟩ := vc8
  have hin8 : ¬ ((1 : Int32) < 0 ∨ cl8.slots.size ≤ ((1 : Int32)).toNatClampNeg) := inb_of S8 ⟨by decide, by decide⟩
  obtain ⟨T9, h9, X9, e9, W9, st9⟩ := stC X5 hx hZ e5 Ar8 (j := (1 : Int32)) hin8 (g := (mkF m 79 #[.val (.int p1), .val (.int p2), .val (.int p3), .val (.int p4), .val (.int kk), .val (.ref ta1), .val (.int (1 : Int32)), .val (.int (0 : Int32)), .val (.int (1 : Int32)), .val (.ref b2), .unset, .unset, .unset, .unset, .unset] [(.int ((p4 &&& (255 : Int32)).toUInt32.toUInt16.toUInt32.toInt32)), (.int (1 : Int32)), (.ref b2)])) rfl rfl (hb hby at_79)
  have O9 := O5.wr W9 g_b2
  have K9 : Keep h0 h9 [] := K5.wr W9 (Or.inr sz_b2)
  have N9 := Fr.snoc X9 N5 g_b2
  have sf10 := Safe.wr W9 sf6 C5 sf6
  have C9 : CHv Z own_EL s.vm h9 := C5.wr W9 sf6
  have R9 : CHr Z own_EL s.vm h0 s.vm h9 := R5.trans (CHr.wr W9 sf6 C5)
  have hk9 := Nat.le_trans hk5 (Keep.of_wr W9).1
  have f11 : Arv Z h9 b2 k2 .char (2 : Int32) [(.int (nar .char ((p3 &&& (255 : Int32)).toUInt32.toUInt16.toUInt32.toInt32))), (.int (nar .char ((p4 &&& (255 : Int32)).toUInt32.toUInt16.toUInt32.toInt32)))] (.int (0 : Int32)) := Arv.set Ar8 qk8 S8 Nn8 Hs8 Gf8 (fits_nar_char _) W9 1 rfl (Nat.le_of_ble_eq_true rfl)
  obtain ⟨T12, h12, X12, e12, E12, A12, D12, -, st12⟩ := newO X9 hx hZ hown (hw _ (List.mem_of_getElem? (i := 6) rfl)) (hw _ (List.mem_of_getElem? (i := 7) rfl)) (hw _ (List.mem_of_getElem? (i := 8) rfl)) e9 (g := (mkF m 98 #[.val (.int p1), .val (.int p2), .val (.int p3), .val (.int p4), .val (.int kk), .val (.ref ta1), .val (.int (1 : Int32)), .val (.int (0 : Int32)), .val (.int (1 : Int32)), .val (.ref b2), .unset, .unset, .unset, .unset, .unset] [])) rfl (hb hby at_98) (by decide) (by decide)
  obtain ⟨b12, g12⟩ : ∃ z, z = h9.size := ⟨_, rfl⟩
  have ne_b2_b12 : b2 ≠ b12 := Nat.ne_of_lt (Nat.lt_of_lt_of_le f11.lt (Nat.le_of_eq g12.symm))
  have ne_s_L1_b12 : s_L1 ≠ b12 := Nat.ne_of_lt (Nat.lt_of_lt_of_le (E_L1.ext O9.2).lt (Nat.le_of_eq g12.symm))
  have ne_s_L4_b12 : s_L4 ≠ b12 := Nat.ne_of_lt (Nat.lt_of_lt_of_le (E_L4.ext O9.2).lt (Nat.le_of_eq g12.symm))
  have ne_s_L3_b12 : s_L3 ≠ b12 := Nat.ne_of_lt (Nat.lt_of_lt_of_le (E_L3.ext O9.2).lt (Nat.le_of_eq g12.symm))
  have ne_s_L5_b12 : s_L5 ≠ b12 := Nat.ne_of_lt (Nat.lt_of_lt_of_le (E_L5.ext O9.2).lt (Nat.le_of_eq g12.symm))
  have ne_s_L2_b12 : s_L2 ≠ b12 := Nat.ne_of_lt (Nat.lt_of_lt_of_le (E_L2.ext O9.2).lt (Nat.le_of_eq g12.symm))
  have g_b12 : n0 ≤ b12 := Nat.le_trans (O9.1 ▸ O9.2.1) (Nat.le_of_eq g12.symm)
  have sz_b12 : h0.size ≤ b12 := Nat.le_trans K9.1 (Nat.le_of_eq g12.symm)
  have sn12 : Safe Z own_EL s.vm h9 b12 := Safe.new (Nat.le_of_eq g12.symm)
  rw [← g12] at A12 D12 st12
  have f13 := f11.ext E12
  have O12 := O9.ext E12
  have K12 : Keep h0 h12 [] := K9.ext E12
  have sf14 := Safe.ext E12 C9 sf10
  have sf15 := Safe.ext E12 C9 sn12
  have C12 : CHv Z own_EL s.vm h12 := C9.ext E12
  have R12 : CHr Z own_EL s.vm h0 s.vm h12 := R9.trans (CHr.ext E12 C9)
  have hk12 := Nat.le_trans hk9 E12.1
  have F12_21 : Fld Z h12 b12 "java/lang/String" "value" "[B" .null := D12 (Or.inr (hw _ (List.mem_of_getElem? (i := 21) rfl))) (ty := (.array .byte)) (by decide)
  have F12_22 : Fld Z h12 b12 "java/lang/String" "coder" "B" (.int (0 : Int32)) := D12 (Or.inr (hw _ (List.mem_of_getElem? (i := 22) rfl))) (ty := .byte) (by decide)
  obtain ⟨LL16, X16, N16⟩ : ∃ LL, Stand p l e room_1 (s.setVm s.vm) m #[(.int p1), (.int p2), (.int p3), (.int p4)] below meth c T12 LL 2 6 ∧ Fr n0 LL := ⟨_, X12, N9⟩
  obtain ⟨_, _, ⟨T17, L17, k17, n17⟩, -, X17, ⟨Lc17, hQ17, l17, y17, z17⟩, st17⟩ := X16.specialBack hx (y := (⟨"java/lang/String", "<init>", "([C)V"⟩ : MethodName)) rfl hown (mvT hZ (hw _ (List.mem_of_getElem? (i := 9) rfl))) (mvT hZ (hw _ (List.mem_of_getElem? (i := 10) rfl))) (mvT hZ (hw _ (List.mem_of_getElem? (i := 11) rfl))) (by decide) (backOf (W := 1) (r_s2 l Z a0 hw [] s_L1 s_L4 s_L3 s_L5 s_L2 cs1 h12 n0 O12 G0 b12 b2 k2 (nar .char ((p3 &&& (255 : Int32)).toUInt32.toUInt16.toUInt32.toInt32)) (nar .char ((p4 &&& (255 : Int32)).toUInt32.toUInt16.toUInt32.toInt32)) A12 g_b12 F12_22 F12_21 f13 (own_ch _) (own_ch _) ne_b2_b12) hZ (hw _ (List.mem_of_getElem? (i := 11) rfl)) (hw _ (List.mem_of_getElem? (i := 8) rfl)) (by decide) (by decide)) (g := (mkF m 104 #[.val (.int p1), .val (.int p2), .val (.int p3), .val (.int p4), .val (.int kk), .val (.ref ta1), .val (.int (1 : Int32)), .val (.int (0 : Int32)), .val (.int (1 : Int32)), .val (.ref b2), .unset, .unset, .unset, .unset, .unset] [(.ref b2), (.ref b12), (.ref b12)])) rfl (by rw [hml]; rfl) (Steps.refl _) (a := b12) (argsL := [(.ref b2)]) (rest := [(.ref b12)]) (lenOf pd_5 rfl) rfl (by show 2 * 0 + _ ≤ _; exact Nat.le_of_eq rfl) (hb hby at_104) (fun _ _ => ⟨rfl, e12, (by decide : 2 + 1 ≤ _), (by decide : 6 + 2 ≤ _)⟩)
  dsimp only [Pt.U, Pt.locs, Pt.cells, Pt.slots] at X17 l17 y17 z17 st17 hQ17
  subst l17 y17 z17
  obtain ⟨rfl, N17q, Kq17⟩ := hQ17
  have N17 := Fr.app N16 N17q
  have f18 := f13.keep Kq17 (fun q => (List.mem_cons.mp q).elim ne_b2_b12 (fun q => nomatch q))
  have f19 := A12.keep Kq17
  have O17 := O12.keep Kq17 (allS g_b12 all0)
  have K17 : Keep h0 T17.heap [] := K12.trans Kq17 (allS (Or.inr sz_b12) all0)
  have sf20 := Safe.keep Kq17 (sfS sf15 sf0) C12 sf14
  have sf21 := Safe.keep Kq17 (sfS sf15 sf0) C12 sf15
  have C17 : CHv Z own_EL s.vm T17.heap := C12.keep Kq17 (sfS sf15 sf0)
  have R17 : CHr Z own_EL s.vm h0 s.vm T17.heap := R12.trans (CHr.keep Kq17 (sfS sf15 sf0) C12)
  have hk17 := Nat.le_trans hk12 Kq17.1
  obtain ⟨T22, h22, X22, e22, E22, A22, D22, -, st22⟩ := newO X17 hx hZ hown (hw _ (List.mem_of_getElem? (i := 6) rfl)) (hw _ (List.mem_of_getElem? (i := 7) rfl)) (hw _ (List.mem_of_getElem? (i := 8) rfl)) rfl (g := (mkF m 127 #[.val (.int p1), .val (.int p2), .val (.int p3), .val (.int p4), .val (.int kk), .val (.ref ta1), .val (.int (1 : Int32)), .val (.int (0 : Int32)), .val (.int (1 : Int32)), .val (.ref b2), .val (.ref b12), .val (.ref b12), .unset, .unset, .unset] [])) rfl (hb hby at_127) (by decide) (by decide)
  obtain ⟨b22, g22⟩ : ∃ z, z = T17.heap.size := ⟨_, rfl⟩
  have ne_b2_b22 : b2 ≠ b22 := Nat.ne_of_lt (Nat.lt_of_lt_of_le f18.lt (Nat.le_of_eq g22.symm))
  have ne_b12_b22 : b12 ≠ b22 := Nat.ne_of_lt (Nat.lt_of_lt_of_le f19.lt (Nat.le_of_eq g22.symm))
  have ne_s_L1_b22 : s_L1 ≠ b22 := Nat.ne_of_lt (Nat.lt_of_lt_of_le (E_L1.ext O17.2).lt (Nat.le_of_eq g22.symm))
  have ne_s_L4_b22 : s_L4 ≠ b22 := Nat.ne_of_lt (Nat.lt_of_lt_of_le (E_L4.ext O17.2).lt (Nat.le_of_eq g22.symm))
  have ne_s_L3_b22 : s_L3 ≠ b22 := Nat.ne_of_lt (Nat.lt_of_lt_of_le (E_L3.ext O17.2).lt (Nat.le_of_eq g22.symm))
  have ne_s_L5_b22 : s_L5 ≠ b22 := Nat.ne_of_lt (Nat.lt_of_lt_of_le (E_L5.ext O17.2).lt (Nat.le_of_eq g22.symm))
  have ne_s_L2_b22 : s_L2 ≠ b22 := Nat.ne_of_lt (Nat.lt_of_lt_of_le (E_L2.ext O17.2).lt (Nat.le_of_eq g22.symm))
  have g_b22 : n0 ≤ b22 := Nat.le_trans (O17.1 ▸ O17.2.1) (Nat.le_of_eq g22.symm)
  have sz_b22 : h0.size ≤ b22 := Nat.le_trans K17.1 (Nat.le_of_eq g22.symm)
  have sn22 : Safe Z own_EL s.vm T17.heap b22 := Safe.new (Nat.le_of_eq g22.symm)
  rw [← g22] at A22 D22 st22
  have f23 := f18.ext E22
  have f24 := f19.ext E22
  have O22 := O17.ext E22
  have K22 : Keep h0 h22 [] := K17.ext E22
  have sf25 := Safe.ext E22 C17 sf20
  have sf26 := Safe.ext E22 C17 sf21
  have sf27 := Safe.ext E22 C17 sn22
  have C22 : CHv Z own_EL s.vm h22 := C17.ext E22
  have R22 : CHr Z own_EL s.vm h0 s.vm h22 := R17.trans (CHr.ext E22 C17)
  have hk22 := Nat.le_trans hk17 E22.1
  have F22_21 : Fld Z h22 b22 "java/lang/String" "value" "[B" .null := D22 (Or.inr (hw _ (List.mem_of_getElem? (i := 21) rfl))) (ty := (.array .byte)) (by decide)
  have F22_22 : Fld Z h22 b22 "java/lang/String" "coder" "B" (.int (0 : Int32)) := D22 (Or.inr (hw _ (List.mem_of_getElem? (i := 22) rfl))) (ty := .byte) (by decide)
  obtain ⟨_, _, ⟨T28, L28, k28, n28⟩, -, X28, ⟨Lc28, hQ28, l28, y28, z28⟩, st28⟩ := X22.specialBack hx (y := (⟨"java/lang/String", "<init>", "([C)V"⟩ : MethodName)) rfl hown (mvT hZ (hw _ (List.mem_of_getElem? (i := 9) rfl))) (mvT hZ (hw _ (List.mem_of_getElem? (i := 10) rfl))) (mvT hZ (hw _ (List.mem_of_getElem? (i := 11) rfl))) (by decide) (backOf (W := 1) (r_s2 l Z a0 hw [] s_L1 s_L4 s_L3 s_L5 s_L2 cs1 h22 n0 O22 G0 b22 b2 k2 (nar .char ((p3 &&& (255 : Int32)).toUInt32.toUInt16.toUInt32.toInt32)) (nar .char ((p4 &&& (255 : Int32)).toUInt32.toUInt16.toUInt32.toInt32)) A22 g_b22 F22_22 F22_21 f23 (own_ch _) (own_ch _) ne_b2_b22) hZ (hw _ (List.mem_of_getElem? (i := 11) rfl)) (hw _ (List.mem_of_getElem? (i := 8) rfl)) (by decide) (by decide)) (g := (mkF m 133 #[.val (.int p1), .val (.int p2), .val (.int p3), .val (.int p4), .val (.int kk), .val (.ref ta1), .val (.int (1 : Int32)), .val (.int (0 : Int32)), .val (.int (1 : Int32)), .val (.ref b2), .val (.ref b12), .val (.ref b12), .unset, .unset, .unset] [(.ref b2), (.ref b22), (.ref b22)])) rfl (by rw [hml]; rfl) (Steps.refl _) (a := b22) (argsL := [(.ref b2)]) (rest := [(.ref b22)]) (lenOf pd_5 rfl) rfl (by show 2 * 0 + _ ≤ _; exact Nat.le_of_eq rfl) (hb hby at_133) (fun _ _ => ⟨rfl, e22, (by decide : 4 + 1 ≤ _), (by decide : 12 + 2 ≤ _)⟩)
  dsimp only [Pt.U, Pt.locs, Pt.cells, Pt.slots] at X28 l28 y28 z28 st28 hQ28
  subst l28 y28 z28
  obtain ⟨rfl, N28q, Kq28⟩ := hQ28
  have N28 := Fr.app N17 N28q
  have f29 := f23.keep Kq28 (fun q => (List.mem_cons.mp q).elim ne_b2_b22 (fun q => nomatch q))
  have f30 := f24.keep Kq28
  have f31 := A22.keep Kq28
  have O28 := O22.keep Kq28 (allS g_b22 all0)
  have K28 : Keep h0 T28.heap [] := K22.trans Kq28 (allS (Or.inr sz_b22) all0)
  have sf32 := Safe.keep Kq28 (sfS sf27 sf0) C22 sf25
  have sf33 := Safe.keep Kq28 (sfS sf27 sf0) C22 sf26
  have sf34 := Safe.keep Kq28 (sfS sf27 sf0) C22 sf27
  have C28 : CHv Z own_EL s.vm T28.heap := C22.keep Kq28 (sfS sf27 sf0)
  have R28 : CHr Z own_EL s.vm h0 s.vm T28.heap := R22.trans (CHr.keep Kq28 (sfS sf27 sf0) C22)
  have hk28 := Nat.le_trans hk22 Kq28.1
  obtain ⟨T35, h35, X35, e35, E35, A35, D35, -, st35⟩ := newO X28 hx hZ hown (hw _ (List.mem_of_getElem? (i := 27) rfl)) (hw _ (List.mem_of_getElem? (i := 28) rfl)) (hw _ (List.mem_of_getElem? (i := 29) rfl)) rfl (g := (mkF m 142 #[.val (.int p1), .val (.int p2), .val (.int p3), .val (.int p4), .val (.int kk), .val (.ref ta1), .val (.int (1 : Int32)), .val (.int (0 : Int32)), .val (.int (1 : Int32)), .val (.ref b2), .val (.ref b12), .val (.ref b12), .val (.ref b22), .unset, .unset] [])) rfl (hb hby at_142) (by decide) (by decide)
  obtain ⟨b35, g35⟩ : ∃ z, z = T28.heap.size := ⟨_, rfl⟩
  have ne_b2_b35 : b2 ≠ b35 := Nat.ne_of_lt (Nat.lt_of_lt_of_le f29.lt (Nat.le_of_eq g35.symm))
  have ne_b12_b35 : b12 ≠ b35 := Nat.ne_of_lt (Nat.lt_of_lt_of_le f30.lt (Nat.le_of_eq g35.symm))
  have ne_b22_b35 : b22 ≠ b35 := Nat.ne_of_lt (Nat.lt_of_lt_of_le f31.lt (Nat.le_of_eq g35.symm))
  have ne_s_L1_b35 : s_L1 ≠ b35 := Nat.ne_of_lt (Nat.lt_of_lt_of_le (E_L1.ext O28.2).lt (Nat.le_of_eq g35.symm))
  have ne_s_L4_b35 : s_L4 ≠ b35 := Nat.ne_of_lt (Nat.lt_of_lt_of_le (E_L4.ext O28.2).lt (Nat.le_of_eq g35.symm))
  have ne_s_L3_b35 : s_L3 ≠ b35 := Nat.ne_of_lt (Nat.lt_of_lt_of_le (E_L3.ext O28.2).lt (Nat.le_of_eq g35.symm))
  have ne_s_L5_b35 : s_L5 ≠ b35 := Nat.ne_of_lt (Nat.lt_of_lt_of_le (E_L5.ext O28.2).lt (Nat.le_of_eq g35.symm))
  have ne_s_L2_b35 : s_L2 ≠ b35 := Nat.ne_of_lt (Nat.lt_of_lt_of_le (E_L2.ext O28.2).lt (Nat.le_of_eq g35.symm))
  have g_b35 : n0 ≤ b35 := Nat.le_trans (O28.1 ▸ O28.2.1) (Nat.le_of_eq g35.symm)
  have sz_b35 : h0.size ≤ b35 := Nat.le_trans K28.1 (Nat.le_of_eq g35.symm)
  have sn35 : Safe Z own_EL s.vm T28.heap b35 := Safe.new (Nat.le_of_eq g35.symm)
  rw [← g35] at A35 D35 st35
  have f36 := f29.ext E35
  have f37 := f30.ext E35
  have f38 := f31.ext E35
  have O35 := O28.ext E35
  have K35 : Keep h0 h35 [] := K28.ext E35
  have sf39 := Safe.ext E35 C28 sf32
  have sf40 := Safe.ext E35 C28 sf33
  have sf41 := Safe.ext E35 C28 sf34
  have sf42 := Safe.ext E35 C28 sn35
  have C35 : CHv Z own_EL s.vm h35 := C28.ext E35
  have R35 : CHr Z own_EL s.vm h0 s.vm h35 := R28.trans (CHr.ext E35 C28)
  have hk35 := Nat.le_trans hk28 E35.1
  have F35_35 : Fld Z h35 b35 "com/example/pending_actions/pendingactions/policy/Assessment" "tier" "Lcom/example/pending_actions/pendingactions/policy/RiskTier;" .null := D35 (Or.inr (hw _ (List.mem_of_getElem? (i := 35) rfl))) (ty := (.object "com/example/pending_actions/pendingactions/policy/RiskTier")) (by decide)
  have F35_37 : Fld Z h35 b35 "com/example/pending_actions/pendingactions/policy/Assessment" "decider" "Ljava/lang/String;" .null := D35 (Or.inr (hw _ (List.mem_of_getElem? (i := 37) rfl))) (ty := (.object "java/lang/String")) (by decide)
  have F35_39 : Fld Z h35 b35 "com/example/pending_actions/pendingactions/policy/Assessment" "policyVersion" "Ljava/lang/String;" .null := D35 (Or.inr (hw _ (List.mem_of_getElem? (i := 39) rfl))) (ty := (.object "java/lang/String")) (by decide)
  obtain ⟨_, _, ⟨T43, L43, k43, n43⟩, -, X43, ⟨Lc43, hQ43, l43, y43, z43⟩, st43⟩ := X35.specialBack hx (y := (⟨"com/example/pending_actions/pendingactions/policy/Assessment", "<init>", "(Lcom/example/pending_actions/pendingactions/policy/RiskTier;Ljava/lang/String;Ljava/lang/String;)V"⟩ : MethodName)) rfl hown (mvT hZ (hw _ (List.mem_of_getElem? (i := 30) rfl))) (mvT hZ (hw _ (List.mem_of_getElem? (i := 31) rfl))) (mvT hZ (hw _ (List.mem_of_getElem? (i := 32) rfl))) (by decide) (backOf (W := 1) (r_ai7 l Z a0 hw [] s_L1 s_L4 s_L3 s_L5 s_L2 cs1 h35 n0 O35 G0 b35 ta1 b12 b22 A35 g_b35 F35_35 F35_37 F35_39) hZ (hw _ (List.mem_of_getElem? (i := 32) rfl)) (hw _ (List.mem_of_getElem? (i := 29) rfl)) (by decide) (by decide)) (g := (mkF m 152 #[.val (.int p1), .val (.int p2), .val (.int p3), .val (.int p4), .val (.int kk), .val (.ref ta1), .val (.int (1 : Int32)), .val (.int (0 : Int32)), .val (.int (1 : Int32)), .val (.ref b2), .val (.ref b12), .val (.ref b12), .val (.ref b22), .unset, .unset] [(.ref b22), (.ref b12), (.ref ta1), (.ref b35), (.ref b35)])) rfl (by rw [hml]; rfl) (Steps.refl _) (a := b35) (argsL := [(.ref ta1), (.ref b12), (.ref b22)]) (rest := [(.ref b35)]) (lenOf pd_6 rfl) rfl (by show 2 * 0 + _ ≤ _; exact Nat.le_of_eq rfl) (hb hby at_152) (fun _ _ => ⟨rfl, e35, (by decide : 6 + 0 ≤ _), (by decide : 17 + 0 ≤ _)⟩)
  dsimp only [Pt.U, Pt.locs, Pt.cells, Pt.slots] at X43 l43 y43 z43 st43 hQ43
  subst l43 y43 z43
  obtain ⟨rfl, N43q, Kq43, Ft43, Fd43⟩ := hQ43
  have N43 := Fr.app N28 N43q
  have f44 := f36.keep Kq43 (fun q => (List.mem_cons.mp q).elim ne_b2_b35 (fun q => nomatch q))
  have f45 := f37.keep Kq43
  have f46 := f38.keep Kq43
  have f47 := A35.keep Kq43
  have O43 := O35.keep Kq43 (allS g_b35 all0)
  have K43 : Keep h0 T43.heap [] := K35.trans Kq43 (allS (Or.inr sz_b35) all0)
  have sf48 := Safe.keep Kq43 (sfS sf42 sf0) C35 sf39
  have sf49 := Safe.keep Kq43 (sfS sf42 sf0) C35 sf40
  have sf50 := Safe.keep Kq43 (sfS sf42 sf0) C35 sf41
  have sf51 := Safe.keep Kq43 (sfS sf42 sf0) C35 sf42
  have C43 : CHv Z own_EL s.vm T43.heap := C35.keep Kq43 (sfS sf42 sf0)
  have R43 : CHr Z own_EL s.vm h0 s.vm T43.heap := R35.trans (CHr.keep Kq43 (sfS sf42 sf0) C35)
  have hk43 := Nat.le_trans hk35 Kq43.1
  obtain ⟨cq52, kq52, q52a, q52b, q52c⟩ := isOf hZ rfl f47
  obtain ⟨_, _, ⟨T52, L52, k52, n52⟩, -, X52, ⟨Lc52, hQ52, l52, y52, z52⟩, st52⟩ := X43.virtualBack hx (y := (⟨"com/example/pending_actions/pendingactions/policy/Assessment", "isAutoApproved", "()Z"⟩ : MethodName)) (z := (⟨"com/example/pending_actions/pendingactions/policy/Assessment", "isAutoApproved", "()Z"⟩ : MethodName)) hown (mvT hZ (hw _ (List.mem_of_getElem? (i := 40) rfl))) (mvT hZ (hw _ (List.mem_of_getElem? (i := 41) rfl))) (notFace_of_selects (args := #[]) (mvT hZ (hw _ (List.mem_of_getElem? (i := 43) rfl)))) (mvT hZ (hw _ (List.mem_of_getElem? (i := 43) rfl))) (mvT hZ (hw _ (List.mem_of_getElem? (i := 42) rfl))) (by decide) (backOf (W := 0) (r_aa3 l Z a0 hw [] s_L1 s_L4 s_L3 s_L5 s_L2 cs1 T43.heap n0 O43 G0 b35 ta1 b12 Ft43 Fd43) hZ (hw _ (List.mem_of_getElem? (i := 44) rfl)) (hw _ (List.mem_of_getElem? (i := 29) rfl)) (by decide) (by decide)) q52a q52c (g := (mkF m 176 #[.val (.int p1), .val (.int p2), .val (.int p3), .val (.int p4), .val (.int kk), .val (.ref ta1), .val (.int (1 : Int32)), .val (.int (0 : Int32)), .val (.int (1 : Int32)), .val (.ref b2), .val (.ref b12), .val (.ref b12), .val (.ref b22), .val (.ref b35), .val (.int (1 : Int32))] [(.ref b35)])) rfl (by rw [hml]; rfl) (Steps.refl _) (argsL := []) (rest := []) (lenOf pd_7 rfl) rfl (by show 2 * 0 + _ ≤ _; exact Nat.le_of_eq rfl) (hb hby at_176) (fun _ _ => ⟨rfl, rfl, (by decide : 6 + 0 ≤ _), (by decide : 17 + 0 ≤ _)⟩)
  dsimp only [Pt.U, Pt.locs, Pt.cells, Pt.slots] at X52 l52 y52 z52 st52 hQ52
  subst l52 y52 z52
  obtain ⟨rfl, N52q, e52⟩ := hQ52
  have N52 := Fr.app N43 N52q
  obtain ⟨fs, hr, hrun, hended, hRW⟩ := X52.leaveW hS0 (by rw [e52]; exact hk43) (v := some (.int (1 : Int32))) (fun h => by rw [Bd.returns] at h; cases h)
  refine ⟨_, _, pre0 _ ?_, hrun, hended, _, _, rfl, ?_, ?_, hRW.1, hRW.2.1, hRW.2.2.1, hRW.2.2.2.mono (by decide) (by decide)⟩
  · show Steps p.tables e below (s₁.setTop (mkF m 0 #[.val (.int p1), .val (.int p2), .val (.int p3), .val (.int p4), .unset, .unset, .unset, .unset, .unset, .unset, .unset, .unset, .unset, .unset, .unset] [])) _
    refine XS.iloadN X0.here hx rfl (hb hby at_0) rfl ?_
    show Steps p.tables e below (s₁.setTop (mkF m 1 #[.val (.int p1), .val (.int p2), .val (.int p3), .val (.int p4), .unset, .unset, .unset, .unset, .unset, .unset, .unset, .unset, .unset, .unset, .unset] [(.int p1)])) _
    refine X0.ldcInt hx hown (mvT hZ (hw _ (List.mem_of_getElem? (i := 0) rfl))) (g := (mkF m 1 #[.val (.int p1), .val (.int p2), .val (.int p3), .val (.int p4), .unset, .unset, .unset, .unset, .unset, .unset, .unset, .unset, .unset, .unset, .unset] [(.int p1)])) rfl (hb hby at_1) _ ?_
    show Steps p.tables e below (s₁.setTop (mkF m 3 #[.val (.int p1), .val (.int p2), .val (.int p3), .val (.int p4), .unset, .unset, .unset, .unset, .unset, .unset, .unset, .unset, .unset, .unset, .unset] [(.int (2147483647 : Int32)), (.int p1)])) _
    refine XS.iand X0.here hx rfl (hb hby at_3) rfl ?_
    refine XS.bipush X0.here hx rfl (hb hby at_4) ?_
    show Steps p.tables e below (s₁.setTop (mkF m 6 #[.val (.int p1), .val (.int p2), .val (.int p3), .val (.int p4), .unset, .unset, .unset, .unset, .unset, .unset, .unset, .unset, .unset, .unset, .unset] [(.int (6 : Int32)), (.int (p1 &&& (2147483647 : Int32)))])) _
    refine iremM X0 hx rfl (hb hby at_6) rfl (by decide) ?_
    show Steps p.tables e below (s₁.setTop (mkF m 7 #[.val (.int p1), .val (.int p2), .val (.int p3), .val (.int p4), .unset, .unset, .unset, .unset, .unset, .unset, .unset, .unset, .unset, .unset, .unset] [(.int ((p1 &&& (2147483647 : Int32)) % (6 : Int32)))])) _
    rw [hk]
    show Steps p.tables e below (s₁.setTop (mkF m 7 #[.val (.int p1), .val (.int p2), .val (.int p3), .val (.int p4), .unset, .unset, .unset, .unset, .unset, .unset, .unset, .unset, .unset, .unset, .unset] [(.int kk)])) _
    refine XS.istore X0.here hx rfl (hb hby at_7) rfl (l' := #[.val (.int p1), .val (.int p2), .val (.int p3), .val (.int p4), .val (.int kk), .unset, .unset, .unset, .unset, .unset, .unset, .unset, .unset, .unset, .unset]) rfl ?_
    refine XS.iload X0.here hx rfl (hb hby at_9) rfl ?_
    show Steps p.tables e below (s₁.setTop (mkF m 11 #[.val (.int p1), .val (.int p2), .val (.int p3), .val (.int p4), .val (.int kk), .unset, .unset, .unset, .unset, .unset, .unset, .unset, .unset, .unset, .unset] [(.int kk)])) _
    refine st1 _ ?_
    show Steps p.tables e below (T1.setTop (mkF m 14 #[.val (.int p1), .val (.int p2), .val (.int p3), .val (.int p4), .val (.int kk), .unset, .unset, .unset, .unset, .unset, .unset, .unset, .unset, .unset, .unset] [(.ref ta1)])) _
    refine XS.astore X1.here hx rfl (hb hby at_14) rfl rfl (l' := #[.val (.int p1), .val (.int p2), .val (.int p3), .val (.int p4), .val (.int kk), .val (.ref ta1), .unset, .unset, .unset, .unset, .unset, .unset, .unset, .unset, .unset]) rfl ?_
    refine XS.iloadN X1.here hx rfl (hb hby at_16) rfl ?_
    refine XS.iconst X1.here hx rfl (hb hby at_17) ?_
    refine XS.iand X1.here hx rfl (hb hby at_18) rfl ?_
    refine XS.ifNo X1.here hx rfl (hb hby at_19) rfl ((if0 _ _).trans (feq (hf0_ : ¬ ((p2 &&& (1 : Int32)) = (0 : Int32)))).1) ?_
    show Steps p.tables e below (T1.setTop (mkF m 22 #[.val (.int p1), .val (.int p2), .val (.int p3), .val (.int p4), .val (.int kk), .val (.ref ta1), .unset, .unset, .unset, .unset, .unset, .unset, .unset, .unset, .unset] [])) _
    refine XS.iconst X1.here hx rfl (hb hby at_22) ?_
    refine XS.goto X1.here hx rfl (pc0 := 23) (pc' := 27) rfl (hb hby at_23) (by decide) (by decide) ?_
    refine XS.istore X1.here hx rfl (hb hby at_27) rfl (l' := #[.val (.int p1), .val (.int p2), .val (.int p3), .val (.int p4), .val (.int kk), .val (.ref ta1), .val (.int (1 : Int32)), .unset, .unset, .unset, .unset, .unset, .unset, .unset, .unset]) rfl ?_
    refine XS.iloadN X1.here hx rfl (hb hby at_29) rfl ?_
    refine XS.iconst X1.here hx rfl (hb hby at_30) ?_
    show Steps p.tables e below (T1.setTop (mkF m 31 #[.val (.int p1), .val (.int p2), .val (.int p3), .val (.int p4), .val (.int kk), .val (.ref ta1), .val (.int (1 : Int32)), .unset, .unset, .unset, .unset, .unset, .unset, .unset, .unset] [(.int (2 : Int32)), (.int p2)])) _
    refine XS.iand X1.here hx rfl (hb hby at_31) rfl ?_
    refine XS.ifYes X1.here hx rfl (pc0 := 32) (pc' := 39) rfl (hb hby at_32) rfl ((if0 _ _).trans (teq (hf1_ : (p2 &&& (2 : Int32)) = (0 : Int32))).1) (by decide) (by decide) ?_
    refine XS.iconst X1.here hx rfl (hb hby at_39) ?_
    refine XS.istore X1.here hx rfl (hb hby at_40) rfl (l' := #[.val (.int p1), .val (.int p2), .val (.int p3), .val (.int p4), .val (.int kk), .val (.ref ta1), .val (.int (1 : Int32)), .val (.int (0 : Int32)), .unset, .unset, .unset, .unset, .unset, .unset, .unset]) rfl ?_
    refine XS.iloadN X1.here hx rfl (hb hby at_42) rfl ?_
    show Steps p.tables e below (T1.setTop (mkF m 43 #[.val (.int p1), .val (.int p2), .val (.int p3), .val (.int p4), .val (.int kk), .val (.ref ta1), .val (.int (1 : Int32)), .val (.int (0 : Int32)), .unset, .unset, .unset, .unset, .unset, .unset, .unset] [(.int p2)])) _
    refine XS.iconst X1.here hx rfl (hb hby at_43) ?_
    refine XS.iand X1.here hx rfl (hb hby at_44) rfl ?_
    refine XS.ifNo X1.here hx rfl (hb hby at_45) rfl ((if0 _ _).trans (feq (hf2_ : ¬ ((p2 &&& (4 : Int32)) = (0 : Int32)))).1) ?_
    refine XS.iconst X1.here hx rfl (hb hby at_48) ?_
    refine XS.goto X1.here hx rfl (pc0 := 49) (pc' := 53) rfl (hb hby at_49) (by decide) (by decide) ?_
    show Steps p.tables e below (T1.setTop (mkF m 53 #[.val (.int p1), .val (.int p2), .val (.int p3), .val (.int p4), .val (.int kk), .val (.ref ta1), .val (.int (1 : Int32)), .val (.int (0 : Int32)), .unset, .unset, .unset, .unset, .unset, .unset, .unset] [(.int (1 : Int32))])) _
    refine XS.istore X1.here hx rfl (hb hby at_53) rfl (l' := #[.val (.int p1), .val (.int p2), .val (.int p3), .val (.int p4), .val (.int kk), .val (.ref ta1), .val (.int (1 : Int32)), .val (.int (0 : Int32)), .val (.int (1 : Int32)), .unset, .unset, .unset, .unset, .unset, .unset]) rfl ?_
    refine XS.iconst X1.here hx rfl (hb hby at_55) ?_
    show Steps p.tables e below (T1.setTop (mkF m 56 #[.val (.int p1), .val (.int p2), .val (.int p3), .val (.int p4), .val (.int kk), .val (.ref ta1), .val (.int (1 : Int32)), .val (.int (0 : Int32)), .val (.int (1 : Int32)), .unset, .unset, .unset, .unset, .unset, .unset] [(.int (2 : Int32))])) _
    refine st2 _ ?_
    show Steps p.tables e below (T2.setTop (mkF m 58 #[.val (.int p1), .val (.int p2), .val (.int p3), .val (.int p4), .val (.int kk), .val (.ref ta1), .val (.int (1 : Int32)), .val (.int (0 : Int32)), .val (.int (1 : Int32)), .unset, .unset, .unset, .unset, .unset, .unset] [(.ref b2)])) _
    refine XS.astore X2.here hx rfl (hb hby at_58) rfl rfl (l' := #[.val (.int p1), .val (.int p2), .val (.int p3), .val (.int p4), .val (.int kk), .val (.ref ta1), .val (.int (1 : Int32)), .val (.int (0 : Int32)), .val (.int (1 : Int32)), .val (.ref b2), .unset, .unset, .unset, .unset, .unset]) rfl ?_
    refine XS.aload X2.here hx rfl (hb hby at_60) rfl rfl ?_
    refine XS.iconst X2.here hx rfl (hb hby at_62) ?_
    refine XS.iloadN X2.here hx rfl (hb hby at_63) rfl ?_
    refine XS.sipush X2.here hx rfl (hb hby at_64) ?_
    show Steps p.tables e below (T2.setTop (mkF m 67 #[.val (.int p1), .val (.int p2), .val (.int p3), .val (.int p4), .val (.int kk), .val (.ref ta1), .val (.int (1 : Int32)), .val (.int (0 : Int32)), .val (.int (1 : Int32)), .val (.ref b2), .unset, .unset, .unset, .unset, .unset] [(.int (255 : Int32)), (.int p3), (.int (0 : Int32)), (.ref b2)])) _
    refine XS.iand X2.here hx rfl (hb hby at_67) rfl ?_
    refine XS.i2c X2.here hx rfl (hb hby at_68) rfl ?_
    show Steps p.tables e below (T2.setTop (mkF m 69 #[.val (.int p1), .val (.int p2), .val (.int p3), .val (.int p4), .val (.int kk), .val (.ref ta1), .val (.int (1 : Int32)), .val (.int (0 : Int32)), .val (.int (1 : Int32)), .val (.ref b2), .unset, .unset, .unset, .unset, .unset] [(.int ((p3 &&& (255 : Int32)).toUInt32.toUInt16.toUInt32.toInt32)), (.int (0 : Int32)), (.ref b2)])) _
    refine st5 _ ?_
    show Steps p.tables e below (T5.setTop (mkF m 70 #[.val (.int p1), .val (.int p2), .val (.int p3), .val (.int p4), .val (.int kk), .val (.ref ta1), .val (.int (1 : Int32)), .val (.int (0 : Int32)), .val (.int (1 : Int32)), .val (.ref b2), .unset, .unset, .unset, .unset, .unset] [])) _
    refine XS.aload X5.here hx rfl (hb hby at_70) rfl rfl ?_
    refine XS.iconst X5.here hx rfl (hb hby at_72) ?_
    refine XS.iloadN X5.here hx rfl (hb hby at_73) rfl ?_
    refine XS.sipush X5.here hx rfl (hb hby at_74) ?_
    refine XS.iand X5.here hx rfl (hb hby at_77) rfl ?_
    show Steps p.tables e below (T5.setTop (mkF m 78 #[.val (.int p1), .val (.int p2), .val (.int p3), .val (.int p4), .val (.int kk), .val (.ref ta1), .val (.int (1 : Int32)), .val (.int (0 : Int32)), .val (.int (1 : Int32)), .val (.ref b2), .unset, .unset, .unset, .unset, .unset] [(.int (p4 &&& (255 : Int32))), (.int (1 : Int32)), (.ref b2)])) _
    refine XS.i2c X5.here hx rfl (hb hby at_78) rfl ?_
    show Steps p.tables e below (T5.setTop (mkF m 79 #[.val (.int p1), .val (.int p2), .val (.int p3), .val (.int p4), .val (.int kk), .val (.ref ta1), .val (.int (1 : Int32)), .val (.int (0 : Int32)), .val (.int (1 : Int32)), .val (.ref b2), .unset, .unset, .unset, .unset, .unset] [(.int ((p4 &&& (255 : Int32)).toUInt32.toUInt16.toUInt32.toInt32)), (.int (1 : Int32)), (.ref b2)])) _
    refine st9 _ ?_
    show Steps p.tables e below (T9.setTop (mkF m 80 #[.val (.int p1), .val (.int p2), .val (.int p3), .val (.int p4), .val (.int kk), .val (.ref ta1), .val (.int (1 : Int32)), .val (.int (0 : Int32)), .val (.int (1 : Int32)), .val (.ref b2), .unset, .unset, .unset, .unset, .unset] [])) _
    refine XS.iload X9.here hx rfl (hb hby at_80) rfl ?_
    refine XS.ifYes X9.here hx rfl (pc0 := 82) (pc' := 98) rfl (hb hby at_82) rfl ((if0 _ _).trans (teq (by decide : (0 : Int32) = (0 : Int32))).1) (by decide) (by decide) ?_
    show Steps p.tables e below (T9.setTop (mkF m 98 #[.val (.int p1), .val (.int p2), .val (.int p3), .val (.int p4), .val (.int kk), .val (.ref ta1), .val (.int (1 : Int32)), .val (.int (0 : Int32)), .val (.int (1 : Int32)), .val (.ref b2), .unset, .unset, .unset, .unset, .unset] [])) _
    refine st12 _ ?_
    show Steps p.tables e below (T12.setTop (mkF m 101 #[.val (.int p1), .val (.int p2), .val (.int p3), .val (.int p4), .val (.int kk), .val (.ref ta1), .val (.int (1 : Int32)), .val (.int (0 : Int32)), .val (.int (1 : Int32)), .val (.ref b2), .unset, .unset, .unset, .unset, .unset] [(.ref b12)])) _
    refine XS.dup X12.here hx rfl (hb hby at_101) rfl rfl ?_
    refine XS.aload X12.here hx rfl (hb hby at_102) rfl rfl ?_
    show Steps p.tables e below (T12.setTop (mkF m 104 #[.val (.int p1), .val (.int p2), .val (.int p3), .val (.int p4), .val (.int kk), .val (.ref ta1), .val (.int (1 : Int32)), .val (.int (0 : Int32)), .val (.int (1 : Int32)), .val (.ref b2), .unset, .unset, .unset, .unset, .unset] [(.ref b2), (.ref b12), (.ref b12)])) _
    refine st17.trans ?_
    show Steps p.tables e below (T17.setTop (mkF m 107 #[.val (.int p1), .val (.int p2), .val (.int p3), .val (.int p4), .val (.int kk), .val (.ref ta1), .val (.int (1 : Int32)), .val (.int (0 : Int32)), .val (.int (1 : Int32)), .val (.ref b2), .unset, .unset, .unset, .unset, .unset] [(.ref b12)])) _
    refine XS.astore X17.here hx rfl (hb hby at_107) rfl rfl (l' := #[.val (.int p1), .val (.int p2), .val (.int p3), .val (.int p4), .val (.int kk), .val (.ref ta1), .val (.int (1 : Int32)), .val (.int (0 : Int32)), .val (.int (1 : Int32)), .val (.ref b2), .val (.ref b12), .unset, .unset, .unset, .unset]) rfl ?_
    refine XS.iload X17.here hx rfl (hb hby at_109) rfl ?_
    refine XS.ifNo X17.here hx rfl (hb hby at_111) rfl ((if0 _ _).trans (feq (by decide : ¬ ((1 : Int32) = (0 : Int32)))).1) ?_
    refine XS.aload X17.here hx rfl (hb hby at_114) rfl rfl ?_
    refine XS.goto X17.here hx rfl (pc0 := 116) (pc' := 120) rfl (hb hby at_116) (by decide) (by decide) ?_
    show Steps p.tables e below (T17.setTop (mkF m 120 #[.val (.int p1), .val (.int p2), .val (.int p3), .val (.int p4), .val (.int kk), .val (.ref ta1), .val (.int (1 : Int32)), .val (.int (0 : Int32)), .val (.int (1 : Int32)), .val (.ref b2), .val (.ref b12), .unset, .unset, .unset, .unset] [(.ref b12)])) _
    refine XS.astore X17.here hx rfl (hb hby at_120) rfl rfl (l' := #[.val (.int p1), .val (.int p2), .val (.int p3), .val (.int p4), .val (.int kk), .val (.ref ta1), .val (.int (1 : Int32)), .val (.int (0 : Int32)), .val (.int (1 : Int32)), .val (.ref b2), .val (.ref b12), .val (.ref b12), .unset, .unset, .unset]) rfl ?_
    refine XS.iload X17.here hx rfl (hb hby at_122) rfl ?_
    refine XS.ifNo X17.here hx rfl (hb hby at_124) rfl ((if0 _ _).trans (feq (by decide : ¬ ((1 : Int32) = (0 : Int32)))).1) ?_
    show Steps p.tables e below (T17.setTop (mkF m 127 #[.val (.int p1), .val (.int p2), .val (.int p3), .val (.int p4), .val (.int kk), .val (.ref ta1), .val (.int (1 : Int32)), .val (.int (0 : Int32)), .val (.int (1 : Int32)), .val (.ref b2), .val (.ref b12), .val (.ref b12), .unset, .unset, .unset] [])) _
    refine st22 _ ?_
    show Steps p.tables e below (T22.setTop (mkF m 130 #[.val (.int p1), .val (.int p2), .val (.int p3), .val (.int p4), .val (.int kk), .val (.ref ta1), .val (.int (1 : Int32)), .val (.int (0 : Int32)), .val (.int (1 : Int32)), .val (.ref b2), .val (.ref b12), .val (.ref b12), .unset, .unset, .unset] [(.ref b22)])) _
    refine XS.dup X22.here hx rfl (hb hby at_130) rfl rfl ?_
    refine XS.aload X22.here hx rfl (hb hby at_131) rfl rfl ?_
    show Steps p.tables e below (T22.setTop (mkF m 133 #[.val (.int p1), .val (.int p2), .val (.int p3), .val (.int p4), .val (.int kk), .val (.ref ta1), .val (.int (1 : Int32)), .val (.int (0 : Int32)), .val (.int (1 : Int32)), .val (.ref b2), .val (.ref b12), .val (.ref b12), .unset, .unset, .unset] [(.ref b2), (.ref b22), (.ref b22)])) _
    refine st28.trans ?_
    show Steps p.tables e below (T28.setTop (mkF m 136 #[.val (.int p1), .val (.int p2), .val (.int p3), .val (.int p4), .val (.int kk), .val (.ref ta1), .val (.int (1 : Int32)), .val (.int (0 : Int32)), .val (.int (1 : Int32)), .val (.ref b2), .val (.ref b12), .val (.ref b12), .unset, .unset, .unset] [(.ref b22)])) _
    refine XS.goto X28.here hx rfl (pc0 := 136) (pc' := 140) rfl (hb hby at_136) (by decide) (by decide) ?_
    refine XS.astore X28.here hx rfl (hb hby at_140) rfl rfl (l' := #[.val (.int p1), .val (.int p2), .val (.int p3), .val (.int p4), .val (.int kk), .val (.ref ta1), .val (.int (1 : Int32)), .val (.int (0 : Int32)), .val (.int (1 : Int32)), .val (.ref b2), .val (.ref b12), .val (.ref b12), .val (.ref b22), .unset, .unset]) rfl ?_
    show Steps p.tables e below (T28.setTop (mkF m 142 #[.val (.int p1), .val (.int p2), .val (.int p3), .val (.int p4), .val (.int kk), .val (.ref ta1), .val (.int (1 : Int32)), .val (.int (0 : Int32)), .val (.int (1 : Int32)), .val (.ref b2), .val (.ref b12), .val (.ref b12), .val (.ref b22), .unset, .unset] [])) _
    refine st35 _ ?_
    show Steps p.tables e below (T35.setTop (mkF m 145 #[.val (.int p1), .val (.int p2), .val (.int p3), .val (.int p4), .val (.int kk), .val (.ref ta1), .val (.int (1 : Int32)), .val (.int (0 : Int32)), .val (.int (1 : Int32)), .val (.ref b2), .val (.ref b12), .val (.ref b12), .val (.ref b22), .unset, .unset] [(.ref b35)])) _
    refine XS.dup X35.here hx rfl (hb hby at_145) rfl rfl ?_
    refine XS.aload X35.here hx rfl (hb hby at_146) rfl rfl ?_
    refine XS.aload X35.here hx rfl (hb hby at_148) rfl rfl ?_
    refine XS.aload X35.here hx rfl (hb hby at_150) rfl rfl ?_
    show Steps p.tables e below (T35.setTop (mkF m 152 #[.val (.int p1), .val (.int p2), .val (.int p3), .val (.int p4), .val (.int kk), .val (.ref ta1), .val (.int (1 : Int32)), .val (.int (0 : Int32)), .val (.int (1 : Int32)), .val (.ref b2), .val (.ref b12), .val (.ref b12), .val (.ref b22), .unset, .unset] [(.ref b22), (.ref b12), (.ref ta1), (.ref b35), (.ref b35)])) _
    refine st43.trans ?_
    show Steps p.tables e below (T43.setTop (mkF m 155 #[.val (.int p1), .val (.int p2), .val (.int p3), .val (.int p4), .val (.int kk), .val (.ref ta1), .val (.int (1 : Int32)), .val (.int (0 : Int32)), .val (.int (1 : Int32)), .val (.ref b2), .val (.ref b12), .val (.ref b12), .val (.ref b22), .unset, .unset] [(.ref b35)])) _
    refine XS.astore X43.here hx rfl (hb hby at_155) rfl rfl (l' := #[.val (.int p1), .val (.int p2), .val (.int p3), .val (.int p4), .val (.int kk), .val (.ref ta1), .val (.int (1 : Int32)), .val (.int (0 : Int32)), .val (.int (1 : Int32)), .val (.ref b2), .val (.ref b12), .val (.ref b12), .val (.ref b22), .val (.ref b35), .unset]) rfl ?_
    refine XS.iload X43.here hx rfl (hb hby at_157) rfl ?_
    refine XS.ifNo X43.here hx rfl (hb hby at_159) rfl ((if0 _ _).trans (feq ((by rcases hk1 with h | h | h | h | h <;> rw [h] <;> decide) : ¬ (kk = (0 : Int32)))).1) ?_
    refine XS.iload X43.here hx rfl (hb hby at_162) rfl ?_
    refine XS.ifNo X43.here hx rfl (hb hby at_164) rfl ((if0 _ _).trans (feq (by decide : ¬ ((1 : Int32) = (0 : Int32)))).1) ?_
    show Steps p.tables e below (T43.setTop (mkF m 167 #[.val (.int p1), .val (.int p2), .val (.int p3), .val (.int p4), .val (.int kk), .val (.ref ta1), .val (.int (1 : Int32)), .val (.int (0 : Int32)), .val (.int (1 : Int32)), .val (.ref b2), .val (.ref b12), .val (.ref b12), .val (.ref b22), .val (.ref b35), .unset] [])) _
    refine XS.iconst X43.here hx rfl (hb hby at_167) ?_
    refine XS.goto X43.here hx rfl (pc0 := 168) (pc' := 172) rfl (hb hby at_168) (by decide) (by decide) ?_
    refine XS.istore X43.here hx rfl (hb hby at_172) rfl (l' := #[.val (.int p1), .val (.int p2), .val (.int p3), .val (.int p4), .val (.int kk), .val (.ref ta1), .val (.int (1 : Int32)), .val (.int (0 : Int32)), .val (.int (1 : Int32)), .val (.ref b2), .val (.ref b12), .val (.ref b12), .val (.ref b22), .val (.ref b35), .val (.int (1 : Int32))]) rfl ?_
    refine XS.aload X43.here hx rfl (hb hby at_174) rfl rfl ?_
    show Steps p.tables e below (T43.setTop (mkF m 176 #[.val (.int p1), .val (.int p2), .val (.int p3), .val (.int p4), .val (.int kk), .val (.ref ta1), .val (.int (1 : Int32)), .val (.int (0 : Int32)), .val (.int (1 : Int32)), .val (.ref b2), .val (.ref b12), .val (.ref b12), .val (.ref b22), .val (.ref b35), .val (.int (1 : Int32))] [(.ref b35)])) _
    refine st52.trans ?_
    show Steps p.tables e below (T52.setTop (mkF m 179 #[.val (.int p1), .val (.int p2), .val (.int p3), .val (.int p4), .val (.int kk), .val (.ref ta1), .val (.int (1 : Int32)), .val (.int (0 : Int32)), .val (.int (1 : Int32)), .val (.ref b2), .val (.ref b12), .val (.ref b12), .val (.ref b22), .val (.ref b35), .val (.int (1 : Int32))] [(.int (1 : Int32))])) _
    refine XS.iload X52.here hx rfl (hb hby at_179) rfl ?_
    refine XS.icmpNo X52.here hx rfl (hb hby at_181) rfl (teq (by decide : (1 : Int32) = (1 : Int32))).2 ?_
    refine XS.iconst X52.here hx rfl (hb hby at_184) ?_
    refine XS.goto X52.here hx rfl (pc0 := 185) (pc' := 189) rfl (hb hby at_185) (by decide) (by decide) ?_
    show Steps p.tables e below (T52.setTop (mkF m 189 #[.val (.int p1), .val (.int p2), .val (.int p3), .val (.int p4), .val (.int kk), .val (.ref ta1), .val (.int (1 : Int32)), .val (.int (0 : Int32)), .val (.int (1 : Int32)), .val (.ref b2), .val (.ref b12), .val (.ref b12), .val (.ref b22), .val (.ref b35), .val (.int (1 : Int32))] [(.int (1 : Int32))])) _
    exact retN X52 hx (t := .boolean) Bd.returns (by simp) (hb hby at_189) hr
  · show own_Qk (some (.int (1 : Int32))) [] h0 n0 _ T52.heap _
    rw [e52]
    exact ⟨rfl, N52, K43⟩
  · show CHr Z own_EL s.vm s.heap T52.vm T52.heap
    rw [hh, e52]
    exact R43.trans (CHv.at (s := s) (vm0 := s.vm) X52 hZ hEL C43)
set_option maxRecDepth 65536 in
set_option maxHeartbeats 40000000 in
theorem r_law12 (l : Launch) (Z : State) (a0 : Array Value) (hw : ∀ d ∈ tables_1, d.before a0 Z = true) (ws : List Jvm.Cond) (s_L1 s_L4 s_L3 s_L5 s_L2 : Addr) (cs1 : Int32) (h0 : Heap) (n0 : Nat) (O0 : Old Z n0 h0) (G : own_Ctx Z Z.heap s_L1 s_L4 s_L3 s_L5 s_L2 cs1) (hEL : EW Z a0 own_EL) (wS : ∀ a ∈ Bundle.stringAtoms, a.before a0 Z = true) (p1 p2 p3 p4 : Int32) (hk : (p1 &&& (2147483647 : Int32)) % (6 : Int32) = (0 : Int32)) (hf0_ : (p2 &&& (1 : Int32)) = (0 : Int32)) (hf1_ : ¬ ((p2 &&& (2 : Int32)) = (0 : Int32))) (hf2_ : ¬ ((p2 &&& (4 : Int32)) = (0 : Int32))) :
    MetFree l x (head1 (Jvm.Cond.code x code maxLocals ret :: ws) room_1) (fun a U => a = #[(.int p1), (.int p2), (.int p3), (.int p4)] ∧ Z.Warmed39 U.vm ∧ U.heap = h0 ∧ CHv Z own_EL U.vm h0) (fun _ _ _ _ _ => True) (fun _ U o U' => ∃ v L, o = .returned v ∧ own_Qk (some (.int (1 : Int32))) [] h0 n0 v U'.heap L ∧ CHr Z own_EL U.vm U.heap U'.vm U'.heap ∧ ReturnedEndW U o U' L 24 1152) := by
  have G0 := G
  obtain ⟨S_L1, E_L1, S_L4, E_L4, S_L3, E_L3, S_L5, E_L5, S_L2, E_L2, S_CS, N_CS⟩ := G
  refine MetFree.of_bodySF (plainFor_of_name pn_0) hisR ?_
  intro p e s m args below meth c s₁ Bd hml0 hP hK
  obtain ⟨rfl, hZ, hh, hC⟩ := hP
  have hx := Bd.exec
  have hby := Bd.bytes
  have hml : c.maxLocals = 15 := hml0
  have hown : s.vm.findClass "com/example/pending_actions/pendingactions/policy/AssessmentIsAutoApprovedPinLaw" = some m.cls := findClass_of_methodNamed Bd.named
  have hnm := (name_of_methodNamed Bd.named Bd.method).1
  have X0 : Stand p l e room_1 (s.setVm s.vm) m #[(.int p1), (.int p2), (.int p3), (.int p4)] below meth c s₁ [] 0 0 := Stand.of_body Bd
  have e0 : s₁.heap = h0 := by rw [← hh, Bd.state]; rfl
  have N0 := Fr.nil n0
  have hS0 : s.Since s.vm h0.size := State.WarmedH.since (State.WarmedH.refl s) _
  have hk0 : h0.size ≤ h0.size := Nat.le_refl _
  have pre0 : ∀ t, Steps p.tables e below (s₁.setTop (mkF m 0 #[.val (.int p1), .val (.int p2), .val (.int p3), .val (.int p4), .unset, .unset, .unset, .unset, .unset, .unset, .unset, .unset, .unset, .unset, .unset] [])) t → Steps p.tables e below (s₁.setTop (entryFrame m #[(.int p1), (.int p2), (.int p3), (.int p4)] maxLocals)) t := fun t k => castTop (ef_0_15 m p1 p2 p3 p4) k
  obtain ⟨_, _, ⟨T1, L1, k1, n1⟩, -, X1, ⟨Lc1, hQ1, l1, y1, z1⟩, st1⟩ := Jvm.LawKit.callS X0 hx (y := (⟨"com/example/pending_actions/pendingactions/policy/AssessmentIsAutoApprovedPinLaw", "pick", "(I)Lcom/example/pending_actions/pendingactions/policy/RiskTier;"⟩ : MethodName)) hown (mvT hZ (hw _ (List.mem_of_getElem? (i := 1) rfl))) (mvT hZ (hw _ (List.mem_of_getElem? (i := 2) rfl))) (mvT hZ (hw _ (List.mem_of_getElem? (i := 3) rfl))) (mvT hZ (hw _ (List.mem_of_getElem? (i := 4) rfl))) (by decide) (backOf (W := 0) (r_tier_0 l Z a0 hw [] s_L1 s_L4 s_L3 s_L5 s_L2 cs1 h0 n0 O0 G0) hZ (hw _ (List.mem_of_getElem? (i := 4) rfl)) (hw _ (List.mem_of_getElem? (i := 3) rfl)) (by decide) (by decide)) (g := (mkF m 11 #[.val (.int p1), .val (.int p2), .val (.int p3), .val (.int p4), .val (.int (0 : Int32)), .unset, .unset, .unset, .unset, .unset, .unset, .unset, .unset, .unset, .unset] [(.int (0 : Int32))])) rfl (by rw [hml]; rfl) (argsL := [(.int (0 : Int32))]) (rest := []) (lenOf pd_4 rfl) rfl (by show 2 * 0 + _ ≤ _; exact Nat.le_of_eq rfl) (hb hby at_11) (fun _ _ => ⟨rfl, e0, (by decide : 0 + 0 ≤ _), (by decide : 0 + 0 ≤ _)⟩)
  dsimp only [Pt.U, Pt.locs, Pt.cells, Pt.slots] at X1 l1 y1 z1 st1 hQ1
  subst l1 y1 z1
  obtain ⟨rfl, N1q, e1⟩ := hQ1
  have N1 := Fr.app N0 N1q
  obtain ⟨T2, h2, k2, X2, e2, E2, A2, st2⟩ := newP X1 hx hZ (hw _ (List.mem_of_getElem? (i := 5) rfl)) e1 (g := (mkF m 56 #[.val (.int p1), .val (.int p2), .val (.int p3), .val (.int p4), .val (.int (0 : Int32)), .val .null, .val (.int (0 : Int32)), .val (.int (1 : Int32)), .val (.int (1 : Int32)), .unset, .unset, .unset, .unset, .unset, .unset] [(.int (2 : Int32))])) rfl (hb hby at_56) rfl (by decide) (cap := 2) (by decide) (by decide) (by decide) (by decide)
  obtain ⟨b2, g2⟩ : ∃ z, z = h0.size := ⟨_, rfl⟩
  have ne_s_L1_b2 : s_L1 ≠ b2 := Nat.ne_of_lt (Nat.lt_of_lt_of_le (E_L1.ext O0.2).lt (Nat.le_of_eq g2.symm))
  have ne_s_L4_b2 : s_L4 ≠ b2 := Nat.ne_of_lt (Nat.lt_of_lt_of_le (E_L4.ext O0.2).lt (Nat.le_of_eq g2.symm))
  have ne_s_L3_b2 : s_L3 ≠ b2 := Nat.ne_of_lt (Nat.lt_of_lt_of_le (E_L3.ext O0.2).lt (Nat.le_of_eq g2.symm))
  have ne_s_L5_b2 : s_L5 ≠ b2 := Nat.ne_of_lt (Nat.lt_of_lt_of_le (E_L5.ext O0.2).lt (Nat.le_of_eq g2.symm))
  have ne_s_L2_b2 : s_L2 ≠ b2 := Nat.ne_of_lt (Nat.lt_of_lt_of_le (E_L2.ext O0.2).lt (Nat.le_of_eq g2.symm))
  have g_b2 : n0 ≤ b2 := Nat.le_trans (O0.1 ▸ O0.2.1) (Nat.le_of_eq g2.symm)
  have sz_b2 : h0.size ≤ b2 := Nat.le_trans (Keep.refl h0 []).1 (Nat.le_of_eq g2.symm)
  have sn2 : Safe Z own_EL s.vm h0 b2 := Safe.new (Nat.le_of_eq g2.symm)
  rw [← g2] at A2 st2
  have O2 := O0.ext E2
  have K2 : Keep h0 h2 [] := (Keep.refl h0 []).ext E2
  have sf3 := Safe.ext E2 hC sn2
  have C2 : CHv Z own_EL s.vm h2 := hC.ext E2
  have R2 : CHr Z own_EL s.vm h0 s.vm h2 := (CHr.refl hC).trans (CHr.ext E2 hC)
  have hk2 := Nat.le_trans hk0 E2.1
  have V2 : Arv Z h2 b2 k2 .char (2 : Int32) [(.int (0 : Int32)), (.int (0 : Int32))] (.int (0 : Int32)) := (Arv.new A2 (by decide)).pad (pad_rep [] (.int (0 : Int32)) 2)
  have vc4 := V2
  obtain ⟨cl4, Ar4, qk4, S4, Nn4, Hs4, Gf4⟩ := vc4
  have hin4 : ¬ ((0 : Int32) < 0 ∨ cl4.slots.size ≤ ((0 : Int32)).toNatClampNeg) := inb_of S4 ⟨by decide, by decide⟩
  obtain ⟨T5, h5, X5, e5, W5, st5⟩ := stC X2 hx hZ e2 Ar4 (j := (0 : Int32)) hin4 (g := (mkF m 69 #[.val (.int p1), .val (.int p2), .val (.int p3), .val (.int p4), .val (.int (0 : Int32)), .val .null, .val (.int (0 : Int32)), .val (.int (1 : Int32)), .val (.int (1 : Int32)), .val (.ref b2), .unset, .unset, .unset, .unset, .unset] [(.int ((p3 &&& (255 : Int32)).toUInt32.toUInt16.toUInt32.toInt32)), (.int (0 : Int32)), (.ref b2)])) rfl rfl (hb hby at_69)
  have O5 := O2.wr W5 g_b2
  have K5 : Keep h0 h5 [] := K2.wr W5 (Or.inr sz_b2)
  have N5 := Fr.snoc X5 N1 g_b2
  have sf6 := Safe.wr W5 sf3 C2 sf3
  have C5 : CHv Z own_EL s.vm h5 := C2.wr W5 sf3
  have R5 : CHr Z own_EL s.vm h0 s.vm h5 := R2.trans (CHr.wr W5 sf3 C2)
  have hk5 := Nat.le_trans hk2 (Keep.of_wr W5).1
  have f7 : Arv Z h5 b2 k2 .char (2 : Int32) [(.int (nar .char ((p3 &&& (255 : Int32)).toUInt32.toUInt16.toUInt32.toInt32))), (.int (0 : Int32))] (.int (0 : Int32)) := Arv.set Ar4 qk4 S4 Nn4 Hs4 Gf4 (fits_nar_char _) W5 0 rfl (Nat.le_of_ble_eq_true rfl)
  have vc8 := f7
  obtain ⟨cl8, Ar8, qk8, S8, Nn8, Hs8, Gf8⟩ := vc8
  have hin8 : ¬ ((1 : Int32) < 0 ∨ cl8.slots.size ≤ ((1 : Int32)).toNatClampNeg) := inb_of S8 ⟨by decide, by decide⟩
  obtain ⟨T9, h9, X9, e9, W9, st9⟩ := stC X5 hx hZ e5 Ar8 (j := (1 : Int32)) hin8 (g := (mkF m 79 #[.val (.int p1), .val (.int p2), .val (.int p3), .val (.int p4), .val (.int (0 : Int32)), .val .null, .val (.int (0 : Int32)), .val (.int (1 : Int32)), .val (.int (1 : Int32)), .val (.ref b2), .unset, .unset, .unset, .unset, .unset] [(.int ((p4 &&& (255 : Int32)).toUInt32.toUInt16.toUInt32.toInt32)), (.int (1 : Int32)), (.ref b2)])) rfl rfl (hb hby at_79)
  have O9 := O5.wr W9 g_b2
  have K9 : Keep h0 h9 [] := K5.wr W9 (Or.inr sz_b2)
  have N9 := Fr.snoc X9 N5 g_b2
  have sf10 := Safe.wr W9 sf6 C5 sf6
  have C9 : CHv Z own_EL s.vm h9 := C5.wr W9 sf6
  have R9 : CHr Z own_EL s.vm h0 s.vm h9 := R5.trans (CHr.wr W9 sf6 C5)
  have hk9 := Nat.le_trans hk5 (Keep.of_wr W9).1
  have f11 : Arv Z h9 b2 k2 .char (2 : Int32) [(.int (nar .char ((p3 &&& (255 : Int32)).toUInt32.toUInt16.toUInt32.toInt32))), (.int (nar .char ((p4 &&& (255 : Int32)).toUInt32.toUInt16.toUInt32.toInt32)))] (.int (0 : Int32)) := Arv.set Ar8 qk8 S8 Nn8 Hs8 Gf8 (fits_nar_char _) W9 1 rfl (Nat.le_of_ble_eq_true rfl)
  obtain ⟨T12, h12, X12, e12, E12, A12, D12, -, st12⟩ := newO X9 hx hZ hown (hw _ (List.mem_of_getElem? (i := 6) rfl)) (hw _ (List.mem_of_getElem? (i := 7) rfl)) (hw _ (List.mem_of_getElem? (i := 8) rfl)) e9 (g := (mkF m 85 #[.val (.int p1), .val (.int p2), .val (.int p3), .val (.int p4), .val (.int (0 : Int32)), .val .null, .val (.int (0 : Int32)), .val (.int (1 : Int32)), .val (.int (1 : Int32)), .val (.ref b2), .unset, .unset, .unset, .unset, .unset] [])) rfl (hb hby at_85) (by decide) (by decide)
  obtain ⟨b12, g12⟩ : ∃ z, z = h9.size := ⟨_, rfl⟩
  have ne_b2_b12 : b2 ≠ b12 := Nat.ne_of_lt (Nat.lt_of_lt_of_le f11.lt (Nat.le_of_eq g12.symm))
  have ne_s_L1_b12 : s_L1 ≠ b12 := Nat.ne_of_lt (Nat.lt_of_lt_of_le (E_L1.ext O9.2).lt (Nat.le_of_eq g12.symm))
  have ne_s_L4_b12 : s_L4 ≠ b12 := Nat.ne_of_lt (Nat.lt_of_lt_of_le (E_L4.ext O9.2).lt (Nat.le_of_eq g12.symm))
  have ne_s_L3_b12 : s_L3 ≠ b12 := Nat.ne_of_lt (Nat.lt_of_lt_of_le (E_L3.ext O9.2).lt (Nat.le_of_eq g12.symm))
  have ne_s_L5_b12 : s_L5 ≠ b12 := Nat.ne_of_lt (Nat.lt_of_lt_of_le (E_L5.ext O9.2).lt (Nat.le_of_eq g12.symm))
  have ne_s_L2_b12 : s_L2 ≠ b12 := Nat.ne_of_lt (Nat.lt_of_lt_of_le (E_L2.ext O9.2).lt (Nat.le_of_eq g12.symm))
  have g_b12 : n0 ≤ b12 := Nat.le_trans (O9.1 ▸ O9.2.1) (Nat.le_of_eq g12.symm)
  have sz_b12 : h0.size ≤ b12 := Nat.le_trans K9.1 (Nat.le_of_eq g12.symm)
  have sn12 : Safe Z own_EL s.vm h9 b12 := Safe.new (Nat.le_of_eq g12.symm)
  rw [← g12] at A12 D12 st12
  have f13 := f11.ext E12
  have O12 := O9.ext E12
  have K12 : Keep h0 h12 [] := K9.ext E12
  have sf14 := Safe.ext E12 C9 sf10
  have sf15 := Safe.ext E12 C9 sn12
  have C12 : CHv Z own_EL s.vm h12 := C9.ext E12
  have R12 : CHr Z own_EL s.vm h0 s.vm h12 := R9.trans (CHr.ext E12 C9)
  have hk12 := Nat.le_trans hk9 E12.1
  have F12_21 : Fld Z h12 b12 "java/lang/String" "value" "[B" .null := D12 (Or.inr (hw _ (List.mem_of_getElem? (i := 21) rfl))) (ty := (.array .byte)) (by decide)
  have F12_22 : Fld Z h12 b12 "java/lang/String" "coder" "B" (.int (0 : Int32)) := D12 (Or.inr (hw _ (List.mem_of_getElem? (i := 22) rfl))) (ty := .byte) (by decide)
  obtain ⟨T16, h16, k16, X16, e16, E16, A16, st16⟩ := newP X12 hx hZ (hw _ (List.mem_of_getElem? (i := 5) rfl)) e12 (g := (mkF m 90 #[.val (.int p1), .val (.int p2), .val (.int p3), .val (.int p4), .val (.int (0 : Int32)), .val .null, .val (.int (0 : Int32)), .val (.int (1 : Int32)), .val (.int (1 : Int32)), .val (.ref b2), .unset, .unset, .unset, .unset, .unset] [(.int (0 : Int32)), (.ref b12), (.ref b12)])) rfl (hb hby at_90) rfl (by decide) (cap := 0) (by decide) (by decide) (by decide) (by decide)
  obtain ⟨b16, g16⟩ : ∃ z, z = h12.size := ⟨_, rfl⟩
  have ne_b2_b16 : b2 ≠ b16 := Nat.ne_of_lt (Nat.lt_of_lt_of_le f13.lt (Nat.le_of_eq g16.symm))
  have ne_b12_b16 : b12 ≠ b16 := Nat.ne_of_lt (Nat.lt_of_lt_of_le A12.lt (Nat.le_of_eq g16.symm))
  have ne_s_L1_b16 : s_L1 ≠ b16 := Nat.ne_of_lt (Nat.lt_of_lt_of_le (E_L1.ext O12.2).lt (Nat.le_of_eq g16.symm))
  have ne_s_L4_b16 : s_L4 ≠ b16 := Nat.ne_of_lt (Nat.lt_of_lt_of_le (E_L4.ext O12.2).lt (Nat.le_of_eq g16.symm))
  have ne_s_L3_b16 : s_L3 ≠ b16 := Nat.ne_of_lt (Nat.lt_of_lt_of_le (E_L3.ext O12.2).lt (Nat.le_of_eq g16.symm))
  have ne_s_L5_b16 : s_L5 ≠ b16 := Nat.ne_of_lt (Nat.lt_of_lt_of_le (E_L5.ext O12.2).lt (Nat.le_of_eq g16.symm))
  have ne_s_L2_b16 : s_L2 ≠ b16 := Nat.ne_of_lt (Nat.lt_of_lt_of_le (E_L2.ext O12.2).lt (Nat.le_of_eq g16.symm))
  have g_b16 : n0 ≤ b16 := Nat.le_trans (O12.1 ▸ O12.2.1) (Nat.le_of_eq g16.symm)
  have sz_b16 : h0.size ≤ b16 := Nat.le_trans K12.1 (Nat.le_of_eq g16.symm)
  have sn16 : Safe Z own_EL s.vm h12 b16 := Safe.new (Nat.le_of_eq g16.symm)
  rw [← g16] at A16 st16
  have f17 := f13.ext E16
  have f18 := A12.ext E16
  have f19 := F12_21.ext E16
  have f20 := F12_22.ext E16
  have O16 := O12.ext E16
  have K16 : Keep h0 h16 [] := K12.ext E16
  have sf21 := Safe.ext E16 C12 sf14
  have sf22 := Safe.ext E16 C12 sf15
  have sf23 := Safe.ext E16 C12 sn16
  have C16 : CHv Z own_EL s.vm h16 := C12.ext E16
  have R16 : CHr Z own_EL s.vm h0 s.vm h16 := R12.trans (CHr.ext E16 C12)
  have hk16 := Nat.le_trans hk12 E16.1
  have V16 : Arv Z h16 b16 k16 .char (0 : Int32) [] (.int (0 : Int32)) := Arv.new A16 (by decide)
  obtain ⟨LL24, X24, N24⟩ : ∃ LL, Stand p l e room_1 (s.setVm s.vm) m #[(.int p1), (.int p2), (.int p3), (.int p4)] below meth c T16 LL 3 6 ∧ Fr n0 LL := ⟨_, X16, N9⟩
  obtain ⟨_, _, ⟨T25, L25, k25, n25⟩, -, X25, S25a, z25a, ⟨Lc25, hQ25, l25, y25, z25, R25q⟩, st25⟩ := X24.specialBackS hx (y := (⟨"java/lang/String", "<init>", "([C)V"⟩ : MethodName)) rfl hown (mvT hZ (hw _ (List.mem_of_getElem? (i := 9) rfl))) (mvT hZ (hw _ (List.mem_of_getElem? (i := 10) rfl))) (mvT hZ (hw _ (List.mem_of_getElem? (i := 11) rfl))) (by decide) (backOfSH (s := s) (vm0 := s.vm) (EL := own_EL) (W := 1) (r_s0 l Z a0 hw [] s_L1 s_L4 s_L3 s_L5 s_L2 cs1 h16 n0 O16 G0 hEL wS b12 b16 k16 f18 g_b12 f20 f19 V16 (Ne.symm ne_b12_b16)) hZ (hw _ (List.mem_of_getElem? (i := 11) rfl)) (hw _ (List.mem_of_getElem? (i := 8) rfl)) (by decide) (by decide) hEL C16) (g := (mkF m 92 #[.val (.int p1), .val (.int p2), .val (.int p3), .val (.int p4), .val (.int (0 : Int32)), .val .null, .val (.int (0 : Int32)), .val (.int (1 : Int32)), .val (.int (1 : Int32)), .val (.ref b2), .unset, .unset, .unset, .unset, .unset] [(.ref b16), (.ref b12), (.ref b12)])) rfl (by rw [hml]; rfl) (Steps.refl _) (a := b12) (argsL := [(.ref b16)]) (rest := [(.ref b12)]) (lenOf pd_5 rfl) rfl (by show 2 * 0 + _ ≤ _; exact Nat.le_of_eq rfl) (hb hby at_92) (fun _ _ => ⟨rfl, e16, (by decide : 3 + 2 ≤ _), (by decide : 6 + 4 ≤ _)⟩)
  dsimp only [Pt.U, Pt.locs, Pt.cells, Pt.slots] at X25 S25a z25a l25 y25 z25 st25 hQ25 R25q
  subst l25 y25 z25
  have X25 : Stand p l e room_1 (s.setVm T25.vm) m #[(.int p1), (.int p2), (.int p3), (.int p4)] below meth c T25 _ _ _ := X25
  have S25f : s.Since T25.vm T25.heap.size := foldS (T := T16) hS0 (by rw [e16]; exact hk16) S25a z25a
  have hZ25 : Z.Warmed39 T25.vm := State.Warmed39.trans (t := s.setVm s.vm) hZ S25a.1
  have hown25 : (s.setVm T25.vm).vm.findClass "com/example/pending_actions/pendingactions/policy/AssessmentIsAutoApprovedPinLaw" = some m.cls := by rw [show (s.setVm T25.vm).vm = T25.vm from rfl, S25a.1.alike.findClass]; exact hown
  obtain ⟨rfl, N25q, Kq25⟩ := hQ25
  have N25 := Fr.app N24 N25q
  have f26 := f17.keep Kq25 (fun q => (List.mem_cons.mp q).elim ne_b2_b12 (fun q => nomatch q))
  have f27 := f18.keep Kq25
  have f28 := V16.keep Kq25 (fun q => (List.mem_cons.mp q).elim (Ne.symm ne_b12_b16) (fun q => nomatch q))
  have O25 := O16.keep Kq25 (allS g_b12 all0)
  have K25 : Keep h0 T25.heap [] := K16.trans Kq25 (allS (Or.inr sz_b12) all0)
  have sf29 := R25q.safe f17.lt sf21
  have sf30 := R25q.safe f18.lt sf22
  have sf31 := R25q.safe V16.lt sf23
  have R25 : CHr Z own_EL s.vm h0 T25.vm T25.heap := R16.trans R25q
  have C25 := R25q.1
  obtain ⟨T32, h32, X32, e32, E32, A32, D32, -, st32⟩ := newO X25 hx hZ25 hown25 (hw _ (List.mem_of_getElem? (i := 6) rfl)) (hw _ (List.mem_of_getElem? (i := 7) rfl)) (hw _ (List.mem_of_getElem? (i := 8) rfl)) rfl (g := (mkF m 127 #[.val (.int p1), .val (.int p2), .val (.int p3), .val (.int p4), .val (.int (0 : Int32)), .val .null, .val (.int (0 : Int32)), .val (.int (1 : Int32)), .val (.int (1 : Int32)), .val (.ref b2), .val (.ref b12), .val .null, .unset, .unset, .unset] [])) rfl (hb hby at_127) (by decide) (by decide)
  obtain ⟨b32, g32⟩ : ∃ z, z = T25.heap.size := ⟨_, rfl⟩
  have ne_b2_b32 : b2 ≠ b32 := Nat.ne_of_lt (Nat.lt_of_lt_of_le f26.lt (Nat.le_of_eq g32.symm))
  have ne_b12_b32 : b12 ≠ b32 := Nat.ne_of_lt (Nat.lt_of_lt_of_le f27.lt (Nat.le_of_eq g32.symm))
  have ne_b16_b32 : b16 ≠ b32 := Nat.ne_of_lt (Nat.lt_of_lt_of_le f28.lt (Nat.le_of_eq g32.symm))
  have ne_s_L1_b32 : s_L1 ≠ b32 := Nat.ne_of_lt (Nat.lt_of_lt_of_le (E_L1.ext O25.2).lt (Nat.le_of_eq g32.symm))
  have ne_s_L4_b32 : s_L4 ≠ b32 := Nat.ne_of_lt (Nat.lt_of_lt_of_le (E_L4.ext O25.2).lt (Nat.le_of_eq g32.symm))
  have ne_s_L3_b32 : s_L3 ≠ b32 := Nat.ne_of_lt (Nat.lt_of_lt_of_le (E_L3.ext O25.2).lt (Nat.le_of_eq g32.symm))
  have ne_s_L5_b32 : s_L5 ≠ b32 := Nat.ne_of_lt (Nat.lt_of_lt_of_le (E_L5.ext O25.2).lt (Nat.le_of_eq g32.symm))
  have ne_s_L2_b32 : s_L2 ≠ b32 := Nat.ne_of_lt (Nat.lt_of_lt_of_le (E_L2.ext O25.2).lt (Nat.le_of_eq g32.symm))
  have g_b32 : n0 ≤ b32 := Nat.le_trans (O25.1 ▸ O25.2.1) (Nat.le_of_eq g32.symm)
  have sz_b32 : h0.size ≤ b32 := Nat.le_trans K25.1 (Nat.le_of_eq g32.symm)
  have sn32 : Safe Z own_EL T25.vm T25.heap b32 := Safe.new (Nat.le_of_eq g32.symm)
  rw [← g32] at A32 D32 st32
  have f33 := f26.ext E32
  have f34 := f27.ext E32
  have f35 := f28.ext E32
  have O32 := O25.ext E32
  have K32 : Keep h0 h32 [] := K25.ext E32
  have sf36 := Safe.ext E32 C25 sf29
  have sf37 := Safe.ext E32 C25 sf30
  have sf38 := Safe.ext E32 C25 sf31
  have sf39 := Safe.ext E32 C25 sn32
  have C32 : CHv Z own_EL T25.vm h32 := C25.ext E32
  have R32 : CHr Z own_EL s.vm h0 T25.vm h32 := R25.trans (CHr.ext E32 C25)
  have hk32 := Nat.le_trans (Nat.le_refl _) E32.1
  have F32_21 : Fld Z h32 b32 "java/lang/String" "value" "[B" .null := D32 (Or.inr (hw _ (List.mem_of_getElem? (i := 21) rfl))) (ty := (.array .byte)) (by decide)
  have F32_22 : Fld Z h32 b32 "java/lang/String" "coder" "B" (.int (0 : Int32)) := D32 (Or.inr (hw _ (List.mem_of_getElem? (i := 22) rfl))) (ty := .byte) (by decide)
  obtain ⟨_, _, ⟨T40, L40, k40, n40⟩, -, X40, ⟨Lc40, hQ40, l40, y40, z40⟩, st40⟩ := X32.specialBack hx (y := (⟨"java/lang/String", "<init>", "([C)V"⟩ : MethodName)) rfl hown25 (mvT hZ25 (hw _ (List.mem_of_getElem? (i := 9) rfl))) (mvT hZ25 (hw _ (List.mem_of_getElem? (i := 10) rfl))) (mvT hZ25 (hw _ (List.mem_of_getElem? (i := 11) rfl))) (by decide) (backOf (W := 1) (r_s2 l Z a0 hw [] s_L1 s_L4 s_L3 s_L5 s_L2 cs1 h32 n0 O32 G0 b32 b2 k2 (nar .char ((p3 &&& (255 : Int32)).toUInt32.toUInt16.toUInt32.toInt32)) (nar .char ((p4 &&& (255 : Int32)).toUInt32.toUInt16.toUInt32.toInt32)) A32 g_b32 F32_22 F32_21 f33 (own_ch _) (own_ch _) ne_b2_b32) hZ25 (hw _ (List.mem_of_getElem? (i := 11) rfl)) (hw _ (List.mem_of_getElem? (i := 8) rfl)) (by decide) (by decide)) (g := (mkF m 133 #[.val (.int p1), .val (.int p2), .val (.int p3), .val (.int p4), .val (.int (0 : Int32)), .val .null, .val (.int (0 : Int32)), .val (.int (1 : Int32)), .val (.int (1 : Int32)), .val (.ref b2), .val (.ref b12), .val .null, .unset, .unset, .unset] [(.ref b2), (.ref b32), (.ref b32)])) rfl (by rw [hml]; rfl) (Steps.refl _) (a := b32) (argsL := [(.ref b2)]) (rest := [(.ref b32)]) (lenOf pd_5 rfl) rfl (by show 2 * 0 + _ ≤ _; exact Nat.le_of_eq rfl) (hb hby at_133) (fun _ _ => ⟨rfl, e32, (by decide : 6 + 1 ≤ _), (by decide : 14 + 2 ≤ _)⟩)
  dsimp only [Pt.U, Pt.locs, Pt.cells, Pt.slots] at X40 l40 y40 z40 st40 hQ40
  subst l40 y40 z40
  obtain ⟨rfl, N40q, Kq40⟩ := hQ40
  have N40 := Fr.app N25 N40q
  have f41 := f33.keep Kq40 (fun q => (List.mem_cons.mp q).elim ne_b2_b32 (fun q => nomatch q))
  have f42 := f34.keep Kq40
  have f43 := f35.keep Kq40 (fun q => (List.mem_cons.mp q).elim ne_b16_b32 (fun q => nomatch q))
  have f44 := A32.keep Kq40
  have O40 := O32.keep Kq40 (allS g_b32 all0)
  have K40 : Keep h0 T40.heap [] := K32.trans Kq40 (allS (Or.inr sz_b32) all0)
  have sf45 := Safe.keep Kq40 (sfS sf39 sf0) C32 sf36
  have sf46 := Safe.keep Kq40 (sfS sf39 sf0) C32 sf37
  have sf47 := Safe.keep Kq40 (sfS sf39 sf0) C32 sf38
  have sf48 := Safe.keep Kq40 (sfS sf39 sf0) C32 sf39
  have C40 : CHv Z own_EL T25.vm T40.heap := C32.keep Kq40 (sfS sf39 sf0)
  have R40 : CHr Z own_EL s.vm h0 T25.vm T40.heap := R32.trans (CHr.keep Kq40 (sfS sf39 sf0) C32)
  have hk40 := Nat.le_trans hk32 Kq40.1
  obtain ⟨T49, h49, X49, e49, E49, A49, D49, -, st49⟩ := newO X40 hx hZ25 hown25 (hw _ (List.mem_of_getElem? (i := 27) rfl)) (hw _ (List.mem_of_getElem? (i := 28) rfl)) (hw _ (List.mem_of_getElem? (i := 29) rfl)) rfl (g := (mkF m 142 #[.val (.int p1), .val (.int p2), .val (.int p3), .val (.int p4), .val (.int (0 : Int32)), .val .null, .val (.int (0 : Int32)), .val (.int (1 : Int32)), .val (.int (1 : Int32)), .val (.ref b2), .val (.ref b12), .val .null, .val (.ref b32), .unset, .unset] [])) rfl (hb hby at_142) (by decide) (by decide)
  obtain ⟨b49, g49⟩ : ∃ z, z = T40.heap.size := ⟨_, rfl⟩
  have ne_b2_b49 : b2 ≠ b49 := Nat.ne_of_lt (Nat.lt_of_lt_of_le f41.lt (Nat.le_of_eq g49.symm))
  have ne_b12_b49 : b12 ≠ b49 := Nat.ne_of_lt (Nat.lt_of_lt_of_le f42.lt (Nat.le_of_eq g49.symm))
  have ne_b16_b49 : b16 ≠ b49 := Nat.ne_of_lt (Nat.lt_of_lt_of_le f43.lt (Nat.le_of_eq g49.symm))
  have ne_b32_b49 : b32 ≠ b49 := Nat.ne_of_lt (Nat.lt_of_lt_of_le f44.lt (Nat.le_of_eq g49.symm))
  have ne_s_L1_b49 : s_L1 ≠ b49 := Nat.ne_of_lt (Nat.lt_of_lt_of_le (E_L1.ext O40.2).lt (Nat.le_of_eq g49.symm))
  have ne_s_L4_b49 : s_L4 ≠ b49 := Nat.ne_of_lt (Nat.lt_of_lt_of_le (E_L4.ext O40.2).lt (Nat.le_of_eq g49.symm))
  have ne_s_L3_b49 : s_L3 ≠ b49 := Nat.ne_of_lt (Nat.lt_of_lt_of_le (E_L3.ext O40.2).lt (Nat.le_of_eq g49.symm))
  have ne_s_L5_b49 : s_L5 ≠ b49 := Nat.ne_of_lt (Nat.lt_of_lt_of_le (E_L5.ext O40.2).lt (Nat.le_of_eq g49.symm))
  have ne_s_L2_b49 : s_L2 ≠ b49 := Nat.ne_of_lt (Nat.lt_of_lt_of_le (E_L2.ext O40.2).lt (Nat.le_of_eq g49.symm))
  have g_b49 : n0 ≤ b49 := Nat.le_trans (O40.1 ▸ O40.2.1) (Nat.le_of_eq g49.symm)
  have sz_b49 : h0.size ≤ b49 := Nat.le_trans K40.1 (Nat.le_of_eq g49.symm)
  have sn49 : Safe Z own_EL T25.vm T40.heap b49 := Safe.new (Nat.le_of_eq g49.symm)
  rw [← g49] at A49 D49 st49
  have f50 := f41.ext E49
  have f51 := f42.ext E49
  have f52 := f43.ext E49
  have f53 := f44.ext E49
  have O49 := O40.ext E49
  have K49 : Keep h0 h49 [] := K40.ext E49
  have sf54 := Safe.ext E49 C40 sf45
  have sf55 := Safe.ext E49 C40 sf46
  have sf56 := Safe.ext E49 C40 sf47
  have sf57 := Safe.ext E49 C40 sf48
  have sf58 := Safe.ext E49 C40 sn49
  have C49 : CHv Z own_EL T25.vm h49 := C40.ext E49
  have R49 : CHr Z own_EL s.vm h0 T25.vm h49 := R40.trans (CHr.ext E49 C40)
  have hk49 := Nat.le_trans hk40 E49.1
  have F49_35 : Fld Z h49 b49 "com/example/pending_actions/pendingactions/policy/Assessment" "tier" "Lcom/example/pending_actions/pendingactions/policy/RiskTier;" .null := D49 (Or.inr (hw _ (List.mem_of_getElem? (i := 35) rfl))) (ty := (.object "com/example/pending_actions/pendingactions/policy/RiskTier")) (by decide)
  have F49_37 : Fld Z h49 b49 "com/example/pending_actions/pendingactions/policy/Assessment" "decider" "Ljava/lang/String;" .null := D49 (Or.inr (hw _ (List.mem_of_getElem? (i := 37) rfl))) (ty := (.object "java/lang/String")) (by decide)
  have F49_39 : Fld Z h49 b49 "com/example/pending_actions/pendingactions/policy/Assessment" "policyVersion" "Ljava/lang/String;" .null := D49 (Or.inr (hw _ (List.mem_of_getElem? (i := 39) rfl))) (ty := (.object "java/lang/String")) (by decide)
  obtain ⟨_, _, ⟨T59, L59, k59, n59⟩, -, X59, ⟨Lc59, hQ59, l59, y59, z59⟩, st59⟩ := X49.specialBack hx (y := (⟨"com/example/pending_actions/pendingactions/policy/Assessment", "<init>", "(Lcom/example/pending_actions/pendingactions/policy/RiskTier;Ljava/lang/String;Ljava/lang/String;)V"⟩ : MethodName)) rfl hown25 (mvT hZ25 (hw _ (List.mem_of_getElem? (i := 30) rfl))) (mvT hZ25 (hw _ (List.mem_of_getElem? (i := 31) rfl))) (mvT hZ25 (hw _ (List.mem_of_getElem? (i := 32) rfl))) (by decide) (backOf (W := 1) (r_ai4 l Z a0 hw [] s_L1 s_L4 s_L3 s_L5 s_L2 cs1 h49 n0 O49 G0 b49 b32 A49 g_b49 F49_35 F49_37 F49_39) hZ25 (hw _ (List.mem_of_getElem? (i := 32) rfl)) (hw _ (List.mem_of_getElem? (i := 29) rfl)) (by decide) (by decide)) (g := (mkF m 152 #[.val (.int p1), .val (.int p2), .val (.int p3), .val (.int p4), .val (.int (0 : Int32)), .val .null, .val (.int (0 : Int32)), .val (.int (1 : Int32)), .val (.int (1 : Int32)), .val (.ref b2), .val (.ref b12), .val .null, .val (.ref b32), .unset, .unset] [(.ref b32), .null, .null, (.ref b49), (.ref b49)])) rfl (by rw [hml]; rfl) (Steps.refl _) (a := b49) (argsL := [.null, .null, (.ref b32)]) (rest := [(.ref b49)]) (lenOf pd_6 rfl) rfl (by show 2 * 0 + _ ≤ _; exact Nat.le_of_eq rfl) (hb hby at_152) (fun _ _ => ⟨rfl, e49, (by decide : 8 + 0 ≤ _), (by decide : 19 + 0 ≤ _)⟩)
  dsimp only [Pt.U, Pt.locs, Pt.cells, Pt.slots] at X59 l59 y59 z59 st59 hQ59
  subst l59 y59 z59
  obtain ⟨rfl, N59q, Kq59, Ft59, Fd59⟩ := hQ59
  have N59 := Fr.app N40 N59q
  have f60 := f50.keep Kq59 (fun q => (List.mem_cons.mp q).elim ne_b2_b49 (fun q => nomatch q))
  have f61 := f51.keep Kq59
  have f62 := f52.keep Kq59 (fun q => (List.mem_cons.mp q).elim ne_b16_b49 (fun q => nomatch q))
  have f63 := f53.keep Kq59
  have f64 := A49.keep Kq59
  have O59 := O49.keep Kq59 (allS g_b49 all0)
  have K59 : Keep h0 T59.heap [] := K49.trans Kq59 (allS (Or.inr sz_b49) all0)
  have sf65 := Safe.keep Kq59 (sfS sf58 sf0) C49 sf54
  have sf66 := Safe.keep Kq59 (sfS sf58 sf0) C49 sf55
  have sf67 := Safe.keep Kq59 (sfS sf58 sf0) C49 sf56
  have sf68 := Safe.keep Kq59 (sfS sf58 sf0) C49 sf57
  have sf69 := Safe.keep Kq59 (sfS sf58 sf0) C49 sf58
  have C59 : CHv Z own_EL T25.vm T59.heap := C49.keep Kq59 (sfS sf58 sf0)
  have R59 : CHr Z own_EL s.vm h0 T25.vm T59.heap := R49.trans (CHr.keep Kq59 (sfS sf58 sf0) C49)
  have hk59 := Nat.le_trans hk49 Kq59.1
  obtain ⟨cq70, kq70, q70a, q70b, q70c⟩ := isOf hZ25 rfl f64
  obtain ⟨_, _, ⟨T70, L70, k70, n70⟩, -, X70, ⟨Lc70, hQ70, l70, y70, z70⟩, st70⟩ := X59.virtualBack hx (y := (⟨"com/example/pending_actions/pendingactions/policy/Assessment", "isAutoApproved", "()Z"⟩ : MethodName)) (z := (⟨"com/example/pending_actions/pendingactions/policy/Assessment", "isAutoApproved", "()Z"⟩ : MethodName)) hown25 (mvT hZ25 (hw _ (List.mem_of_getElem? (i := 40) rfl))) (mvT hZ25 (hw _ (List.mem_of_getElem? (i := 41) rfl))) (notFace_of_selects (args := #[]) (mvT hZ25 (hw _ (List.mem_of_getElem? (i := 43) rfl)))) (mvT hZ25 (hw _ (List.mem_of_getElem? (i := 43) rfl))) (mvT hZ25 (hw _ (List.mem_of_getElem? (i := 42) rfl))) (by decide) (backOf (W := 0) (r_aa0 l Z a0 hw [] s_L1 s_L4 s_L3 s_L5 s_L2 cs1 T59.heap n0 O59 G0 b49  Ft59 Fd59) hZ25 (hw _ (List.mem_of_getElem? (i := 44) rfl)) (hw _ (List.mem_of_getElem? (i := 29) rfl)) (by decide) (by decide)) q70a q70c (g := (mkF m 176 #[.val (.int p1), .val (.int p2), .val (.int p3), .val (.int p4), .val (.int (0 : Int32)), .val .null, .val (.int (0 : Int32)), .val (.int (1 : Int32)), .val (.int (1 : Int32)), .val (.ref b2), .val (.ref b12), .val .null, .val (.ref b32), .val (.ref b49), .val (.int (0 : Int32))] [(.ref b49)])) rfl (by rw [hml]; rfl) (Steps.refl _) (argsL := []) (rest := []) (lenOf pd_7 rfl) rfl (by show 2 * 0 + _ ≤ _; exact Nat.le_of_eq rfl) (hb hby at_176) (fun _ _ => ⟨rfl, rfl, (by decide : 8 + 0 ≤ _), (by decide : 19 + 0 ≤ _)⟩)
  dsimp only [Pt.U, Pt.locs, Pt.cells, Pt.slots] at X70 l70 y70 z70 st70 hQ70
  subst l70 y70 z70
  obtain ⟨rfl, N70q, e70⟩ := hQ70
  have N70 := Fr.app N59 N70q
  obtain ⟨fs, hr, hrun, hended, hRW⟩ := X70.leaveW S25f (by rw [e70]; exact hk59) (v := some (.int (1 : Int32))) (fun h => by rw [Bd.returns] at h; cases h)
  refine ⟨_, _, pre0 _ ?_, hrun, hended, _, _, rfl, ?_, ?_, hRW.1, hRW.2.1, hRW.2.2.1, hRW.2.2.2.mono (by decide) (by decide)⟩
  · show Steps p.tables e below (s₁.setTop (mkF m 0 #[.val (.int p1), .val (.int p2), .val (.int p3), .val (.int p4), .unset, .unset, .unset, .unset, .unset, .unset, .unset, .unset, .unset, .unset, .unset] [])) _
    refine XS.iloadN X0.here hx rfl (hb hby at_0) rfl ?_
    show Steps p.tables e below (s₁.setTop (mkF m 1 #[.val (.int p1), .val (.int p2), .val (.int p3), .val (.int p4), .unset, .unset, .unset, .unset, .unset, .unset, .unset, .unset, .unset, .unset, .unset] [(.int p1)])) _
    refine X0.ldcInt hx hown (mvT hZ (hw _ (List.mem_of_getElem? (i := 0) rfl))) (g := (mkF m 1 #[.val (.int p1), .val (.int p2), .val (.int p3), .val (.int p4), .unset, .unset, .unset, .unset, .unset, .unset, .unset, .unset, .unset, .unset, .unset] [(.int p1)])) rfl (hb hby at_1) _ ?_
    show Steps p.tables e below (s₁.setTop (mkF m 3 #[.val (.int p1), .val (.int p2), .val (.int p3), .val (.int p4), .unset, .unset, .unset, .unset, .unset, .unset, .unset, .unset, .unset, .unset, .unset] [(.int (2147483647 : Int32)), (.int p1)])) _
    refine XS.iand X0.here hx rfl (hb hby at_3) rfl ?_
    refine XS.bipush X0.here hx rfl (hb hby at_4) ?_
    show Steps p.tables e below (s₁.setTop (mkF m 6 #[.val (.int p1), .val (.int p2), .val (.int p3), .val (.int p4), .unset, .unset, .unset, .unset, .unset, .unset, .unset, .unset, .unset, .unset, .unset] [(.int (6 : Int32)), (.int (p1 &&& (2147483647 : Int32)))])) _
    refine iremM X0 hx rfl (hb hby at_6) rfl (by decide) ?_
    show Steps p.tables e below (s₁.setTop (mkF m 7 #[.val (.int p1), .val (.int p2), .val (.int p3), .val (.int p4), .unset, .unset, .unset, .unset, .unset, .unset, .unset, .unset, .unset, .unset, .unset] [(.int ((p1 &&& (2147483647 : Int32)) % (6 : Int32)))])) _
    rw [hk]
    show Steps p.tables e below (s₁.setTop (mkF m 7 #[.val (.int p1), .val (.int p2), .val (.int p3), .val (.int p4), .unset, .unset, .unset, .unset, .unset, .unset, .unset, .unset, .unset, .unset, .unset] [(.int (0 : Int32))])) _
    refine XS.istore X0.here hx rfl (hb hby at_7) rfl (l' := #[.val (.int p1), .val (.int p2), .val (.int p3), .val (.int p4), .val (.int (0 : Int32)), .unset, .unset, .unset, .unset, .unset, .unset, .unset, .unset, .unset, .unset]) rfl ?_
    refine XS.iload X0.here hx rfl (hb hby at_9) rfl ?_
    show Steps p.tables e below (s₁.setTop (mkF m 11 #[.val (.int p1), .val (.int p2), .val (.int p3), .val (.int p4), .val (.int (0 : Int32)), .unset, .unset, .unset, .unset, .unset, .unset, .unset, .unset, .unset, .unset] [(.int (0 : Int32))])) _
    refine st1 _ ?_
    show Steps p.tables e below (T1.setTop (mkF m 14 #[.val (.int p1), .val (.int p2), .val (.int p3), .val (.int p4), .val (.int (0 : Int32)), .unset, .unset, .unset, .unset, .unset, .unset, .unset, .unset, .unset, .unset] [.null])) _
    refine XS.astore X1.here hx rfl (hb hby at_14) rfl rfl (l' := #[.val (.int p1), .val (.int p2), .val (.int p3), .val (.int p4), .val (.int (0 : Int32)), .val .null, .unset, .unset, .unset, .unset, .unset, .unset, .unset, .unset, .unset]) rfl ?_
    refine XS.iloadN X1.here hx rfl (hb hby at_16) rfl ?_
    refine XS.iconst X1.here hx rfl (hb hby at_17) ?_
    refine XS.iand X1.here hx rfl (hb hby at_18) rfl ?_
    refine XS.ifYes X1.here hx rfl (pc0 := 19) (pc' := 26) rfl (hb hby at_19) rfl ((if0 _ _).trans (teq (hf0_ : (p2 &&& (1 : Int32)) = (0 : Int32))).1) (by decide) (by decide) ?_
    show Steps p.tables e below (T1.setTop (mkF m 26 #[.val (.int p1), .val (.int p2), .val (.int p3), .val (.int p4), .val (.int (0 : Int32)), .val .null, .unset, .unset, .unset, .unset, .unset, .unset, .unset, .unset, .unset] [])) _
    refine XS.iconst X1.here hx rfl (hb hby at_26) ?_
    refine XS.istore X1.here hx rfl (hb hby at_27) rfl (l' := #[.val (.int p1), .val (.int p2), .val (.int p3), .val (.int p4), .val (.int (0 : Int32)), .val .null, .val (.int (0 : Int32)), .unset, .unset, .unset, .unset, .unset, .unset, .unset, .unset]) rfl ?_
    refine XS.iloadN X1.here hx rfl (hb hby at_29) rfl ?_
    refine XS.iconst X1.here hx rfl (hb hby at_30) ?_
    refine XS.iand X1.here hx rfl (hb hby at_31) rfl ?_
    show Steps p.tables e below (T1.setTop (mkF m 32 #[.val (.int p1), .val (.int p2), .val (.int p3), .val (.int p4), .val (.int (0 : Int32)), .val .null, .val (.int (0 : Int32)), .unset, .unset, .unset, .unset, .unset, .unset, .unset, .unset] [(.int (p2 &&& (2 : Int32)))])) _
    refine XS.ifNo X1.here hx rfl (hb hby at_32) rfl ((if0 _ _).trans (feq (hf1_ : ¬ ((p2 &&& (2 : Int32)) = (0 : Int32)))).1) ?_
    refine XS.iconst X1.here hx rfl (hb hby at_35) ?_
    refine XS.goto X1.here hx rfl (pc0 := 36) (pc' := 40) rfl (hb hby at_36) (by decide) (by decide) ?_
    refine XS.istore X1.here hx rfl (hb hby at_40) rfl (l' := #[.val (.int p1), .val (.int p2), .val (.int p3), .val (.int p4), .val (.int (0 : Int32)), .val .null, .val (.int (0 : Int32)), .val (.int (1 : Int32)), .unset, .unset, .unset, .unset, .unset, .unset, .unset]) rfl ?_
    refine XS.iloadN X1.here hx rfl (hb hby at_42) rfl ?_
    show Steps p.tables e below (T1.setTop (mkF m 43 #[.val (.int p1), .val (.int p2), .val (.int p3), .val (.int p4), .val (.int (0 : Int32)), .val .null, .val (.int (0 : Int32)), .val (.int (1 : Int32)), .unset, .unset, .unset, .unset, .unset, .unset, .unset] [(.int p2)])) _
    refine XS.iconst X1.here hx rfl (hb hby at_43) ?_
    refine XS.iand X1.here hx rfl (hb hby at_44) rfl ?_
    refine XS.ifNo X1.here hx rfl (hb hby at_45) rfl ((if0 _ _).trans (feq (hf2_ : ¬ ((p2 &&& (4 : Int32)) = (0 : Int32)))).1) ?_
    refine XS.iconst X1.here hx rfl (hb hby at_48) ?_
    refine XS.goto X1.here hx rfl (pc0 := 49) (pc' := 53) rfl (hb hby at_49) (by decide) (by decide) ?_
    show Steps p.tables e below (T1.setTop (mkF m 53 #[.val (.int p1), .val (.int p2), .val (.int p3), .val (.int p4), .val (.int (0 : Int32)), .val .null, .val (.int (0 : Int32)), .val (.int (1 : Int32)), .unset, .unset, .unset, .unset, .unset, .unset, .unset] [(.int (1 : Int32))])) _
    refine XS.istore X1.here hx rfl (hb hby at_53) rfl (l' := #[.val (.int p1), .val (.int p2), .val (.int p3), .val (.int p4), .val (.int (0 : Int32)), .val .null, .val (.int (0 : Int32)), .val (.int (1 : Int32)), .val (.int (1 : Int32)), .unset, .unset, .unset, .unset, .unset, .unset]) rfl ?_
    refine XS.iconst X1.here hx rfl (hb hby at_55) ?_
    show Steps p.tables e below (T1.setTop (mkF m 56 #[.val (.int p1), .val (.int p2), .val (.int p3), .val (.int p4), .val (.int (0 : Int32)), .val .null, .val (.int (0 : Int32)), .val (.int (1 : Int32)), .val (.int (1 : Int32)), .unset, .unset, .unset, .unset, .unset, .unset] [(.int (2 : Int32))])) _
    refine st2 _ ?_
    show Steps p.tables e below (T2.setTop (mkF m 58 #[.val (.int p1), .val (.int p2), .val (.int p3), .val (.int p4), .val (.int (0 : Int32)), .val .null, .val (.int (0 : Int32)), .val (.int (1 : Int32)), .val (.int (1 : Int32)), .unset, .unset, .unset, .unset, .unset, .unset] [(.ref b2)])) _
    refine XS.astore X2.here hx rfl (hb hby at_58) rfl rfl (l' := #[.val (.int p1), .val (.int p2), .val (.int p3), .val (.int p4), .val (.int (0 : Int32)), .val .null, .val (.int (0 : Int32)), .val (.int (1 : Int32)), .val (.int (1 : Int32)), .val (.ref b2), .unset, .unset, .unset, .unset, .unset]) rfl ?_
    refine XS.aload X2.here hx rfl (hb hby at_60) rfl rfl ?_
    refine XS.iconst X2.here hx rfl (hb hby at_62) ?_
    refine XS.iloadN X2.here hx rfl (hb hby at_63) rfl ?_
    refine XS.sipush X2.here hx rfl (hb hby at_64) ?_
    show Steps p.tables e below (T2.setTop (mkF m 67 #[.val (.int p1), .val (.int p2), .val (.int p3), .val (.int p4), .val (.int (0 : Int32)), .val .null, .val (.int (0 : Int32)), .val (.int (1 : Int32)), .val (.int (1 : Int32)), .val (.ref b2), .unset, .unset, .unset, .unset, .unset] [(.int (255 : Int32)), (.int p3), (.int (0 : Int32)), (.ref b2)])) _
    refine XS.iand X2.here hx rfl (hb hby at_67) rfl ?_
    refine XS.i2c X2.here hx rfl (hb hby at_68) rfl ?_
    show Steps p.tables e below (T2.setTop (mkF m 69 #[.val (.int p1), .val (.int p2), .val (.int p3), .val (.int p4), .val (.int (0 : Int32)), .val .null, .val (.int (0 : Int32)), .val (.int (1 : Int32)), .val (.int (1 : Int32)), .val (.ref b2), .unset, .unset, .unset, .unset, .unset] [(.int ((p3 &&& (255 : Int32)).toUInt32.toUInt16.toUInt32.toInt32)), (.int (0 : Int32)), (.ref b2)])) _
    refine st5 _ ?_
    show Steps p.tables e below (T5.setTop (mkF m 70 #[.val (.int p1), .val (.int p2), .val (.int p3), .val (.int p4), .val (.int (0 : Int32)), .val .null, .val (.int (0 : Int32)), .val (.int (1 : Int32)), .val (.int (1 : Int32)), .val (.ref b2), .unset, .unset, .unset, .unset, .unset] [])) _
    refine XS.aload X5.here hx rfl (hb hby at_70) rfl rfl ?_
    refine XS.iconst X5.here hx rfl (hb hby at_72) ?_
    refine XS.iloadN X5.here hx rfl (hb hby at_73) rfl ?_
    refine XS.sipush X5.here hx rfl (hb hby at_74) ?_
    refine XS.iand X5.here hx rfl (hb hby at_77) rfl ?_
    show Steps p.tables e below (T5.setTop (mkF m 78 #[.val (.int p1), .val (.int p2), .val (.int p3), .val (.int p4), .val (.int (0 : Int32)), .val .null, .val (.int (0 : Int32)), .val (.int (1 : Int32)), .val (.int (1 : Int32)), .val (.ref b2), .unset, .unset, .unset, .unset, .unset] [(.int (p4 &&& (255 : Int32))), (.int (1 : Int32)), (.ref b2)])) _
    refine XS.i2c X5.here hx rfl (hb hby at_78) rfl ?_
    show Steps p.tables e below (T5.setTop (mkF m 79 #[.val (.int p1), .val (.int p2), .val (.int p3), .val (.int p4), .val (.int (0 : Int32)), .val .null, .val (.int (0 : Int32)), .val (.int (1 : Int32)), .val (.int (1 : Int32)), .val (.ref b2), .unset, .unset, .unset, .unset, .unset] [(.int ((p4 &&& (255 : Int32)).toUInt32.toUInt16.toUInt32.toInt32)), (.int (1 : Int32)), (.ref b2)])) _
    refine st9 _ ?_
    show Steps p.tables e below (T9.setTop (mkF m 80 #[.val (.int p1), .val (.int p2), .val (.int p3), .val (.int p4), .val (.int (0 : Int32)), .val .null, .val (.int (0 : Int32)), .val (.int (1 : Int32)), .val (.int (1 : Int32)), .val (.ref b2), .unset, .unset, .unset, .unset, .unset] [])) _
    refine XS.iload X9.here hx rfl (hb hby at_80) rfl ?_
    refine XS.ifNo X9.here hx rfl (hb hby at_82) rfl ((if0 _ _).trans (feq (by decide : ¬ ((1 : Int32) = (0 : Int32)))).1) ?_
    show Steps p.tables e below (T9.setTop (mkF m 85 #[.val (.int p1), .val (.int p2), .val (.int p3), .val (.int p4), .val (.int (0 : Int32)), .val .null, .val (.int (0 : Int32)), .val (.int (1 : Int32)), .val (.int (1 : Int32)), .val (.ref b2), .unset, .unset, .unset, .unset, .unset] [])) _
    refine st12 _ ?_
    show Steps p.tables e below (T12.setTop (mkF m 88 #[.val (.int p1), .val (.int p2), .val (.int p3), .val (.int p4), .val (.int (0 : Int32)), .val .null, .val (.int (0 : Int32)), .val (.int (1 : Int32)), .val (.int (1 : Int32)), .val (.ref b2), .unset, .unset, .unset, .unset, .unset] [(.ref b12)])) _
    refine XS.dup X12.here hx rfl (hb hby at_88) rfl rfl ?_
    refine XS.iconst X12.here hx rfl (hb hby at_89) ?_
    show Steps p.tables e below (T12.setTop (mkF m 90 #[.val (.int p1), .val (.int p2), .val (.int p3), .val (.int p4), .val (.int (0 : Int32)), .val .null, .val (.int (0 : Int32)), .val (.int (1 : Int32)), .val (.int (1 : Int32)), .val (.ref b2), .unset, .unset, .unset, .unset, .unset] [(.int (0 : Int32)), (.ref b12), (.ref b12)])) _
    refine st16 _ ?_
    show Steps p.tables e below (T16.setTop (mkF m 92 #[.val (.int p1), .val (.int p2), .val (.int p3), .val (.int p4), .val (.int (0 : Int32)), .val .null, .val (.int (0 : Int32)), .val (.int (1 : Int32)), .val (.int (1 : Int32)), .val (.ref b2), .unset, .unset, .unset, .unset, .unset] [(.ref b16), (.ref b12), (.ref b12)])) _
    refine st25.trans ?_
    show Steps p.tables e below (T25.setTop (mkF m 95 #[.val (.int p1), .val (.int p2), .val (.int p3), .val (.int p4), .val (.int (0 : Int32)), .val .null, .val (.int (0 : Int32)), .val (.int (1 : Int32)), .val (.int (1 : Int32)), .val (.ref b2), .unset, .unset, .unset, .unset, .unset] [(.ref b12)])) _
    refine XS.goto X25.here hx rfl (pc0 := 95) (pc' := 107) rfl (hb hby at_95) (by decide) (by decide) ?_
    refine XS.astore X25.here hx rfl (hb hby at_107) rfl rfl (l' := #[.val (.int p1), .val (.int p2), .val (.int p3), .val (.int p4), .val (.int (0 : Int32)), .val .null, .val (.int (0 : Int32)), .val (.int (1 : Int32)), .val (.int (1 : Int32)), .val (.ref b2), .val (.ref b12), .unset, .unset, .unset, .unset]) rfl ?_
    refine XS.iload X25.here hx rfl (hb hby at_109) rfl ?_
    refine XS.ifYes X25.here hx rfl (pc0 := 111) (pc' := 119) rfl (hb hby at_111) rfl ((if0 _ _).trans (teq (by decide : (0 : Int32) = (0 : Int32))).1) (by decide) (by decide) ?_
    refine XS.aconstNull X25.here hx rfl (hb hby at_119) ?_
    show Steps p.tables e below (T25.setTop (mkF m 120 #[.val (.int p1), .val (.int p2), .val (.int p3), .val (.int p4), .val (.int (0 : Int32)), .val .null, .val (.int (0 : Int32)), .val (.int (1 : Int32)), .val (.int (1 : Int32)), .val (.ref b2), .val (.ref b12), .unset, .unset, .unset, .unset] [.null])) _
    refine XS.astore X25.here hx rfl (hb hby at_120) rfl rfl (l' := #[.val (.int p1), .val (.int p2), .val (.int p3), .val (.int p4), .val (.int (0 : Int32)), .val .null, .val (.int (0 : Int32)), .val (.int (1 : Int32)), .val (.int (1 : Int32)), .val (.ref b2), .val (.ref b12), .val .null, .unset, .unset, .unset]) rfl ?_
    refine XS.iload X25.here hx rfl (hb hby at_122) rfl ?_
    refine XS.ifNo X25.here hx rfl (hb hby at_124) rfl ((if0 _ _).trans (feq (by decide : ¬ ((1 : Int32) = (0 : Int32)))).1) ?_
    show Steps p.tables e below (T25.setTop (mkF m 127 #[.val (.int p1), .val (.int p2), .val (.int p3), .val (.int p4), .val (.int (0 : Int32)), .val .null, .val (.int (0 : Int32)), .val (.int (1 : Int32)), .val (.int (1 : Int32)), .val (.ref b2), .val (.ref b12), .val .null, .unset, .unset, .unset] [])) _
    refine st32 _ ?_
    show Steps p.tables e below (T32.setTop (mkF m 130 #[.val (.int p1), .val (.int p2), .val (.int p3), .val (.int p4), .val (.int (0 : Int32)), .val .null, .val (.int (0 : Int32)), .val (.int (1 : Int32)), .val (.int (1 : Int32)), .val (.ref b2), .val (.ref b12), .val .null, .unset, .unset, .unset] [(.ref b32)])) _
    refine XS.dup X32.here hx rfl (hb hby at_130) rfl rfl ?_
    refine XS.aload X32.here hx rfl (hb hby at_131) rfl rfl ?_
    show Steps p.tables e below (T32.setTop (mkF m 133 #[.val (.int p1), .val (.int p2), .val (.int p3), .val (.int p4), .val (.int (0 : Int32)), .val .null, .val (.int (0 : Int32)), .val (.int (1 : Int32)), .val (.int (1 : Int32)), .val (.ref b2), .val (.ref b12), .val .null, .unset, .unset, .unset] [(.ref b2), (.ref b32), (.ref b32)])) _
    refine st40.trans ?_
    show Steps p.tables e below (T40.setTop (mkF m 136 #[.val (.int p1), .val (.int p2), .val (.int p3), .val (.int p4), .val (.int (0 : Int32)), .val .null, .val (.int (0 : Int32)), .val (.int (1 : Int32)), .val (.int (1 : Int32)), .val (.ref b2), .val (.ref b12), .val .null, .unset, .unset, .unset] [(.ref b32)])) _
    refine XS.goto X40.here hx rfl (pc0 := 136) (pc' := 140) rfl (hb hby at_136) (by decide) (by decide) ?_
    refine XS.astore X40.here hx rfl (hb hby at_140) rfl rfl (l' := #[.val (.int p1), .val (.int p2), .val (.int p3), .val (.int p4), .val (.int (0 : Int32)), .val .null, .val (.int (0 : Int32)), .val (.int (1 : Int32)), .val (.int (1 : Int32)), .val (.ref b2), .val (.ref b12), .val .null, .val (.ref b32), .unset, .unset]) rfl ?_
    show Steps p.tables e below (T40.setTop (mkF m 142 #[.val (.int p1), .val (.int p2), .val (.int p3), .val (.int p4), .val (.int (0 : Int32)), .val .null, .val (.int (0 : Int32)), .val (.int (1 : Int32)), .val (.int (1 : Int32)), .val (.ref b2), .val (.ref b12), .val .null, .val (.ref b32), .unset, .unset] [])) _
    refine st49 _ ?_
    show Steps p.tables e below (T49.setTop (mkF m 145 #[.val (.int p1), .val (.int p2), .val (.int p3), .val (.int p4), .val (.int (0 : Int32)), .val .null, .val (.int (0 : Int32)), .val (.int (1 : Int32)), .val (.int (1 : Int32)), .val (.ref b2), .val (.ref b12), .val .null, .val (.ref b32), .unset, .unset] [(.ref b49)])) _
    refine XS.dup X49.here hx rfl (hb hby at_145) rfl rfl ?_
    refine XS.aload X49.here hx rfl (hb hby at_146) rfl rfl ?_
    refine XS.aload X49.here hx rfl (hb hby at_148) rfl rfl ?_
    refine XS.aload X49.here hx rfl (hb hby at_150) rfl rfl ?_
    show Steps p.tables e below (T49.setTop (mkF m 152 #[.val (.int p1), .val (.int p2), .val (.int p3), .val (.int p4), .val (.int (0 : Int32)), .val .null, .val (.int (0 : Int32)), .val (.int (1 : Int32)), .val (.int (1 : Int32)), .val (.ref b2), .val (.ref b12), .val .null, .val (.ref b32), .unset, .unset] [(.ref b32), .null, .null, (.ref b49), (.ref b49)])) _
    refine st59.trans ?_
    show Steps p.tables e below (T59.setTop (mkF m 155 #[.val (.int p1), .val (.int p2), .val (.int p3), .val (.int p4), .val (.int (0 : Int32)), .val .null, .val (.int (0 : Int32)), .val (.int (1 : Int32)), .val (.int (1 : Int32)), .val (.ref b2), .val (.ref b12), .val .null, .val (.ref b32), .unset, .unset] [(.ref b49)])) _
    refine XS.astore X59.here hx rfl (hb hby at_155) rfl rfl (l' := #[.val (.int p1), .val (.int p2), .val (.int p3), .val (.int p4), .val (.int (0 : Int32)), .val .null, .val (.int (0 : Int32)), .val (.int (1 : Int32)), .val (.int (1 : Int32)), .val (.ref b2), .val (.ref b12), .val .null, .val (.ref b32), .val (.ref b49), .unset]) rfl ?_
    refine XS.iload X59.here hx rfl (hb hby at_157) rfl ?_
    refine XS.ifYes X59.here hx rfl (pc0 := 159) (pc' := 171) rfl (hb hby at_159) rfl ((if0 _ _).trans (teq (by decide : (0 : Int32) = (0 : Int32))).1) (by decide) (by decide) ?_
    refine XS.iconst X59.here hx rfl (hb hby at_171) ?_
    refine XS.istore X59.here hx rfl (hb hby at_172) rfl (l' := #[.val (.int p1), .val (.int p2), .val (.int p3), .val (.int p4), .val (.int (0 : Int32)), .val .null, .val (.int (0 : Int32)), .val (.int (1 : Int32)), .val (.int (1 : Int32)), .val (.ref b2), .val (.ref b12), .val .null, .val (.ref b32), .val (.ref b49), .val (.int (0 : Int32))]) rfl ?_
    show Steps p.tables e below (T59.setTop (mkF m 174 #[.val (.int p1), .val (.int p2), .val (.int p3), .val (.int p4), .val (.int (0 : Int32)), .val .null, .val (.int (0 : Int32)), .val (.int (1 : Int32)), .val (.int (1 : Int32)), .val (.ref b2), .val (.ref b12), .val .null, .val (.ref b32), .val (.ref b49), .val (.int (0 : Int32))] [])) _
    refine XS.aload X59.here hx rfl (hb hby at_174) rfl rfl ?_
    show Steps p.tables e below (T59.setTop (mkF m 176 #[.val (.int p1), .val (.int p2), .val (.int p3), .val (.int p4), .val (.int (0 : Int32)), .val .null, .val (.int (0 : Int32)), .val (.int (1 : Int32)), .val (.int (1 : Int32)), .val (.ref b2), .val (.ref b12), .val .null, .val (.ref b32), .val (.ref b49), .val (.int (0 : Int32))] [(.ref b49)])) _
    refine st70.trans ?_
    show Steps p.tables e below (T70.setTop (mkF m 179 #[.val (.int p1), .val (.int p2), .val (.int p3), .val (.int p4), .val (.int (0 : Int32)), .val .null, .val (.int (0 : Int32)), .val (.int (1 : Int32)), .val (.int (1 : Int32)), .val (.ref b2), .val (.ref b12), .val .null, .val (.ref b32), .val (.ref b49), .val (.int (0 : Int32))] [(.int (0 : Int32))])) _
    refine XS.iload X70.here hx rfl (hb hby at_179) rfl ?_
    refine XS.icmpNo X70.here hx rfl (hb hby at_181) rfl (teq (by decide : (0 : Int32) = (0 : Int32))).2 ?_
    refine XS.iconst X70.here hx rfl (hb hby at_184) ?_
    refine XS.goto X70.here hx rfl (pc0 := 185) (pc' := 189) rfl (hb hby at_185) (by decide) (by decide) ?_
    show Steps p.tables e below (T70.setTop (mkF m 189 #[.val (.int p1), .val (.int p2), .val (.int p3), .val (.int p4), .val (.int (0 : Int32)), .val .null, .val (.int (0 : Int32)), .val (.int (1 : Int32)), .val (.int (1 : Int32)), .val (.ref b2), .val (.ref b12), .val .null, .val (.ref b32), .val (.ref b49), .val (.int (0 : Int32))] [(.int (1 : Int32))])) _
    exact retN X70 hx (t := .boolean) Bd.returns (by simp) (hb hby at_189) hr
  · show own_Qk (some (.int (1 : Int32))) [] h0 n0 _ T70.heap _
    rw [e70]
    exact ⟨rfl, N70, K59⟩
  · show CHr Z own_EL s.vm s.heap T70.vm T70.heap
    rw [hh, e70]
    exact R59.trans (CHv.at (s := s) (vm0 := T25.vm) X70 hZ25 hEL C59)
set_option maxRecDepth 65536 in
set_option maxHeartbeats 40000000 in
theorem r_law13 (l : Launch) (Z : State) (a0 : Array Value) (hw : ∀ d ∈ tables_1, d.before a0 Z = true) (ws : List Jvm.Cond) (s_L1 s_L4 s_L3 s_L5 s_L2 : Addr) (cs1 : Int32) (h0 : Heap) (n0 : Nat) (O0 : Old Z n0 h0) (G : own_Ctx Z Z.heap s_L1 s_L4 s_L3 s_L5 s_L2 cs1) (hEL : EW Z a0 own_EL) (wS : ∀ a ∈ Bundle.stringAtoms, a.before a0 Z = true) (p1 p2 p3 p4 : Int32) (kk : Int32) (hk : (p1 &&& (2147483647 : Int32)) % (6 : Int32) = kk) (hk1 : kk = (1 : Int32) ∨ kk = (2 : Int32) ∨ kk = (3 : Int32) ∨ kk = (4 : Int32) ∨ kk = (5 : Int32)) (hf0_ : (p2 &&& (1 : Int32)) = (0 : Int32)) (hf1_ : ¬ ((p2 &&& (2 : Int32)) = (0 : Int32))) (hf2_ : ¬ ((p2 &&& (4 : Int32)) = (0 : Int32))) :
    MetFree l x (head1 (Jvm.Cond.code x code maxLocals ret :: ws) room_1) (fun a U => a = #[(.int p1), (.int p2), (.int p3), (.int p4)] ∧ Z.Warmed39 U.vm ∧ U.heap = h0 ∧ CHv Z own_EL U.vm h0) (fun _ _ _ _ _ => True) (fun _ U o U' => ∃ v L, o = .returned v ∧ own_Qk (some (.int (1 : Int32))) [] h0 n0 v U'.heap L ∧ CHr Z own_EL U.vm U.heap U'.vm U'.heap ∧ ReturnedEndW U o U' L 24 1152) := by
  have G0 := G
  obtain ⟨S_L1, E_L1, S_L4, E_L4, S_L3, E_L3, S_L5, E_L5, S_L2, E_L2, S_CS, N_CS⟩ := G
  refine MetFree.of_bodySF (plainFor_of_name pn_0) hisR ?_
  intro p e s m args below meth c s₁ Bd hml0 hP hK
  obtain ⟨rfl, hZ, hh, hC⟩ := hP
  have hx := Bd.exec
  have hby := Bd.bytes
  have hml : c.maxLocals = 15 := hml0
  have hown : s.vm.findClass "com/example/pending_actions/pendingactions/policy/AssessmentIsAutoApprovedPinLaw" = some m.cls := findClass_of_methodNamed Bd.named
  have hnm := (name_of_methodNamed Bd.named Bd.method).1
  have X0 : Stand p l e room_1 (s.setVm s.vm) m #[(.int p1), (.int p2), (.int p3), (.int p4)] below meth c s₁ [] 0 0 := Stand.of_body Bd
  have e0 : s₁.heap = h0 := by rw [← hh, Bd.state]; rfl
  have N0 := Fr.nil n0
  have hS0 : s.Since s.vm h0.size := State.WarmedH.since (State.WarmedH.refl s) _
  have hk0 : h0.size ≤ h0.size := Nat.le_refl _
  have pre0 : ∀ t, Steps p.tables e below (s₁.setTop (mkF m 0 #[.val (.int p1), .val (.int p2), .val (.int p3), .val (.int p4), .unset, .unset, .unset, .unset, .unset, .unset, .unset, .unset, .unset, .unset, .unset] [])) t → Steps p.tables e below (s₁.setTop (entryFrame m #[(.int p1), (.int p2), (.int p3), (.int p4)] maxLocals)) t := fun t k => castTop (ef_0_15 m p1 p2 p3 p4) k
  obtain ⟨_, _, ⟨T1, L1, k1, n1⟩, -, X1, ⟨Lc1, hQ1, l1, y1, z1⟩, st1⟩ := Jvm.LawKit.callS X0 hx (y := (⟨"com/example/pending_actions/pendingactions/policy/AssessmentIsAutoApprovedPinLaw", "pick", "(I)Lcom/example/pending_actions/pendingactions/policy/RiskTier;"⟩ : MethodName)) hown (mvT hZ (hw _ (List.mem_of_getElem? (i := 1) rfl))) (mvT hZ (hw _ (List.mem_of_getElem? (i := 2) rfl))) (mvT hZ (hw _ (List.mem_of_getElem? (i := 3) rfl))) (mvT hZ (hw _ (List.mem_of_getElem? (i := 4) rfl))) (by decide) (backOf (W := 0) (r_tierN l Z a0 hw [] s_L1 s_L4 s_L3 s_L5 s_L2 cs1 h0 n0 O0 G0 kk hk1) hZ (hw _ (List.mem_of_getElem? (i := 4) rfl)) (hw _ (List.mem_of_getElem? (i := 3) rfl)) (by decide) (by decide)) (g := (mkF m 11 #[.val (.int p1), .val (.int p2), .val (.int p3), .val (.int p4), .val (.int kk), .unset, .unset, .unset, .unset, .unset, .unset, .unset, .unset, .unset, .unset] [(.int kk)])) rfl (by rw [hml]; rfl) (argsL := [(.int kk)]) (rest := []) (lenOf pd_4 rfl) rfl (by show 2 * 0 + _ ≤ _; exact Nat.le_of_eq rfl) (hb hby at_11) (fun _ _ => ⟨rfl, e0, (by decide : 0 + 0 ≤ _), (by decide : 0 + 0 ≤ _)⟩)
  dsimp only [Pt.U, Pt.locs, Pt.cells, Pt.slots] at X1 l1 y1 z1 st1 hQ1
  subst l1 y1 z1
  obtain ⟨ta1, rfl, N1q, e1⟩ := hQ1
  have N1 := Fr.app N0 N1q
  obtain ⟨T2, h2, k2, X2, e2, E2, A2, st2⟩ := newP X1 hx hZ (hw _ (List.mem_of_getElem? (i := 5) rfl)) e1 (g := (mkF m 56 #[.val (.int p1), .val (.int p2), .val (.int p3), .val (.int p4), .val (.int kk), .val (.ref ta1), .val (.int (0 : Int32)), .val (.int (1 : Int32)), .val (.int (1 : Int32)), .unset, .unset, .unset, .unset, .unset, .unset] [(.int (2 : Int32))])) rfl (hb hby at_56) rfl (by decide) (cap := 2) (by decide) (by decide) (by decide) (by decide)
  obtain ⟨b2, g2⟩ : ∃ z, z = h0.size := ⟨_, rfl⟩
  have ne_s_L1_b2 : s_L1 ≠ b2 := Nat.ne_of_lt (Nat.lt_of_lt_of_le (E_L1.ext O0.2).lt (Nat.le_of_eq g2.symm))
  have ne_s_L4_b2 : s_L4 ≠ b2 := Nat.ne_of_lt (Nat.lt_of_lt_of_le (E_L4.ext O0.2).lt (Nat.le_of_eq g2.symm))
  have ne_s_L3_b2 : s_L3 ≠ b2 := Nat.ne_of_lt (Nat.lt_of_lt_of_le (E_L3.ext O0.2).lt (Nat.le_of_eq g2.symm))
  have ne_s_L5_b2 : s_L5 ≠ b2 := Nat.ne_of_lt (Nat.lt_of_lt_of_le (E_L5.ext O0.2).lt (Nat.le_of_eq g2.symm))
  have ne_s_L2_b2 : s_L2 ≠ b2 := Nat.ne_of_lt (Nat.lt_of_lt_of_le (E_L2.ext O0.2).lt (Nat.le_of_eq g2.symm))
  have g_b2 : n0 ≤ b2 := Nat.le_trans (O0.1 ▸ O0.2.1) (Nat.le_of_eq g2.symm)
  have sz_b2 : h0.size ≤ b2 := Nat.le_trans (Keep.refl h0 []).1 (Nat.le_of_eq g2.symm)
  have sn2 : Safe Z own_EL s.vm h0 b2 := Safe.new (Nat.le_of_eq g2.symm)
  rw [← g2] at A2 st2
  have O2 := O0.ext E2
  have K2 : Keep h0 h2 [] := (Keep.refl h0 []).ext E2
  have sf3 := Safe.ext E2 hC sn2
  have C2 : CHv Z own_EL s.vm h2 := hC.ext E2
  have R2 : CHr Z own_EL s.vm h0 s.vm h2 := (CHr.refl hC).trans (CHr.ext E2 hC)
  have hk2 := Nat.le_trans hk0 E2.1
  have V2 : Arv Z h2 b2 k2 .char (2 : Int32) [(.int (0 : Int32)), (.int (0 : Int32))] (.int (0 : Int32)) := (Arv.new A2 (by decide)).pad (pad_rep [] (.int (0 : Int32)) 2)
  have vc4 := V2
  obtain ⟨cl4, Ar4, qk4, S4, Nn4, Hs4, Gf4⟩ := vc4
  have hin4 : ¬ ((0 : Int32) < 0 ∨ cl4.slots.size ≤ ((0 : Int32)).toNatClampNeg) := inb_of S4 ⟨by decide, by decide⟩
  obtain ⟨T5, h5, X5, e5, W5, st5⟩ := stC X2 hx hZ e2 Ar4 (j := (0 : Int32)) hin4 (g := (mkF m 69 #[.val (.int p1), .val (.int p2), .val (.int p3), .val (.int p4), .val (.int kk), .val (.ref ta1), .val (.int (0 : Int32)), .val (.int (1 : Int32)), .val (.int (1 : Int32)), .val (.ref b2), .unset, .unset, .unset, .unset, .unset] [(.int ((p3 &&& (255 : Int32)).toUInt32.toUInt16.toUInt32.toInt32)), (.int (0 : Int32)), (.ref b2)])) rfl rfl (hb hby at_69)
  have O5 := O2.wr W5 g_b2
  have K5 : Keep h0 h5 [] := K2.wr W5 (Or.inr sz_b2)
  have N5 := Fr.snoc X5 N1 g_b2
  have sf6 := Safe.wr W5 sf3 C2 sf3
  have C5 : CHv Z own_EL s.vm h5 := C2.wr W5 sf3
  have R5 : CHr Z own_EL s.vm h0 s.vm h5 := R2.trans (CHr.wr W5 sf3 C2)
  have hk5 := Nat.le_trans hk2 (Keep.of_wr W5).1
  have f7 : Arv Z h5 b2 k2 .char (2 : Int32) [(.int (nar .char ((p3 &&& (255 : Int32)).toUInt32.toUInt16.toUInt32.toInt32))), (.int (0 : Int32))] (.int (0 : Int32)) := Arv.set Ar4 qk4 S4 Nn4 Hs4 Gf4 (fits_nar_char _) W5 0 rfl (Nat.le_of_ble_eq_true rfl)
  have vc8 := f7
  obtain ⟨cl8, Ar8, qk8, S8, Nn8, Hs8, Gf8⟩ := vc8
  have hin8 : ¬ ((1 : Int32) < 0 ∨ cl8.slots.size ≤ ((1 : Int32)).toNatClampNeg) := inb_of S8 ⟨by decide, by decide⟩
  obtain ⟨T9, h9, X9, e9, W9, st9⟩ := stC X5 hx hZ e5 Ar8 (j := (1 : Int32)) hin8 (g := (mkF m 79 #[.val (.int p1), .val (.int p2), .val (.int p3), .val (.int p4), .val (.int kk), .val (.ref ta1), .val (.int (0 : Int32)), .val (.int (1 : Int32)), .val (.int (1 : Int32)), .val (.ref b2), .unset, .unset, .unset, .unset, .unset] [(.int ((p4 &&& (255 : Int32)).toUInt32.toUInt16.toUInt32.toInt32)), (.int (1 : Int32)), (.ref b2)])) rfl rfl (hb hby at_79)
  have O9 := O5.wr W9 g_b2
  have K9 : Keep h0 h9 [] := K5.wr W9 (Or.inr sz_b2)
  have N9 := Fr.snoc X9 N5 g_b2
  have sf10 := Safe.wr W9 sf6 C5 sf6
  have C9 : CHv Z own_EL s.vm h9 := C5.wr W9 sf6
  have R9 : CHr Z own_EL s.vm h0 s.vm h9 := R5.trans (CHr.wr W9 sf6 C5)
  have hk9 := Nat.le_trans hk5 (Keep.of_wr W9).1
  have f11 : Arv Z h9 b2 k2 .char (2 : Int32) [(.int (nar .char ((p3 &&& (255 : Int32)).toUInt32.toUInt16.toUInt32.toInt32))), (.int (nar .char ((p4 &&& (255 : Int32)).toUInt32.toUInt16.toUInt32.toInt32)))] (.int (0 : Int32)) := Arv.set Ar8 qk8 S8 Nn8 Hs8 Gf8 (fits_nar_char _) W9 1 rfl (Nat.le_of_ble_eq_true rfl)
  obtain ⟨T12, h12, X12, e12, E12, A12, D12, -, st12⟩ := newO X9 hx hZ hown (hw _ (List.mem_of_getElem? (i := 6) rfl)) (hw _ (List.mem_of_getElem? (i := 7) rfl)) (hw _ (List.mem_of_getElem? (i := 8) rfl)) e9 (g := (mkF m 85 #[.val (.int p1), .val (.int p2), .val (.int p3), .val (.int p4), .val (.int kk), .val (.ref ta1), .val (.int (0 : Int32)), .val (.int (1 : Int32)), .val (.int (1 : Int32)), .val (.ref b2), .unset, .unset, .unset, .unset, .unset] [])) rfl (hb hby at_85) (by decide) (by decide)
  obtain ⟨b12, g12⟩ : ∃ z, z = h9.size := ⟨_, rfl⟩
  have ne_b2_b12 : b2 ≠ b12 := Nat.ne_of_lt (Nat.lt_of_lt_of_le f11.lt (Nat.le_of_eq g12.symm))
  have ne_s_L1_b12 : s_L1 ≠ b12 := Nat.ne_of_lt (Nat.lt_of_lt_of_le (E_L1.ext O9.2).lt (Nat.le_of_eq g12.symm))
  have ne_s_L4_b12 : s_L4 ≠ b12 := Nat.ne_of_lt (Nat.lt_of_lt_of_le (E_L4.ext O9.2).lt (Nat.le_of_eq g12.symm))
  have ne_s_L3_b12 : s_L3 ≠ b12 := Nat.ne_of_lt (Nat.lt_of_lt_of_le (E_L3.ext O9.2).lt (Nat.le_of_eq g12.symm))
  have ne_s_L5_b12 : s_L5 ≠ b12 := Nat.ne_of_lt (Nat.lt_of_lt_of_le (E_L5.ext O9.2).lt (Nat.le_of_eq g12.symm))
  have ne_s_L2_b12 : s_L2 ≠ b12 := Nat.ne_of_lt (Nat.lt_of_lt_of_le (E_L2.ext O9.2).lt (Nat.le_of_eq g12.symm))
  have g_b12 : n0 ≤ b12 := Nat.le_trans (O9.1 ▸ O9.2.1) (Nat.le_of_eq g12.symm)
  have sz_b12 : h0.size ≤ b12 := Nat.le_trans K9.1 (Nat.le_of_eq g12.symm)
  have sn12 : Safe Z own_EL s.vm h9 b12 := Safe.new (Nat.le_of_eq g12.symm)
  rw [← g12] at A12 D12 st12
  have f13 := f11.ext E12
  have O12 := O9.ext E12
  have K12 : Keep h0 h12 [] := K9.ext E12
  have sf14 := Safe.ext E12 C9 sf10
  have sf15 := Safe.ext E12 C9 sn12
  have C12 : CHv Z own_EL s.vm h12 := C9.ext E12
  have R12 : CHr Z own_EL s.vm h0 s.vm h12 := R9.trans (CHr.ext E12 C9)
  have hk12 := Nat.le_trans hk9 E12.1
  have F12_21 : Fld Z h12 b12 "java/lang/String" "value" "[B" .null := D12 (Or.inr (hw _ (List.mem_of_getElem? (i := 21) rfl))) (ty := (.array .byte)) (by decide)
  have F12_22 : Fld Z h12 b12 "java/lang/String" "coder" "B" (.int (0 : Int32)) := D12 (Or.inr (hw _ (List.mem_of_getElem? (i := 22) rfl))) (ty := .byte) (by decide)
  obtain ⟨T16, h16, k16, X16, e16, E16, A16, st16⟩ := newP X12 hx hZ (hw _ (List.mem_of_getElem? (i := 5) rfl)) e12 (g := (mkF m 90 #[.val (.int p1), .val (.int p2), .val (.int p3), .val (.int p4), .val (.int kk), .val (.ref ta1), .val (.int (0 : Int32)), .val (.int (1 : Int32)), .val (.int (1 : Int32)), .val (.ref b2), .unset, .unset, .unset, .unset, .unset] [(.int (0 : Int32)), (.ref b12), (.ref b12)])) rfl (hb hby at_90) rfl (by decide) (cap := 0) (by decide) (by decide) (by decide) (by decide)
  obtain ⟨b16, g16⟩ : ∃ z, z = h12.size := ⟨_, rfl⟩
  have ne_b2_b16 : b2 ≠ b16 := Nat.ne_of_lt (Nat.lt_of_lt_of_le f13.lt (Nat.le_of_eq g16.symm))
  have ne_b12_b16 : b12 ≠ b16 := Nat.ne_of_lt (Nat.lt_of_lt_of_le A12.lt (Nat.le_of_eq g16.symm))
  have ne_s_L1_b16 : s_L1 ≠ b16 := Nat.ne_of_lt (Nat.lt_of_lt_of_le (E_L1.ext O12.2).lt (Nat.le_of_eq g16.symm))
  have ne_s_L4_b16 : s_L4 ≠ b16 := Nat.ne_of_lt (Nat.lt_of_lt_of_le (E_L4.ext O12.2).lt (Nat.le_of_eq g16.symm))
  have ne_s_L3_b16 : s_L3 ≠ b16 := Nat.ne_of_lt (Nat.lt_of_lt_of_le (E_L3.ext O12.2).lt (Nat.le_of_eq g16.symm))
  have ne_s_L5_b16 : s_L5 ≠ b16 := Nat.ne_of_lt (Nat.lt_of_lt_of_le (E_L5.ext O12.2).lt (Nat.le_of_eq g16.symm))
  have ne_s_L2_b16 : s_L2 ≠ b16 := Nat.ne_of_lt (Nat.lt_of_lt_of_le (E_L2.ext O12.2).lt (Nat.le_of_eq g16.symm))
  have g_b16 : n0 ≤ b16 := Nat.le_trans (O12.1 ▸ O12.2.1) (Nat.le_of_eq g16.symm)
  have sz_b16 : h0.size ≤ b16 := Nat.le_trans K12.1 (Nat.le_of_eq g16.symm)
  have sn16 : Safe Z own_EL s.vm h12 b16 := Safe.new (Nat.le_of_eq g16.symm)
  rw [← g16] at A16 st16
  have f17 := f13.ext E16
  have f18 := A12.ext E16
  have f19 := F12_21.ext E16
  have f20 := F12_22.ext E16
  have O16 := O12.ext E16
  have K16 : Keep h0 h16 [] := K12.ext E16
  have sf21 := Safe.ext E16 C12 sf14
  have sf22 := Safe.ext E16 C12 sf15
  have sf23 := Safe.ext E16 C12 sn16
  have C16 : CHv Z own_EL s.vm h16 := C12.ext E16
  have R16 : CHr Z own_EL s.vm h0 s.vm h16 := R12.trans (CHr.ext E16 C12)
  have hk16 := Nat.le_trans hk12 E16.1
  have V16 : Arv Z h16 b16 k16 .char (0 : Int32) [] (.int (0 : Int32)) := Arv.new A16 (by decide)
  obtain ⟨LL24, X24, N24⟩ : ∃ LL, Stand p l e room_1 (s.setVm s.vm) m #[(.int p1), (.int p2), (.int p3), (.int p4)] below meth c T16 LL 3 6 ∧ Fr n0 LL := ⟨_, X16, N9⟩
  obtain ⟨_, _, ⟨T25, L25, k25, n25⟩, -, X25, S25a, z25a, ⟨Lc25, hQ25, l25, y25, z25, R25q⟩, st25⟩ := X24.specialBackS hx (y := (⟨"java/lang/String", "<init>", "([C)V"⟩ : MethodName)) rfl hown (mvT hZ (hw _ (List.mem_of_getElem? (i := 9) rfl))) (mvT hZ (hw _ (List.mem_of_getElem? (i := 10) rfl))) (mvT hZ (hw _ (List.mem_of_getElem? (i := 11) rfl))) (by decide) (backOfSH (s := s) (vm0 := s.vm) (EL := own_EL) (W := 1) (r_s0 l Z a0 hw [] s_L1 s_L4 s_L3 s_L5 s_L2 cs1 h16 n0 O16 G0 hEL wS b12 b16 k16 f18 g_b12 f20 f19 V16 (Ne.symm ne_b12_b16)) hZ (hw _ (List.mem_of_getElem? (i := 11) rfl)) (hw _ (List.mem_of_getElem? (i := 8) rfl)) (by decide) (by decide) hEL C16) (g := (mkF m 92 #[.val (.int p1), .val (.int p2), .val (.int p3), .val (.int p4), .val (.int kk), .val (.ref ta1), .val (.int (0 : Int32)), .val (.int (1 : Int32)), .val (.int (1 : Int32)), .val (.ref b2), .unset, .unset, .unset, .unset, .unset] [(.ref b16), (.ref b12), (.ref b12)])) rfl (by rw [hml]; rfl) (Steps.refl _) (a := b12) (argsL := [(.ref b16)]) (rest := [(.ref b12)]) (lenOf pd_5 rfl) rfl (by show 2 * 0 + _ ≤ _; exact Nat.le_of_eq rfl) (hb hby at_92) (fun _ _ => ⟨rfl, e16, (by decide : 3 + 2 ≤ _), (by decide : 6 + 4 ≤ _)⟩)
  dsimp only [Pt.U, Pt.locs, Pt.cells, Pt.slots] at X25 S25a z25a l25 y25 z25 st25 hQ25 R25q
  subst l25 y25 z25
  have X25 : Stand p l e room_1 (s.setVm T25.vm) m #[(.int p1), (.int p2), (.int p3), (.int p4)] below meth c T25 _ _ _ := X25
  have S25f : s.Since T25.vm T25.heap.size := foldS (T := T16) hS0 (by rw [e16]; exact hk16) S25a z25a
  have hZ25 : Z.Warmed39 T25.vm := State.Warmed39.trans (t := s.setVm s.vm) hZ S25a.1
  have hown25 : (s.setVm T25.vm).vm.findClass "com/example/pending_actions/pendingactions/policy/AssessmentIsAutoApprovedPinLaw" = some m.cls := by rw [show (s.setVm T25.vm).vm = T25.vm from rfl, S25a.1.alike.findClass]; exact hown
  obtain ⟨rfl, N25q, Kq25⟩ := hQ25
  have N25 := Fr.app N24 N25q
  have f26 := f17.keep Kq25 (fun q => (List.mem_cons.mp q).elim ne_b2_b12 (fun q => nomatch q))
  have f27 := f18.keep Kq25
  have f28 := V16.keep Kq25 (fun q => (List.mem_cons.mp q).elim (Ne.symm ne_b12_b16) (fun q => nomatch q))
  have O25 := O16.keep Kq25 (allS g_b12 all0)
  have K25 : Keep h0 T25.heap [] := K16.trans Kq25 (allS (Or.inr sz_b12) all0)
  have sf29 := R25q.safe f17.lt sf21
  have sf30 := R25q.safe f18.lt sf22
  have sf31 := R25q.safe V16.lt sf23
  have R25 : CHr Z own_EL s.vm h0 T25.vm T25.heap := R16.trans R25q
  have C25 := R25q.1
  obtain ⟨T32, h32, X32, e32, E32, A32, D32, -, st32⟩ := newO X25 hx hZ25 hown25 (hw _ (List.mem_of_getElem? (i := 6) rfl)) (hw _ (List.mem_of_getElem? (i := 7) rfl)) (hw _ (List.mem_of_getElem? (i := 8) rfl)) rfl (g := (mkF m 127 #[.val (.int p1), .val (.int p2), .val (.int p3), .val (.int p4), .val (.int kk), .val (.ref ta1), .val (.int (0 : Int32)), .val (.int (1 : Int32)), .val (.int (1 : Int32)), .val (.ref b2), .val (.ref b12), .val .null, .unset, .unset, .unset] [])) rfl (hb hby at_127) (by decide) (by decide)
  obtain ⟨b32, g32⟩ : ∃ z, z = T25.heap.size := ⟨_, rfl⟩
  have ne_b2_b32 : b2 ≠ b32 := Nat.ne_of_lt (Nat.lt_of_lt_of_le f26.lt (Nat.le_of_eq g32.symm))
  have ne_b12_b32 : b12 ≠ b32 := Nat.ne_of_lt (Nat.lt_of_lt_of_le f27.lt (Nat.le_of_eq g32.symm))
  have ne_b16_b32 : b16 ≠ b32 := Nat.ne_of_lt (Nat.lt_of_lt_of_le f28.lt (Nat.le_of_eq g32.symm))
  have ne_s_L1_b32 : s_L1 ≠ b32 := Nat.ne_of_lt (Nat.lt_of_lt_of_le (E_L1.ext O25.2).lt (Nat.le_of_eq g32.symm))
  have ne_s_L4_b32 : s_L4 ≠ b32 := Nat.ne_of_lt (Nat.lt_of_lt_of_le (E_L4.ext O25.2).lt (Nat.le_of_eq g32.symm))
  have ne_s_L3_b32 : s_L3 ≠ b32 := Nat.ne_of_lt (Nat.lt_of_lt_of_le (E_L3.ext O25.2).lt (Nat.le_of_eq g32.symm))
  have ne_s_L5_b32 : s_L5 ≠ b32 := Nat.ne_of_lt (Nat.lt_of_lt_of_le (E_L5.ext O25.2).lt (Nat.le_of_eq g32.symm))
  have ne_s_L2_b32 : s_L2 ≠ b32 := Nat.ne_of_lt (Nat.lt_of_lt_of_le (E_L2.ext O25.2).lt (Nat.le_of_eq g32.symm))
  have g_b32 : n0 ≤ b32 := Nat.le_trans (O25.1 ▸ O25.2.1) (Nat.le_of_eq g32.symm)
  have sz_b32 : h0.size ≤ b32 := Nat.le_trans K25.1 (Nat.le_of_eq g32.symm)
  have sn32 : Safe Z own_EL T25.vm T25.heap b32 := Safe.new (Nat.le_of_eq g32.symm)
  rw [← g32] at A32 D32 st32
  have f33 := f26.ext E32
  have f34 := f27.ext E32
  have f35 := f28.ext E32
  have O32 := O25.ext E32
  have K32 : Keep h0 h32 [] := K25.ext E32
  have sf36 := Safe.ext E32 C25 sf29
  have sf37 := Safe.ext E32 C25 sf30
  have sf38 := Safe.ext E32 C25 sf31
  have sf39 := Safe.ext E32 C25 sn32
  have C32 : CHv Z own_EL T25.vm h32 := C25.ext E32
  have R32 : CHr Z own_EL s.vm h0 T25.vm h32 := R25.trans (CHr.ext E32 C25)
  have hk32 := Nat.le_trans (Nat.le_refl _) E32.1
  have F32_21 : Fld Z h32 b32 "java/lang/String" "value" "[B" .null := D32 (Or.inr (hw _ (List.mem_of_getElem? (i := 21) rfl))) (ty := (.array .byte)) (by decide)
  have F32_22 : Fld Z h32 b32 "java/lang/String" "coder" "B" (.int (0 : Int32)) := D32 (Or.inr (hw _ (List.mem_of_getElem? (i := 22) rfl))) (ty := .byte) (by decide)
  obtain ⟨_, _, ⟨T40, L40, k40, n40⟩, -, X40, ⟨Lc40, hQ40, l40, y40, z40⟩, st40⟩ := X32.specialBack hx (y := (⟨"java/lang/String", "<init>", "([C)V"⟩ : MethodName)) rfl hown25 (mvT hZ25 (hw _ (List.mem_of_getElem? (i := 9) rfl))) (mvT hZ25 (hw _ (List.mem_of_getElem? (i := 10) rfl))) (mvT hZ25 (hw _ (List.mem_of_getElem? (i := 11) rfl))) (by decide) (backOf (W := 1) (r_s2 l Z a0 hw [] s_L1 s_L4 s_L3 s_L5 s_L2 cs1 h32 n0 O32 G0 b32 b2 k2 (nar .char ((p3 &&& (255 : Int32)).toUInt32.toUInt16.toUInt32.toInt32)) (nar .char ((p4 &&& (255 : Int32)).toUInt32.toUInt16.toUInt32.toInt32)) A32 g_b32 F32_22 F32_21 f33 (own_ch _) (own_ch _) ne_b2_b32) hZ25 (hw _ (List.mem_of_getElem? (i := 11) rfl)) (hw _ (List.mem_of_getElem? (i := 8) rfl)) (by decide) (by decide)) (g := (mkF m 133 #[.val (.int p1), .val (.int p2), .val (.int p3), .val (.int p4), .val (.int kk), .val (.ref ta1), .val (.int (0 : Int32)), .val (.int (1 : Int32)), .val (.int (1 : Int32)), .val (.ref b2), .val (.ref b12), .val .null, .unset, .unset, .unset] [(.ref b2), (.ref b32), (.ref b32)])) rfl (by rw [hml]; rfl) (Steps.refl _) (a := b32) (argsL := [(.ref b2)]) (rest := [(.ref b32)]) (lenOf pd_5 rfl) rfl (by show 2 * 0 + _ ≤ _; exact Nat.le_of_eq rfl) (hb hby at_133) (fun _ _ => ⟨rfl, e32, (by decide : 6 + 1 ≤ _), (by decide : 14 + 2 ≤ _)⟩)
  dsimp only [Pt.U, Pt.locs, Pt.cells, Pt.slots] at X40 l40 y40 z40 st40 hQ40
  subst l40 y40 z40
  obtain ⟨rfl, N40q, Kq40⟩ := hQ40
  have N40 := Fr.app N25 N40q
  have f41 := f33.keep Kq40 (fun q => (List.mem_cons.mp q).elim ne_b2_b32 (fun q => nomatch q))
  have f42 := f34.keep Kq40
  have f43 := f35.keep Kq40 (fun q => (List.mem_cons.mp q).elim ne_b16_b32 (fun q => nomatch q))
  have f44 := A32.keep Kq40
  have O40 := O32.keep Kq40 (allS g_b32 all0)
  have K40 : Keep h0 T40.heap [] := K32.trans Kq40 (allS (Or.inr sz_b32) all0)
  have sf45 := Safe.keep Kq40 (sfS sf39 sf0) C32 sf36
  have sf46 := Safe.keep Kq40 (sfS sf39 sf0) C32 sf37
  have sf47 := Safe.keep Kq40 (sfS sf39 sf0) C32 sf38
  have sf48 := Safe.keep Kq40 (sfS sf39 sf0) C32 sf39
  have C40 : CHv Z own_EL T25.vm T40.heap := C32.keep Kq40 (sfS sf39 sf0)
  have R40 : CHr Z own_EL s.vm h0 T25.vm T40.heap := R32.trans (CHr.keep Kq40 (sfS sf39 sf0) C32)
  have hk40 := Nat.le_trans hk32 Kq40.1
  obtain ⟨T49, h49, X49, e49, E49, A49, D49, -, st49⟩ := newO X40 hx hZ25 hown25 (hw _ (List.mem_of_getElem? (i := 27) rfl)) (hw _ (List.mem_of_getElem? (i := 28) rfl)) (hw _ (List.mem_of_getElem? (i := 29) rfl)) rfl (g := (mkF m 142 #[.val (.int p1), .val (.int p2), .val (.int p3), .val (.int p4), .val (.int kk), .val (.ref ta1), .val (.int (0 : Int32)), .val (.int (1 : Int32)), .val (.int (1 : Int32)), .val (.ref b2), .val (.ref b12), .val .null, .val (.ref b32), .unset, .unset] [])) rfl (hb hby at_142) (by decide) (by decide)
  obtain ⟨b49, g49⟩ : ∃ z, z = T40.heap.size := ⟨_, rfl⟩
  have ne_b2_b49 : b2 ≠ b49 := Nat.ne_of_lt (Nat.lt_of_lt_of_le f41.lt (Nat.le_of_eq g49.symm))
  have ne_b12_b49 : b12 ≠ b49 := Nat.ne_of_lt (Nat.lt_of_lt_of_le f42.lt (Nat.le_of_eq g49.symm))
  have ne_b16_b49 : b16 ≠ b49 := Nat.ne_of_lt (Nat.lt_of_lt_of_le f43.lt (Nat.le_of_eq g49.symm))
  have ne_b32_b49 : b32 ≠ b49 := Nat.ne_of_lt (Nat.lt_of_lt_of_le f44.lt (Nat.le_of_eq g49.symm))
  have ne_s_L1_b49 : s_L1 ≠ b49 := Nat.ne_of_lt (Nat.lt_of_lt_of_le (E_L1.ext O40.2).lt (Nat.le_of_eq g49.symm))
  have ne_s_L4_b49 : s_L4 ≠ b49 := Nat.ne_of_lt (Nat.lt_of_lt_of_le (E_L4.ext O40.2).lt (Nat.le_of_eq g49.symm))
  have ne_s_L3_b49 : s_L3 ≠ b49 := Nat.ne_of_lt (Nat.lt_of_lt_of_le (E_L3.ext O40.2).lt (Nat.le_of_eq g49.symm))
  have ne_s_L5_b49 : s_L5 ≠ b49 := Nat.ne_of_lt (Nat.lt_of_lt_of_le (E_L5.ext O40.2).lt (Nat.le_of_eq g49.symm))
  have ne_s_L2_b49 : s_L2 ≠ b49 := Nat.ne_of_lt (Nat.lt_of_lt_of_le (E_L2.ext O40.2).lt (Nat.le_of_eq g49.symm))
  have g_b49 : n0 ≤ b49 := Nat.le_trans (O40.1 ▸ O40.2.1) (Nat.le_of_eq g49.symm)
  have sz_b49 : h0.size ≤ b49 := Nat.le_trans K40.1 (Nat.le_of_eq g49.symm)
  have sn49 : Safe Z own_EL T25.vm T40.heap b49 := Safe.new (Nat.le_of_eq g49.symm)
  rw [← g49] at A49 D49 st49
  have f50 := f41.ext E49
  have f51 := f42.ext E49
  have f52 := f43.ext E49
  have f53 := f44.ext E49
  have O49 := O40.ext E49
  have K49 : Keep h0 h49 [] := K40.ext E49
  have sf54 := Safe.ext E49 C40 sf45
  have sf55 := Safe.ext E49 C40 sf46
  have sf56 := Safe.ext E49 C40 sf47
  have sf57 := Safe.ext E49 C40 sf48
  have sf58 := Safe.ext E49 C40 sn49
  have C49 : CHv Z own_EL T25.vm h49 := C40.ext E49
  have R49 : CHr Z own_EL s.vm h0 T25.vm h49 := R40.trans (CHr.ext E49 C40)
  have hk49 := Nat.le_trans hk40 E49.1
  have F49_35 : Fld Z h49 b49 "com/example/pending_actions/pendingactions/policy/Assessment" "tier" "Lcom/example/pending_actions/pendingactions/policy/RiskTier;" .null := D49 (Or.inr (hw _ (List.mem_of_getElem? (i := 35) rfl))) (ty := (.object "com/example/pending_actions/pendingactions/policy/RiskTier")) (by decide)
  have F49_37 : Fld Z h49 b49 "com/example/pending_actions/pendingactions/policy/Assessment" "decider" "Ljava/lang/String;" .null := D49 (Or.inr (hw _ (List.mem_of_getElem? (i := 37) rfl))) (ty := (.object "java/lang/String")) (by decide)
  have F49_39 : Fld Z h49 b49 "com/example/pending_actions/pendingactions/policy/Assessment" "policyVersion" "Ljava/lang/String;" .null := D49 (Or.inr (hw _ (List.mem_of_getElem? (i := 39) rfl))) (ty := (.object "java/lang/String")) (by decide)
  obtain ⟨_, _, ⟨T59, L59, k59, n59⟩, -, X59, ⟨Lc59, hQ59, l59, y59, z59⟩, st59⟩ := X49.specialBack hx (y := (⟨"com/example/pending_actions/pendingactions/policy/Assessment", "<init>", "(Lcom/example/pending_actions/pendingactions/policy/RiskTier;Ljava/lang/String;Ljava/lang/String;)V"⟩ : MethodName)) rfl hown25 (mvT hZ25 (hw _ (List.mem_of_getElem? (i := 30) rfl))) (mvT hZ25 (hw _ (List.mem_of_getElem? (i := 31) rfl))) (mvT hZ25 (hw _ (List.mem_of_getElem? (i := 32) rfl))) (by decide) (backOf (W := 1) (r_ai5 l Z a0 hw [] s_L1 s_L4 s_L3 s_L5 s_L2 cs1 h49 n0 O49 G0 b49 ta1 b32 A49 g_b49 F49_35 F49_37 F49_39) hZ25 (hw _ (List.mem_of_getElem? (i := 32) rfl)) (hw _ (List.mem_of_getElem? (i := 29) rfl)) (by decide) (by decide)) (g := (mkF m 152 #[.val (.int p1), .val (.int p2), .val (.int p3), .val (.int p4), .val (.int kk), .val (.ref ta1), .val (.int (0 : Int32)), .val (.int (1 : Int32)), .val (.int (1 : Int32)), .val (.ref b2), .val (.ref b12), .val .null, .val (.ref b32), .unset, .unset] [(.ref b32), .null, (.ref ta1), (.ref b49), (.ref b49)])) rfl (by rw [hml]; rfl) (Steps.refl _) (a := b49) (argsL := [(.ref ta1), .null, (.ref b32)]) (rest := [(.ref b49)]) (lenOf pd_6 rfl) rfl (by show 2 * 0 + _ ≤ _; exact Nat.le_of_eq rfl) (hb hby at_152) (fun _ _ => ⟨rfl, e49, (by decide : 8 + 0 ≤ _), (by decide : 19 + 0 ≤ _)⟩)
  dsimp only [Pt.U, Pt.locs, Pt.cells, Pt.slots] at X59 l59 y59 z59 st59 hQ59
  subst l59 y59 z59
  obtain ⟨rfl, N59q, Kq59, Ft59, Fd59⟩ := hQ59
  have N59 := Fr.app N40 N59q
  have f60 := f50.keep Kq59 (fun q => (List.mem_cons.mp q).elim ne_b2_b49 (fun q => nomatch q))
  have f61 := f51.keep Kq59
  have f62 := f52.keep Kq59 (fun q => (List.mem_cons.mp q).elim ne_b16_b49 (fun q => nomatch q))
  have f63 := f53.keep Kq59
  have f64 := A49.keep Kq59
  have O59 := O49.keep Kq59 (allS g_b49 all0)
  have K59 : Keep h0 T59.heap [] := K49.trans Kq59 (allS (Or.inr sz_b49) all0)
  have sf65 := Safe.keep Kq59 (sfS sf58 sf0) C49 sf54
  have sf66 := Safe.keep Kq59 (sfS sf58 sf0) C49 sf55
  have sf67 := Safe.keep Kq59 (sfS sf58 sf0) C49 sf56
  have sf68 := Safe.keep Kq59 (sfS sf58 sf0) C49 sf57
  have sf69 := Safe.keep Kq59 (sfS sf58 sf0) C49 sf58
  have C59 : CHv Z own_EL T25.vm T59.heap := C49.keep Kq59 (sfS sf58 sf0)
  have R59 : CHr Z own_EL s.vm h0 T25.vm T59.heap := R49.trans (CHr.keep Kq59 (sfS sf58 sf0) C49)
  have hk59 := Nat.le_trans hk49 Kq59.1
  obtain ⟨cq70, kq70, q70a, q70b, q70c⟩ := isOf hZ25 rfl f64
  obtain ⟨_, _, ⟨T70, L70, k70, n70⟩, -, X70, ⟨Lc70, hQ70, l70, y70, z70⟩, st70⟩ := X59.virtualBack hx (y := (⟨"com/example/pending_actions/pendingactions/policy/Assessment", "isAutoApproved", "()Z"⟩ : MethodName)) (z := (⟨"com/example/pending_actions/pendingactions/policy/Assessment", "isAutoApproved", "()Z"⟩ : MethodName)) hown25 (mvT hZ25 (hw _ (List.mem_of_getElem? (i := 40) rfl))) (mvT hZ25 (hw _ (List.mem_of_getElem? (i := 41) rfl))) (notFace_of_selects (args := #[]) (mvT hZ25 (hw _ (List.mem_of_getElem? (i := 43) rfl)))) (mvT hZ25 (hw _ (List.mem_of_getElem? (i := 43) rfl))) (mvT hZ25 (hw _ (List.mem_of_getElem? (i := 42) rfl))) (by decide) (backOf (W := 0) (r_aa1 l Z a0 hw [] s_L1 s_L4 s_L3 s_L5 s_L2 cs1 T59.heap n0 O59 G0 b49 ta1 Ft59 Fd59) hZ25 (hw _ (List.mem_of_getElem? (i := 44) rfl)) (hw _ (List.mem_of_getElem? (i := 29) rfl)) (by decide) (by decide)) q70a q70c (g := (mkF m 176 #[.val (.int p1), .val (.int p2), .val (.int p3), .val (.int p4), .val (.int kk), .val (.ref ta1), .val (.int (0 : Int32)), .val (.int (1 : Int32)), .val (.int (1 : Int32)), .val (.ref b2), .val (.ref b12), .val .null, .val (.ref b32), .val (.ref b49), .val (.int (0 : Int32))] [(.ref b49)])) rfl (by rw [hml]; rfl) (Steps.refl _) (argsL := []) (rest := []) (lenOf pd_7 rfl) rfl (by show 2 * 0 + _ ≤ _; exact Nat.le_of_eq rfl) (hb hby at_176) (fun _ _ => ⟨rfl, rfl, (by decide : 8 + 0 ≤ _), (by decide : 19 + 0 ≤ _)⟩)
  dsimp only [Pt.U, Pt.locs, Pt.cells, Pt.slots] at X70 l70 y70 z70 st70 hQ70
  subst l70 y70 z70
  obtain ⟨rfl, N70q, e70⟩ := hQ70
  have N70 := Fr.app N59 N70q
  obtain ⟨fs, hr, hrun, hended, hRW⟩ := X70.leaveW S25f (by rw [e70]; exact hk59) (v := some (.int (1 : Int32))) (fun h => by rw [Bd.returns] at h; cases h)
  refine ⟨_, _, pre0 _ ?_, hrun, hended, _, _, rfl, ?_, ?_, hRW.1, hRW.2.1, hRW.2.2.1, hRW.2.2.2.mono (by decide) (by decide)⟩
  · show Steps p.tables e below (s₁.setTop (mkF m 0 #[.val (.int p1), .val (.int p2), .val (.int p3), .val (.int p4), .unset, .unset, .unset, .unset, .unset, .unset, .unset, .unset, .unset, .unset, .unset] [])) _
    refine XS.iloadN X0.here hx rfl (hb hby at_0) rfl ?_
    show Steps p.tables e below (s₁.setTop (mkF m 1 #[.val (.int p1), .val (.int p2), .val (.int p3), .val (.int p4), .unset, .unset, .unset, .unset, .unset, .unset, .unset, .unset, .unset, .unset, .unset] [(.int p1)])) _
    refine X0.ldcInt hx hown (mvT hZ (hw _ (List.mem_of_getElem? (i := 0) rfl))) (g := (mkF m 1 #[.val (.int p1), .val (.int p2), .val (.int p3), .val (.int p4), .unset, .unset, .unset, .unset, .unset, .unset, .unset, .unset, .unset, .unset, .unset] [(.int p1)])) rfl (hb hby at_1) _ ?_
    show Steps p.tables e below (s₁.setTop (mkF m 3 #[.val (.int p1), .val (.int p2), .val (.int p3), .val (.int p4), .unset, .unset, .unset, .unset, .unset, .unset, .unset, .unset, .unset, .unset, .unset] [(.int (2147483647 : Int32)), (.int p1)])) _
    refine XS.iand X0.here hx rfl (hb hby at_3) rfl ?_
    refine XS.bipush X0.here hx rfl (hb hby at_4) ?_
    show Steps p.tables e below (s₁.setTop (mkF m 6 #[.val (.int p1), .val (.int p2), .val (.int p3), .val (.int p4), .unset, .unset, .unset, .unset, .unset, .unset, .unset, .unset, .unset, .unset, .unset] [(.int (6 : Int32)), (.int (p1 &&& (2147483647 : Int32)))])) _
    refine iremM X0 hx rfl (hb hby at_6) rfl (by decide) ?_
    show Steps p.tables e below (s₁.setTop (mkF m 7 #[.val (.int p1), .val (.int p2), .val (.int p3), .val (.int p4), .unset, .unset, .unset, .unset, .unset, .unset, .unset, .unset, .unset, .unset, .unset] [(.int ((p1 &&& (2147483647 : Int32)) % (6 : Int32)))])) _
    rw [hk]
    show Steps p.tables e below (s₁.setTop (mkF m 7 #[.val (.int p1), .val (.int p2), .val (.int p3), .val (.int p4), .unset, .unset, .unset, .unset, .unset, .unset, .unset, .unset, .unset, .unset, .unset] [(.int kk)])) _
    refine XS.istore X0.here hx rfl (hb hby at_7) rfl (l' := #[.val (.int p1), .val (.int p2), .val (.int p3), .val (.int p4), .val (.int kk), .unset, .unset, .unset, .unset, .unset, .unset, .unset, .unset, .unset, .unset]) rfl ?_
    refine XS.iload X0.here hx rfl (hb hby at_9) rfl ?_
    show Steps p.tables e below (s₁.setTop (mkF m 11 #[.val (.int p1), .val (.int p2), .val (.int p3), .val (.int p4), .val (.int kk), .unset, .unset, .unset, .unset, .unset, .unset, .unset, .unset, .unset, .unset] [(.int kk)])) _
    refine st1 _ ?_
    show Steps p.tables e below (T1.setTop (mkF m 14 #[.val (.int p1), .val (.int p2), .val (.int p3), .val (.int p4), .val (.int kk), .unset, .unset, .unset, .unset, .unset, .unset, .unset, .unset, .unset, .unset] [(.ref ta1)])) _
    refine XS.astore X1.here hx rfl (hb hby at_14) rfl rfl (l' := #[.val (.int p1), .val (.int p2), .val (.int p3), .val (.int p4), .val (.int kk), .val (.ref ta1), .unset, .unset, .unset, .unset, .unset, .unset, .unset, .unset, .unset]) rfl ?_
    refine XS.iloadN X1.here hx rfl (hb hby at_16) rfl ?_
    refine XS.iconst X1.here hx rfl (hb hby at_17) ?_
    refine XS.iand X1.here hx rfl (hb hby at_18) rfl ?_
    refine XS.ifYes X1.here hx rfl (pc0 := 19) (pc' := 26) rfl (hb hby at_19) rfl ((if0 _ _).trans (teq (hf0_ : (p2 &&& (1 : Int32)) = (0 : Int32))).1) (by decide) (by decide) ?_
    show Steps p.tables e below (T1.setTop (mkF m 26 #[.val (.int p1), .val (.int p2), .val (.int p3), .val (.int p4), .val (.int kk), .val (.ref ta1), .unset, .unset, .unset, .unset, .unset, .unset, .unset, .unset, .unset] [])) _
    refine XS.iconst X1.here hx rfl (hb hby at_26) ?_
    refine XS.istore X1.here hx rfl (hb hby at_27) rfl (l' := #[.val (.int p1), .val (.int p2), .val (.int p3), .val (.int p4), .val (.int kk), .val (.ref ta1), .val (.int (0 : Int32)), .unset, .unset, .unset, .unset, .unset, .unset, .unset, .unset]) rfl ?_
    refine XS.iloadN X1.here hx rfl (hb hby at_29) rfl ?_
    refine XS.iconst X1.here hx rfl (hb hby at_30) ?_
    refine XS.iand X1.here hx rfl (hb hby at_31) rfl ?_
    show Steps p.tables e below (T1.setTop (mkF m 32 #[.val (.int p1), .val (.int p2), .val (.int p3), .val (.int p4), .val (.int kk), .val (.ref ta1), .val (.int (0 : Int32)), .unset, .unset, .unset, .unset, .unset, .unset, .unset, .unset] [(.int (p2 &&& (2 : Int32)))])) _
    refine XS.ifNo X1.here hx rfl (hb hby at_32) rfl ((if0 _ _).trans (feq (hf1_ : ¬ ((p2 &&& (2 : Int32)) = (0 : Int32)))).1) ?_
    refine XS.iconst X1.here hx rfl (hb hby at_35) ?_
    refine XS.goto X1.here hx rfl (pc0 := 36) (pc' := 40) rfl (hb hby at_36) (by decide) (by decide) ?_
    refine XS.istore X1.here hx rfl (hb hby at_40) rfl (l' := #[.val (.int p1), .val (.int p2), .val (.int p3), .val (.int p4), .val (.int kk), .val (.ref ta1), .val (.int (0 : Int32)), .val (.int (1 : Int32)), .unset, .unset, .unset, .unset, .unset, .unset, .unset]) rfl ?_
    refine XS.iloadN X1.here hx rfl (hb hby at_42) rfl ?_
    show Steps p.tables e below (T1.setTop (mkF m 43 #[.val (.int p1), .val (.int p2), .val (.int p3), .val (.int p4), .val (.int kk), .val (.ref ta1), .val (.int (0 : Int32)), .val (.int (1 : Int32)), .unset, .unset, .unset, .unset, .unset, .unset, .unset] [(.int p2)])) _
    refine XS.iconst X1.here hx rfl (hb hby at_43) ?_
    refine XS.iand X1.here hx rfl (hb hby at_44) rfl ?_
    refine XS.ifNo X1.here hx rfl (hb hby at_45) rfl ((if0 _ _).trans (feq (hf2_ : ¬ ((p2 &&& (4 : Int32)) = (0 : Int32)))).1) ?_
    refine XS.iconst X1.here hx rfl (hb hby at_48) ?_
    refine XS.goto X1.here hx rfl (pc0 := 49) (pc' := 53) rfl (hb hby at_49) (by decide) (by decide) ?_
    show Steps p.tables e below (T1.setTop (mkF m 53 #[.val (.int p1), .val (.int p2), .val (.int p3), .val (.int p4), .val (.int kk), .val (.ref ta1), .val (.int (0 : Int32)), .val (.int (1 : Int32)), .unset, .unset, .unset, .unset, .unset, .unset, .unset] [(.int (1 : Int32))])) _
    refine XS.istore X1.here hx rfl (hb hby at_53) rfl (l' := #[.val (.int p1), .val (.int p2), .val (.int p3), .val (.int p4), .val (.int kk), .val (.ref ta1), .val (.int (0 : Int32)), .val (.int (1 : Int32)), .val (.int (1 : Int32)), .unset, .unset, .unset, .unset, .unset, .unset]) rfl ?_
    refine XS.iconst X1.here hx rfl (hb hby at_55) ?_
    show Steps p.tables e below (T1.setTop (mkF m 56 #[.val (.int p1), .val (.int p2), .val (.int p3), .val (.int p4), .val (.int kk), .val (.ref ta1), .val (.int (0 : Int32)), .val (.int (1 : Int32)), .val (.int (1 : Int32)), .unset, .unset, .unset, .unset, .unset, .unset] [(.int (2 : Int32))])) _
    refine st2 _ ?_
    show Steps p.tables e below (T2.setTop (mkF m 58 #[.val (.int p1), .val (.int p2), .val (.int p3), .val (.int p4), .val (.int kk), .val (.ref ta1), .val (.int (0 : Int32)), .val (.int (1 : Int32)), .val (.int (1 : Int32)), .unset, .unset, .unset, .unset, .unset, .unset] [(.ref b2)])) _
    refine XS.astore X2.here hx rfl (hb hby at_58) rfl rfl (l' := #[.val (.int p1), .val (.int p2), .val (.int p3), .val (.int p4), .val (.int kk), .val (.ref ta1), .val (.int (0 : Int32)), .val (.int (1 : Int32)), .val (.int (1 : Int32)), .val (.ref b2), .unset, .unset, .unset, .unset, .unset]) rfl ?_
    refine XS.aload X2.here hx rfl (hb hby at_60) rfl rfl ?_
    refine XS.iconst X2.here hx rfl (hb hby at_62) ?_
    refine XS.iloadN X2.here hx rfl (hb hby at_63) rfl ?_
    refine XS.sipush X2.here hx rfl (hb hby at_64) ?_
    show Steps p.tables e below (T2.setTop (mkF m 67 #[.val (.int p1), .val (.int p2), .val (.int p3), .val (.int p4), .val (.int kk), .val (.ref ta1), .val (.int (0 : Int32)), .val (.int (1 : Int32)), .val (.int (1 : Int32)), .val (.ref b2), .unset, .unset, .unset, .unset, .unset] [(.int (255 : Int32)), (.int p3), (.int (0 : Int32)), (.ref b2)])) _
    refine XS.iand X2.here hx rfl (hb hby at_67) rfl ?_
    refine XS.i2c X2.here hx rfl (hb hby at_68) rfl ?_
    show Steps p.tables e below (T2.setTop (mkF m 69 #[.val (.int p1), .val (.int p2), .val (.int p3), .val (.int p4), .val (.int kk), .val (.ref ta1), .val (.int (0 : Int32)), .val (.int (1 : Int32)), .val (.int (1 : Int32)), .val (.ref b2), .unset, .unset, .unset, .unset, .unset] [(.int ((p3 &&& (255 : Int32)).toUInt32.toUInt16.toUInt32.toInt32)), (.int (0 : Int32)), (.ref b2)])) _
    refine st5 _ ?_
    show Steps p.tables e below (T5.setTop (mkF m 70 #[.val (.int p1), .val (.int p2), .val (.int p3), .val (.int p4), .val (.int kk), .val (.ref ta1), .val (.int (0 : Int32)), .val (.int (1 : Int32)), .val (.int (1 : Int32)), .val (.ref b2), .unset, .unset, .unset, .unset, .unset] [])) _
    refine XS.aload X5.here hx rfl (hb hby at_70) rfl rfl ?_
    refine XS.iconst X5.here hx rfl (hb hby at_72) ?_
    refine XS.iloadN X5.here hx rfl (hb hby at_73) rfl ?_
    refine XS.sipush X5.here hx rfl (hb hby at_74) ?_
    refine XS.iand X5.here hx rfl (hb hby at_77) rfl ?_
    show Steps p.tables e below (T5.setTop (mkF m 78 #[.val (.int p1), .val (.int p2), .val (.int p3), .val (.int p4), .val (.int kk), .val (.ref ta1), .val (.int (0 : Int32)), .val (.int (1 : Int32)), .val (.int (1 : Int32)), .val (.ref b2), .unset, .unset, .unset, .unset, .unset] [(.int (p4 &&& (255 : Int32))), (.int (1 : Int32)), (.ref b2)])) _
    refine XS.i2c X5.here hx rfl (hb hby at_78) rfl ?_
    show Steps p.tables e below (T5.setTop (mkF m 79 #[.val (.int p1), .val (.int p2), .val (.int p3), .val (.int p4), .val (.int kk), .val (.ref ta1), .val (.int (0 : Int32)), .val (.int (1 : Int32)), .val (.int (1 : Int32)), .val (.ref b2), .unset, .unset, .unset, .unset, .unset] [(.int ((p4 &&& (255 : Int32)).toUInt32.toUInt16.toUInt32.toInt32)), (.int (1 : Int32)), (.ref b2)])) _
    refine st9 _ ?_
    show Steps p.tables e below (T9.setTop (mkF m 80 #[.val (.int p1), .val (.int p2), .val (.int p3), .val (.int p4), .val (.int kk), .val (.ref ta1), .val (.int (0 : Int32)), .val (.int (1 : Int32)), .val (.int (1 : Int32)), .val (.ref b2), .unset, .unset, .unset, .unset, .unset] [])) _
    refine XS.iload X9.here hx rfl (hb hby at_80) rfl ?_
    refine XS.ifNo X9.here hx rfl (hb hby at_82) rfl ((if0 _ _).trans (feq (by decide : ¬ ((1 : Int32) = (0 : Int32)))).1) ?_
    show Steps p.tables e below (T9.setTop (mkF m 85 #[.val (.int p1), .val (.int p2), .val (.int p3), .val (.int p4), .val (.int kk), .val (.ref ta1), .val (.int (0 : Int32)), .val (.int (1 : Int32)), .val (.int (1 : Int32)), .val (.ref b2), .unset, .unset, .unset, .unset, .unset] [])) _
    refine st12 _ ?_
    show Steps p.tables e below (T12.setTop (mkF m 88 #[.val (.int p1), .val (.int p2), .val (.int p3), .val (.int p4), .val (.int kk), .val (.ref ta1), .val (.int (0 : Int32)), .val (.int (1 : Int32)), .val (.int (1 : Int32)), .val (.ref b2), .unset, .unset, .unset, .unset, .unset] [(.ref b12)])) _
    refine XS.dup X12.here hx rfl (hb hby at_88) rfl rfl ?_
    refine XS.iconst X12.here hx rfl (hb hby at_89) ?_
    show Steps p.tables e below (T12.setTop (mkF m 90 #[.val (.int p1), .val (.int p2), .val (.int p3), .val (.int p4), .val (.int kk), .val (.ref ta1), .val (.int (0 : Int32)), .val (.int (1 : Int32)), .val (.int (1 : Int32)), .val (.ref b2), .unset, .unset, .unset, .unset, .unset] [(.int (0 : Int32)), (.ref b12), (.ref b12)])) _
    refine st16 _ ?_
    show Steps p.tables e below (T16.setTop (mkF m 92 #[.val (.int p1), .val (.int p2), .val (.int p3), .val (.int p4), .val (.int kk), .val (.ref ta1), .val (.int (0 : Int32)), .val (.int (1 : Int32)), .val (.int (1 : Int32)), .val (.ref b2), .unset, .unset, .unset, .unset, .unset] [(.ref b16), (.ref b12), (.ref b12)])) _
    refine st25.trans ?_
    show Steps p.tables e below (T25.setTop (mkF m 95 #[.val (.int p1), .val (.int p2), .val (.int p3), .val (.int p4), .val (.int kk), .val (.ref ta1), .val (.int (0 : Int32)), .val (.int (1 : Int32)), .val (.int (1 : Int32)), .val (.ref b2), .unset, .unset, .unset, .unset, .unset] [(.ref b12)])) _
    refine XS.goto X25.here hx rfl (pc0 := 95) (pc' := 107) rfl (hb hby at_95) (by decide) (by decide) ?_
    refine XS.astore X25.here hx rfl (hb hby at_107) rfl rfl (l' := #[.val (.int p1), .val (.int p2), .val (.int p3), .val (.int p4), .val (.int kk), .val (.ref ta1), .val (.int (0 : Int32)), .val (.int (1 : Int32)), .val (.int (1 : Int32)), .val (.ref b2), .val (.ref b12), .unset, .unset, .unset, .unset]) rfl ?_
    refine XS.iload X25.here hx rfl (hb hby at_109) rfl ?_
    refine XS.ifYes X25.here hx rfl (pc0 := 111) (pc' := 119) rfl (hb hby at_111) rfl ((if0 _ _).trans (teq (by decide : (0 : Int32) = (0 : Int32))).1) (by decide) (by decide) ?_
    refine XS.aconstNull X25.here hx rfl (hb hby at_119) ?_
    show Steps p.tables e below (T25.setTop (mkF m 120 #[.val (.int p1), .val (.int p2), .val (.int p3), .val (.int p4), .val (.int kk), .val (.ref ta1), .val (.int (0 : Int32)), .val (.int (1 : Int32)), .val (.int (1 : Int32)), .val (.ref b2), .val (.ref b12), .unset, .unset, .unset, .unset] [.null])) _
    refine XS.astore X25.here hx rfl (hb hby at_120) rfl rfl (l' := #[.val (.int p1), .val (.int p2), .val (.int p3), .val (.int p4), .val (.int kk), .val (.ref ta1), .val (.int (0 : Int32)), .val (.int (1 : Int32)), .val (.int (1 : Int32)), .val (.ref b2), .val (.ref b12), .val .null, .unset, .unset, .unset]) rfl ?_
    refine XS.iload X25.here hx rfl (hb hby at_122) rfl ?_
    refine XS.ifNo X25.here hx rfl (hb hby at_124) rfl ((if0 _ _).trans (feq (by decide : ¬ ((1 : Int32) = (0 : Int32)))).1) ?_
    show Steps p.tables e below (T25.setTop (mkF m 127 #[.val (.int p1), .val (.int p2), .val (.int p3), .val (.int p4), .val (.int kk), .val (.ref ta1), .val (.int (0 : Int32)), .val (.int (1 : Int32)), .val (.int (1 : Int32)), .val (.ref b2), .val (.ref b12), .val .null, .unset, .unset, .unset] [])) _
    refine st32 _ ?_
    show Steps p.tables e below (T32.setTop (mkF m 130 #[.val (.int p1), .val (.int p2), .val (.int p3), .val (.int p4), .val (.int kk), .val (.ref ta1), .val (.int (0 : Int32)), .val (.int (1 : Int32)), .val (.int (1 : Int32)), .val (.ref b2), .val (.ref b12), .val .null, .unset, .unset, .unset] [(.ref b32)])) _
    refine XS.dup X32.here hx rfl (hb hby at_130) rfl rfl ?_
    refine XS.aload X32.here hx rfl (hb hby at_131) rfl rfl ?_
    show Steps p.tables e below (T32.setTop (mkF m 133 #[.val (.int p1), .val (.int p2), .val (.int p3), .val (.int p4), .val (.int kk), .val (.ref ta1), .val (.int (0 : Int32)), .val (.int (1 : Int32)), .val (.int (1 : Int32)), .val (.ref b2), .val (.ref b12), .val .null, .unset, .unset, .unset] [(.ref b2), (.ref b32), (.ref b32)])) _
    refine st40.trans ?_
    show Steps p.tables e below (T40.setTop (mkF m 136 #[.val (.int p1), .val (.int p2), .val (.int p3), .val (.int p4), .val (.int kk), .val (.ref ta1), .val (.int (0 : Int32)), .val (.int (1 : Int32)), .val (.int (1 : Int32)), .val (.ref b2), .val (.ref b12), .val .null, .unset, .unset, .unset] [(.ref b32)])) _
    refine XS.goto X40.here hx rfl (pc0 := 136) (pc' := 140) rfl (hb hby at_136) (by decide) (by decide) ?_
    refine XS.astore X40.here hx rfl (hb hby at_140) rfl rfl (l' := #[.val (.int p1), .val (.int p2), .val (.int p3), .val (.int p4), .val (.int kk), .val (.ref ta1), .val (.int (0 : Int32)), .val (.int (1 : Int32)), .val (.int (1 : Int32)), .val (.ref b2), .val (.ref b12), .val .null, .val (.ref b32), .unset, .unset]) rfl ?_
    show Steps p.tables e below (T40.setTop (mkF m 142 #[.val (.int p1), .val (.int p2), .val (.int p3), .val (.int p4), .val (.int kk), .val (.ref ta1), .val (.int (0 : Int32)), .val (.int (1 : Int32)), .val (.int (1 : Int32)), .val (.ref b2), .val (.ref b12), .val .null, .val (.ref b32), .unset, .unset] [])) _
    refine st49 _ ?_
    show Steps p.tables e below (T49.setTop (mkF m 145 #[.val (.int p1), .val (.int p2), .val (.int p3), .val (.int p4), .val (.int kk), .val (.ref ta1), .val (.int (0 : Int32)), .val (.int (1 : Int32)), .val (.int (1 : Int32)), .val (.ref b2), .val (.ref b12), .val .null, .val (.ref b32), .unset, .unset] [(.ref b49)])) _
    refine XS.dup X49.here hx rfl (hb hby at_145) rfl rfl ?_
    refine XS.aload X49.here hx rfl (hb hby at_146) rfl rfl ?_
    refine XS.aload X49.here hx rfl (hb hby at_148) rfl rfl ?_
    refine XS.aload X49.here hx rfl (hb hby at_150) rfl rfl ?_
    show Steps p.tables e below (T49.setTop (mkF m 152 #[.val (.int p1), .val (.int p2), .val (.int p3), .val (.int p4), .val (.int kk), .val (.ref ta1), .val (.int (0 : Int32)), .val (.int (1 : Int32)), .val (.int (1 : Int32)), .val (.ref b2), .val (.ref b12), .val .null, .val (.ref b32), .unset, .unset] [(.ref b32), .null, (.ref ta1), (.ref b49), (.ref b49)])) _
    refine st59.trans ?_
    show Steps p.tables e below (T59.setTop (mkF m 155 #[.val (.int p1), .val (.int p2), .val (.int p3), .val (.int p4), .val (.int kk), .val (.ref ta1), .val (.int (0 : Int32)), .val (.int (1 : Int32)), .val (.int (1 : Int32)), .val (.ref b2), .val (.ref b12), .val .null, .val (.ref b32), .unset, .unset] [(.ref b49)])) _
    refine XS.astore X59.here hx rfl (hb hby at_155) rfl rfl (l' := #[.val (.int p1), .val (.int p2), .val (.int p3), .val (.int p4), .val (.int kk), .val (.ref ta1), .val (.int (0 : Int32)), .val (.int (1 : Int32)), .val (.int (1 : Int32)), .val (.ref b2), .val (.ref b12), .val .null, .val (.ref b32), .val (.ref b49), .unset]) rfl ?_
    refine XS.iload X59.here hx rfl (hb hby at_157) rfl ?_
    refine XS.ifNo X59.here hx rfl (hb hby at_159) rfl ((if0 _ _).trans (feq ((by rcases hk1 with h | h | h | h | h <;> rw [h] <;> decide) : ¬ (kk = (0 : Int32)))).1) ?_
    refine XS.iload X59.here hx rfl (hb hby at_162) rfl ?_
    refine XS.ifYes X59.here hx rfl (pc0 := 164) (pc' := 171) rfl (hb hby at_164) rfl ((if0 _ _).trans (teq (by decide : (0 : Int32) = (0 : Int32))).1) (by decide) (by decide) ?_
    show Steps p.tables e below (T59.setTop (mkF m 171 #[.val (.int p1), .val (.int p2), .val (.int p3), .val (.int p4), .val (.int kk), .val (.ref ta1), .val (.int (0 : Int32)), .val (.int (1 : Int32)), .val (.int (1 : Int32)), .val (.ref b2), .val (.ref b12), .val .null, .val (.ref b32), .val (.ref b49), .unset] [])) _
    refine XS.iconst X59.here hx rfl (hb hby at_171) ?_
    refine XS.istore X59.here hx rfl (hb hby at_172) rfl (l' := #[.val (.int p1), .val (.int p2), .val (.int p3), .val (.int p4), .val (.int kk), .val (.ref ta1), .val (.int (0 : Int32)), .val (.int (1 : Int32)), .val (.int (1 : Int32)), .val (.ref b2), .val (.ref b12), .val .null, .val (.ref b32), .val (.ref b49), .val (.int (0 : Int32))]) rfl ?_
    refine XS.aload X59.here hx rfl (hb hby at_174) rfl rfl ?_
    show Steps p.tables e below (T59.setTop (mkF m 176 #[.val (.int p1), .val (.int p2), .val (.int p3), .val (.int p4), .val (.int kk), .val (.ref ta1), .val (.int (0 : Int32)), .val (.int (1 : Int32)), .val (.int (1 : Int32)), .val (.ref b2), .val (.ref b12), .val .null, .val (.ref b32), .val (.ref b49), .val (.int (0 : Int32))] [(.ref b49)])) _
    refine st70.trans ?_
    show Steps p.tables e below (T70.setTop (mkF m 179 #[.val (.int p1), .val (.int p2), .val (.int p3), .val (.int p4), .val (.int kk), .val (.ref ta1), .val (.int (0 : Int32)), .val (.int (1 : Int32)), .val (.int (1 : Int32)), .val (.ref b2), .val (.ref b12), .val .null, .val (.ref b32), .val (.ref b49), .val (.int (0 : Int32))] [(.int (0 : Int32))])) _
    refine XS.iload X70.here hx rfl (hb hby at_179) rfl ?_
    refine XS.icmpNo X70.here hx rfl (hb hby at_181) rfl (teq (by decide : (0 : Int32) = (0 : Int32))).2 ?_
    refine XS.iconst X70.here hx rfl (hb hby at_184) ?_
    refine XS.goto X70.here hx rfl (pc0 := 185) (pc' := 189) rfl (hb hby at_185) (by decide) (by decide) ?_
    show Steps p.tables e below (T70.setTop (mkF m 189 #[.val (.int p1), .val (.int p2), .val (.int p3), .val (.int p4), .val (.int kk), .val (.ref ta1), .val (.int (0 : Int32)), .val (.int (1 : Int32)), .val (.int (1 : Int32)), .val (.ref b2), .val (.ref b12), .val .null, .val (.ref b32), .val (.ref b49), .val (.int (0 : Int32))] [(.int (1 : Int32))])) _
    exact retN X70 hx (t := .boolean) Bd.returns (by simp) (hb hby at_189) hr
  · show own_Qk (some (.int (1 : Int32))) [] h0 n0 _ T70.heap _
    rw [e70]
    exact ⟨rfl, N70, K59⟩
  · show CHr Z own_EL s.vm s.heap T70.vm T70.heap
    rw [hh, e70]
    exact R59.trans (CHv.at (s := s) (vm0 := T25.vm) X70 hZ25 hEL C59)
set_option maxRecDepth 65536 in
set_option maxHeartbeats 40000000 in
theorem r_law14 (l : Launch) (Z : State) (a0 : Array Value) (hw : ∀ d ∈ tables_1, d.before a0 Z = true) (ws : List Jvm.Cond) (s_L1 s_L4 s_L3 s_L5 s_L2 : Addr) (cs1 : Int32) (h0 : Heap) (n0 : Nat) (O0 : Old Z n0 h0) (G : own_Ctx Z Z.heap s_L1 s_L4 s_L3 s_L5 s_L2 cs1) (hEL : EW Z a0 own_EL) (wS : ∀ a ∈ Bundle.stringAtoms, a.before a0 Z = true) (p1 p2 p3 p4 : Int32) (hk : (p1 &&& (2147483647 : Int32)) % (6 : Int32) = (0 : Int32)) (hf0_ : ¬ ((p2 &&& (1 : Int32)) = (0 : Int32))) (hf1_ : ¬ ((p2 &&& (2 : Int32)) = (0 : Int32))) (hf2_ : ¬ ((p2 &&& (4 : Int32)) = (0 : Int32))) :
    MetFree l x (head1 (Jvm.Cond.code x code maxLocals ret :: ws) room_1) (fun a U => a = #[(.int p1), (.int p2), (.int p3), (.int p4)] ∧ Z.Warmed39 U.vm ∧ U.heap = h0 ∧ CHv Z own_EL U.vm h0) (fun _ _ _ _ _ => True) (fun _ U o U' => ∃ v L, o = .returned v ∧ own_Qk (some (.int (1 : Int32))) [] h0 n0 v U'.heap L ∧ CHr Z own_EL U.vm U.heap U'.vm U'.heap ∧ ReturnedEndW U o U' L 24 1152) := by
  have G0 := G
  obtain ⟨S_L1, E_L1, S_L4, E_L4, S_L3, E_L3, S_L5, E_L5, S_L2, E_L2, S_CS, N_CS⟩ := G
  refine MetFree.of_bodySF (plainFor_of_name pn_0) hisR ?_
  intro p e s m args below meth c s₁ Bd hml0 hP hK
  obtain ⟨rfl, hZ, hh, hC⟩ := hP
  have hx := Bd.exec
  have hby := Bd.bytes
  have hml : c.maxLocals = 15 := hml0
  have hown : s.vm.findClass "com/example/pending_actions/pendingactions/policy/AssessmentIsAutoApprovedPinLaw" = some m.cls := findClass_of_methodNamed Bd.named
  have hnm := (name_of_methodNamed Bd.named Bd.method).1
  have X0 : Stand p l e room_1 (s.setVm s.vm) m #[(.int p1), (.int p2), (.int p3), (.int p4)] below meth c s₁ [] 0 0 := Stand.of_body Bd
  have e0 : s₁.heap = h0 := by rw [← hh, Bd.state]; rfl
  have N0 := Fr.nil n0
  have hS0 : s.Since s.vm h0.size := State.WarmedH.since (State.WarmedH.refl s) _
  have hk0 : h0.size ≤ h0.size := Nat.le_refl _
  have pre0 : ∀ t, Steps p.tables e below (s₁.setTop (mkF m 0 #[.val (.int p1), .val (.int p2), .val (.int p3), .val (.int p4), .unset, .unset, .unset, .unset, .unset, .unset, .unset, .unset, .unset, .unset, .unset] [])) t → Steps p.tables e below (s₁.setTop (entryFrame m #[(.int p1), (.int p2), (.int p3), (.int p4)] maxLocals)) t := fun t k => castTop (ef_0_15 m p1 p2 p3 p4) k
  obtain ⟨_, _, ⟨T1, L1, k1, n1⟩, -, X1, ⟨Lc1, hQ1, l1, y1, z1⟩, st1⟩ := Jvm.LawKit.callS X0 hx (y := (⟨"com/example/pending_actions/pendingactions/policy/AssessmentIsAutoApprovedPinLaw", "pick", "(I)Lcom/example/pending_actions/pendingactions/policy/RiskTier;"⟩ : MethodName)) hown (mvT hZ (hw _ (List.mem_of_getElem? (i := 1) rfl))) (mvT hZ (hw _ (List.mem_of_getElem? (i := 2) rfl))) (mvT hZ (hw _ (List.mem_of_getElem? (i := 3) rfl))) (mvT hZ (hw _ (List.mem_of_getElem? (i := 4) rfl))) (by decide) (backOf (W := 0) (r_tier_0 l Z a0 hw [] s_L1 s_L4 s_L3 s_L5 s_L2 cs1 h0 n0 O0 G0) hZ (hw _ (List.mem_of_getElem? (i := 4) rfl)) (hw _ (List.mem_of_getElem? (i := 3) rfl)) (by decide) (by decide)) (g := (mkF m 11 #[.val (.int p1), .val (.int p2), .val (.int p3), .val (.int p4), .val (.int (0 : Int32)), .unset, .unset, .unset, .unset, .unset, .unset, .unset, .unset, .unset, .unset] [(.int (0 : Int32))])) rfl (by rw [hml]; rfl) (argsL := [(.int (0 : Int32))]) (rest := []) (lenOf pd_4 rfl) rfl (by show 2 * 0 + _ ≤ _; exact Nat.le_of_eq rfl) (hb hby at_11) (fun _ _ => ⟨rfl, e0, (by decide : 0 + 0 ≤ _), (by decide : 0 + 0 ≤ _)⟩)
  dsimp only [Pt.U, Pt.locs, Pt.cells, Pt.slots] at X1 l1 y1 z1 st1 hQ1
  subst l1 y1 z1
  obtain ⟨rfl, N1q, e1⟩ := hQ1
  have N1 := Fr.app N0 N1q
  obtain ⟨T2, h2, k2, X2, e2, E2, A2, st2⟩ := newP X1 hx hZ (hw _ (List.mem_of_getElem? (i := 5) rfl)) e1 (g := (mkF m 56 #[.val (.int p1), .val (.int p2), .val (.int p3), .val (.int p4), .val (.int (0 : Int32)), .val .null, .val (.int (1 : Int32)), .val (.int (1 : Int32)), .val (.int (1 : Int32)), .unset, .unset, .unset, .unset, .unset, .unset] [(.int (2 : Int32))])) rfl (hb hby at_56) rfl (by decide) (cap := 2) (by decide) (by decide) (by decide) (by decide)
  obtain ⟨b2, g2⟩ : ∃ z, z = h0.size := ⟨_, rfl⟩
  have ne_s_L1_b2 : s_L1 ≠ b2 := Nat.ne_of_lt (Nat.lt_of_lt_of_le (E_L1.ext O0.2).lt (Nat.le_of_eq g2.symm))
  have ne_s_L4_b2 : s_L4 ≠ b2 := Nat.ne_of_lt (Nat.lt_of_lt_of_le (E_L4.ext O0.2).lt (Nat.le_of_eq g2.symm))
  have ne_s_L3_b2 : s_L3 ≠ b2 := Nat.ne_of_lt (Nat.lt_of_lt_of_le (E_L3.ext O0.2).lt (Nat.le_of_eq g2.symm))
  have ne_s_L5_b2 : s_L5 ≠ b2 := Nat.ne_of_lt (Nat.lt_of_lt_of_le (E_L5.ext O0.2).lt (Nat.le_of_eq g2.symm))
  have ne_s_L2_b2 : s_L2 ≠ b2 := Nat.ne_of_lt (Nat.lt_of_lt_of_le (E_L2.ext O0.2).lt (Nat.le_of_eq g2.symm))
  have g_b2 : n0 ≤ b2 := Nat.le_trans (O0.1 ▸ O0.2.1) (Nat.le_of_eq g2.symm)
  have sz_b2 : h0.size ≤ b2 := Nat.le_trans (Keep.refl h0 []).1 (Nat.le_of_eq g2.symm)
  have sn2 : Safe Z own_EL s.vm h0 b2 := Safe.new (Nat.le_of_eq g2.symm)
  rw [← g2] at A2 st2
  have O2 := O0.ext E2
  have K2 : Keep h0 h2 [] := (Keep.refl h0 []).ext E2
  have sf3 := Safe.ext E2 hC sn2
  have C2 : CHv Z own_EL s.vm h2 := hC.ext E2
  have R2 : CHr Z own_EL s.vm h0 s.vm h2 := (CHr.refl hC).trans (CHr.ext E2 hC)
  have hk2 := Nat.le_trans hk0 E2.1
  have V2 : Arv Z h2 b2 k2 .char (2 : Int32) [(.int (0 : Int32)), (.int (0 : Int32))] (.int (0 : Int32)) := (Arv.new A2 (by decide)).pad (pad_rep [] (.int (0 : Int32)) 2)
  have vc4 := V2
  obtain ⟨cl4, Ar4, qk4, S4, Nn4, Hs4, Gf4⟩ := vc4
  have hin4 : ¬ ((0 : Int32) < 0 ∨ cl4.slots.size ≤ ((0 : Int32)).toNatClampNeg) := inb_of S4 ⟨by decide, by decide⟩
  obtain ⟨T5, h5, X5, e5, W5, st5⟩ := stC X2 hx hZ e2 Ar4 (j := (0 : Int32)) hin4 (g := (mkF m 69 #[.val (.int p1), .val (.int p2), .val (.int p3), .val (.int p4), .val (.int (0 : Int32)), .val .null, .val (.int (1 : Int32)), .val (.int (1 : Int32)), .val (.int (1 : Int32)), .val (.ref b2), .unset, .unset, .unset, .unset, .unset] [(.int ((p3 &&& (255 : Int32)).toUInt32.toUInt16.toUInt32.toInt32)), (.int (0 : Int32)), (.ref b2)])) rfl rfl (hb hby at_69)
  have O5 := O2.wr W5 g_b2
  have K5 : Keep h0 h5 [] := K2.wr W5 (Or.inr sz_b2)
  have N5 := Fr.snoc X5 N1 g_b2
  have sf6 := Safe.wr W5 sf3 C2 sf3
  have C5 : CHv Z own_EL s.vm h5 := C2.wr W5 sf3
  have R5 : CHr Z own_EL s.vm h0 s.vm h5 := R2.trans (CHr.wr W5 sf3 C2)
  have hk5 := Nat.le_trans hk2 (Keep.of_wr W5).1
  have f7 : Arv Z h5 b2 k2 .char (2 : Int32) [(.int (nar .char ((p3 &&& (255 : Int32)).toUInt32.toUInt16.toUInt32.toInt32))), (.int (0 : Int32))] (.int (0 : Int32)) := Arv.set Ar4 qk4 S4 Nn4 Hs4 Gf4 (fits_nar_char _) W5 0 rfl (Nat.le_of_ble_eq_true rfl)
  have vc8 := f7
  obtain ⟨cl8, Ar8, qk8, S8, Nn8, Hs8, Gf8⟩ := vc8
  have hin8 : ¬ ((1 : Int32) < 0 ∨ cl8.slots.size ≤ ((1 : Int32)).toNatClampNeg) := inb_of S8 ⟨by decide, by decide⟩
  obtain ⟨T9, h9, X9, e9, W9, st9⟩ := stC X5 hx hZ e5 Ar8 (j := (1 : Int32)) hin8 (g := (mkF m 79 #[.val (.int p1), .val (.int p2), .val (.int p3), .val (.int p4), .val (.int (0 : Int32)), .val .null, .val (.int (1 : Int32)), .val (.int (1 : Int32)), .val (.int (1 : Int32)), .val (.ref b2), .unset, .unset, .unset, .unset, .unset] [(.int ((p4 &&& (255 : Int32)).toUInt32.toUInt16.toUInt32.toInt32)), (.int (1 : Int32)), (.ref b2)])) rfl rfl (hb hby at_79)
  have O9 := O5.wr W9 g_b2
  have K9 : Keep h0 h9 [] := K5.wr W9 (Or.inr sz_b2)
  have N9 := Fr.snoc X9 N5 g_b2
  have sf10 := Safe.wr W9 sf6 C5 sf6
  have C9 : CHv Z own_EL s.vm h9 := C5.wr W9 sf6
  have R9 : CHr Z own_EL s.vm h0 s.vm h9 := R5.trans (CHr.wr W9 sf6 C5)
  have hk9 := Nat.le_trans hk5 (Keep.of_wr W9).1
  have f11 : Arv Z h9 b2 k2 .char (2 : Int32) [(.int (nar .char ((p3 &&& (255 : Int32)).toUInt32.toUInt16.toUInt32.toInt32))), (.int (nar .char ((p4 &&& (255 : Int32)).toUInt32.toUInt16.toUInt32.toInt32)))] (.int (0 : Int32)) := Arv.set Ar8 qk8 S8 Nn8 Hs8 Gf8 (fits_nar_char _) W9 1 rfl (Nat.le_of_ble_eq_true rfl)
  obtain ⟨T12, h12, X12, e12, E12, A12, D12, -, st12⟩ := newO X9 hx hZ hown (hw _ (List.mem_of_getElem? (i := 6) rfl)) (hw _ (List.mem_of_getElem? (i := 7) rfl)) (hw _ (List.mem_of_getElem? (i := 8) rfl)) e9 (g := (mkF m 85 #[.val (.int p1), .val (.int p2), .val (.int p3), .val (.int p4), .val (.int (0 : Int32)), .val .null, .val (.int (1 : Int32)), .val (.int (1 : Int32)), .val (.int (1 : Int32)), .val (.ref b2), .unset, .unset, .unset, .unset, .unset] [])) rfl (hb hby at_85) (by decide) (by decide)
  obtain ⟨b12, g12⟩ : ∃ z, z = h9.size := ⟨_, rfl⟩
  have ne_b2_b12 : b2 ≠ b12 := Nat.ne_of_lt (Nat.lt_of_lt_of_le f11.lt (Nat.le_of_eq g12.symm))
  have ne_s_L1_b12 : s_L1 ≠ b12 := Nat.ne_of_lt (Nat.lt_of_lt_of_le (E_L1.ext O9.2).lt (Nat.le_of_eq g12.symm))
  have ne_s_L4_b12 : s_L4 ≠ b12 := Nat.ne_of_lt (Nat.lt_of_lt_of_le (E_L4.ext O9.2).lt (Nat.le_of_eq g12.symm))
  have ne_s_L3_b12 : s_L3 ≠ b12 := Nat.ne_of_lt (Nat.lt_of_lt_of_le (E_L3.ext O9.2).lt (Nat.le_of_eq g12.symm))
  have ne_s_L5_b12 : s_L5 ≠ b12 := Nat.ne_of_lt (Nat.lt_of_lt_of_le (E_L5.ext O9.2).lt (Nat.le_of_eq g12.symm))
  have ne_s_L2_b12 : s_L2 ≠ b12 := Nat.ne_of_lt (Nat.lt_of_lt_of_le (E_L2.ext O9.2).lt (Nat.le_of_eq g12.symm))
  have g_b12 : n0 ≤ b12 := Nat.le_trans (O9.1 ▸ O9.2.1) (Nat.le_of_eq g12.symm)
  have sz_b12 : h0.size ≤ b12 := Nat.le_trans K9.1 (Nat.le_of_eq g12.symm)
  have sn12 : Safe Z own_EL s.vm h9 b12 := Safe.new (Nat.le_of_eq g12.symm)
  rw [← g12] at A12 D12 st12
  have f13 := f11.ext E12
  have O12 := O9.ext E12
  have K12 : Keep h0 h12 [] := K9.ext E12
  have sf14 := Safe.ext E12 C9 sf10
  have sf15 := Safe.ext E12 C9 sn12
  have C12 : CHv Z own_EL s.vm h12 := C9.ext E12
  have R12 : CHr Z own_EL s.vm h0 s.vm h12 := R9.trans (CHr.ext E12 C9)
  have hk12 := Nat.le_trans hk9 E12.1
  have F12_21 : Fld Z h12 b12 "java/lang/String" "value" "[B" .null := D12 (Or.inr (hw _ (List.mem_of_getElem? (i := 21) rfl))) (ty := (.array .byte)) (by decide)
  have F12_22 : Fld Z h12 b12 "java/lang/String" "coder" "B" (.int (0 : Int32)) := D12 (Or.inr (hw _ (List.mem_of_getElem? (i := 22) rfl))) (ty := .byte) (by decide)
  obtain ⟨T16, h16, k16, X16, e16, E16, A16, st16⟩ := newP X12 hx hZ (hw _ (List.mem_of_getElem? (i := 5) rfl)) e12 (g := (mkF m 90 #[.val (.int p1), .val (.int p2), .val (.int p3), .val (.int p4), .val (.int (0 : Int32)), .val .null, .val (.int (1 : Int32)), .val (.int (1 : Int32)), .val (.int (1 : Int32)), .val (.ref b2), .unset, .unset, .unset, .unset, .unset] [(.int (0 : Int32)), (.ref b12), (.ref b12)])) rfl (hb hby at_90) rfl (by decide) (cap := 0) (by decide) (by decide) (by decide) (by decide)
  obtain ⟨b16, g16⟩ : ∃ z, z = h12.size := ⟨_, rfl⟩
  have ne_b2_b16 : b2 ≠ b16 := Nat.ne_of_lt (Nat.lt_of_lt_of_le f13.lt (Nat.le_of_eq g16.symm))
  have ne_b12_b16 : b12 ≠ b16 := Nat.ne_of_lt (Nat.lt_of_lt_of_le A12.lt (Nat.le_of_eq g16.symm))
  have ne_s_L1_b16 : s_L1 ≠ b16 := Nat.ne_of_lt (Nat.lt_of_lt_of_le (E_L1.ext O12.2).lt (Nat.le_of_eq g16.symm))
  have ne_s_L4_b16 : s_L4 ≠ b16 := Nat.ne_of_lt (Nat.lt_of_lt_of_le (E_L4.ext O12.2).lt (Nat.le_of_eq g16.symm))
  have ne_s_L3_b16 : s_L3 ≠ b16 := Nat.ne_of_lt (Nat.lt_of_lt_of_le (E_L3.ext O12.2).lt (Nat.le_of_eq g16.symm))
  have ne_s_L5_b16 : s_L5 ≠ b16 := Nat.ne_of_lt (Nat.lt_of_lt_of_le (E_L5.ext O12.2).lt (Nat.le_of_eq g16.symm))
  have ne_s_L2_b16 : s_L2 ≠ b16 := Nat.ne_of_lt (Nat.lt_of_lt_of_le (E_L2.ext O12.2).lt (Nat.le_of_eq g16.symm))
  have g_b16 : n0 ≤ b16 := Nat.le_trans (O12.1 ▸ O12.2.1) (Nat.le_of_eq g16.symm)
  have sz_b16 : h0.size ≤ b16 := Nat.le_trans K12.1 (Nat.le_of_eq g16.symm)
  have sn16 : Safe Z own_EL s.vm h12 b16 := Safe.new (Nat.le_of_eq g16.symm)
  rw [← g16] at A16 st16
  have f17 := f13.ext E16
  have f18 := A12.ext E16
  have f19 := F12_21.ext E16
  have f20 := F12_22.ext E16
  have O16 := O12.ext E16
  have K16 : Keep h0 h16 [] := K12.ext E16
  have sf21 := Safe.ext E16 C12 sf14
  have sf22 := Safe.ext E16 C12 sf15
  have sf23 := Safe.ext E16 C12 sn16
  have C16 : CHv Z own_EL s.vm h16 := C12.ext E16
  have R16 : CHr Z own_EL s.vm h0 s.vm h16 := R12.trans (CHr.ext E16 C12)
  have hk16 := Nat.le_trans hk12 E16.1
  have V16 : Arv Z h16 b16 k16 .char (0 : Int32) [] (.int (0 : Int32)) := Arv.new A16 (by decide)
  obtain ⟨LL24, X24, N24⟩ : ∃ LL, Stand p l e room_1 (s.setVm s.vm) m #[(.int p1), (.int p2), (.int p3), (.int p4)] below meth c T16 LL 3 6 ∧ Fr n0 LL := ⟨_, X16, N9⟩
  obtain ⟨_, _, ⟨T25, L25, k25, n25⟩, -, X25, S25a, z25a, ⟨Lc25, hQ25, l25, y25, z25, R25q⟩, st25⟩ := X24.specialBackS hx (y := (⟨"java/lang/String", "<init>", "([C)V"⟩ : MethodName)) rfl hown (mvT hZ (hw _ (List.mem_of_getElem? (i := 9) rfl))) (mvT hZ (hw _ (List.mem_of_getElem? (i := 10) rfl))) (mvT hZ (hw _ (List.mem_of_getElem? (i := 11) rfl))) (by decide) (backOfSH (s := s) (vm0 := s.vm) (EL := own_EL) (W := 1) (r_s0 l Z a0 hw [] s_L1 s_L4 s_L3 s_L5 s_L2 cs1 h16 n0 O16 G0 hEL wS b12 b16 k16 f18 g_b12 f20 f19 V16 (Ne.symm ne_b12_b16)) hZ (hw _ (List.mem_of_getElem? (i := 11) rfl)) (hw _ (List.mem_of_getElem? (i := 8) rfl)) (by decide) (by decide) hEL C16) (g := (mkF m 92 #[.val (.int p1), .val (.int p2), .val (.int p3), .val (.int p4), .val (.int (0 : Int32)), .val .null, .val (.int (1 : Int32)), .val (.int (1 : Int32)), .val (.int (1 : Int32)), .val (.ref b2), .unset, .unset, .unset, .unset, .unset] [(.ref b16), (.ref b12), (.ref b12)])) rfl (by rw [hml]; rfl) (Steps.refl _) (a := b12) (argsL := [(.ref b16)]) (rest := [(.ref b12)]) (lenOf pd_5 rfl) rfl (by show 2 * 0 + _ ≤ _; exact Nat.le_of_eq rfl) (hb hby at_92) (fun _ _ => ⟨rfl, e16, (by decide : 3 + 2 ≤ _), (by decide : 6 + 4 ≤ _)⟩)
  dsimp only [Pt.U, Pt.locs, Pt.cells, Pt.slots] at X25 S25a z25a l25 y25 z25 st25 hQ25 R25q
  subst l25 y25 z25
  have X25 : Stand p l e room_1 (s.setVm T25.vm) m #[(.int p1), (.int p2), (.int p3), (.int p4)] below meth c T25 _ _ _ := X25
  have S25f : s.Since T25.vm T25.heap.size := foldS (T := T16) hS0 (by rw [e16]; exact hk16) S25a z25a
  have hZ25 : Z.Warmed39 T25.vm := State.Warmed39.trans (t := s.setVm s.vm) hZ S25a.1
  have hown25 : (s.setVm T25.vm).vm.findClass "com/example/pending_actions/pendingactions/policy/AssessmentIsAutoApprovedPinLaw" = some m.cls := by rw [show (s.setVm T25.vm).vm = T25.vm from rfl, S25a.1.alike.findClass]; exact hown
  obtain ⟨rfl, N25q, Kq25⟩ := hQ25
  have N25 := Fr.app N24 N25q
  have f26 := f17.keep Kq25 (fun q => (List.mem_cons.mp q).elim ne_b2_b12 (fun q => nomatch q))
  have f27 := f18.keep Kq25
  have f28 := V16.keep Kq25 (fun q => (List.mem_cons.mp q).elim (Ne.symm ne_b12_b16) (fun q => nomatch q))
  have O25 := O16.keep Kq25 (allS g_b12 all0)
  have K25 : Keep h0 T25.heap [] := K16.trans Kq25 (allS (Or.inr sz_b12) all0)
  have sf29 := R25q.safe f17.lt sf21
  have sf30 := R25q.safe f18.lt sf22
  have sf31 := R25q.safe V16.lt sf23
  have R25 : CHr Z own_EL s.vm h0 T25.vm T25.heap := R16.trans R25q
  have C25 := R25q.1
  obtain ⟨T32, h32, X32, e32, E32, A32, D32, -, st32⟩ := newO X25 hx hZ25 hown25 (hw _ (List.mem_of_getElem? (i := 6) rfl)) (hw _ (List.mem_of_getElem? (i := 7) rfl)) (hw _ (List.mem_of_getElem? (i := 8) rfl)) rfl (g := (mkF m 127 #[.val (.int p1), .val (.int p2), .val (.int p3), .val (.int p4), .val (.int (0 : Int32)), .val .null, .val (.int (1 : Int32)), .val (.int (1 : Int32)), .val (.int (1 : Int32)), .val (.ref b2), .val (.ref b12), .val (.ref b12), .unset, .unset, .unset] [])) rfl (hb hby at_127) (by decide) (by decide)
  obtain ⟨b32, g32⟩ : ∃ z, z = T25.heap.size := ⟨_, rfl⟩
  have ne_b2_b32 : b2 ≠ b32 := Nat.ne_of_lt (Nat.lt_of_lt_of_le f26.lt (Nat.le_of_eq g32.symm))
  have ne_b12_b32 : b12 ≠ b32 := Nat.ne_of_lt (Nat.lt_of_lt_of_le f27.lt (Nat.le_of_eq g32.symm))
  have ne_b16_b32 : b16 ≠ b32 := Nat.ne_of_lt (Nat.lt_of_lt_of_le f28.lt (Nat.le_of_eq g32.symm))
  have ne_s_L1_b32 : s_L1 ≠ b32 := Nat.ne_of_lt (Nat.lt_of_lt_of_le (E_L1.ext O25.2).lt (Nat.le_of_eq g32.symm))
  have ne_s_L4_b32 : s_L4 ≠ b32 := Nat.ne_of_lt (Nat.lt_of_lt_of_le (E_L4.ext O25.2).lt (Nat.le_of_eq g32.symm))
  have ne_s_L3_b32 : s_L3 ≠ b32 := Nat.ne_of_lt (Nat.lt_of_lt_of_le (E_L3.ext O25.2).lt (Nat.le_of_eq g32.symm))
  have ne_s_L5_b32 : s_L5 ≠ b32 := Nat.ne_of_lt (Nat.lt_of_lt_of_le (E_L5.ext O25.2).lt (Nat.le_of_eq g32.symm))
  have ne_s_L2_b32 : s_L2 ≠ b32 := Nat.ne_of_lt (Nat.lt_of_lt_of_le (E_L2.ext O25.2).lt (Nat.le_of_eq g32.symm))
  have g_b32 : n0 ≤ b32 := Nat.le_trans (O25.1 ▸ O25.2.1) (Nat.le_of_eq g32.symm)
  have sz_b32 : h0.size ≤ b32 := Nat.le_trans K25.1 (Nat.le_of_eq g32.symm)
  have sn32 : Safe Z own_EL T25.vm T25.heap b32 := Safe.new (Nat.le_of_eq g32.symm)
  rw [← g32] at A32 D32 st32
  have f33 := f26.ext E32
  have f34 := f27.ext E32
  have f35 := f28.ext E32
  have O32 := O25.ext E32
  have K32 : Keep h0 h32 [] := K25.ext E32
  have sf36 := Safe.ext E32 C25 sf29
  have sf37 := Safe.ext E32 C25 sf30
  have sf38 := Safe.ext E32 C25 sf31
  have sf39 := Safe.ext E32 C25 sn32
  have C32 : CHv Z own_EL T25.vm h32 := C25.ext E32
  have R32 : CHr Z own_EL s.vm h0 T25.vm h32 := R25.trans (CHr.ext E32 C25)
  have hk32 := Nat.le_trans (Nat.le_refl _) E32.1
  have F32_21 : Fld Z h32 b32 "java/lang/String" "value" "[B" .null := D32 (Or.inr (hw _ (List.mem_of_getElem? (i := 21) rfl))) (ty := (.array .byte)) (by decide)
  have F32_22 : Fld Z h32 b32 "java/lang/String" "coder" "B" (.int (0 : Int32)) := D32 (Or.inr (hw _ (List.mem_of_getElem? (i := 22) rfl))) (ty := .byte) (by decide)
  obtain ⟨_, _, ⟨T40, L40, k40, n40⟩, -, X40, ⟨Lc40, hQ40, l40, y40, z40⟩, st40⟩ := X32.specialBack hx (y := (⟨"java/lang/String", "<init>", "([C)V"⟩ : MethodName)) rfl hown25 (mvT hZ25 (hw _ (List.mem_of_getElem? (i := 9) rfl))) (mvT hZ25 (hw _ (List.mem_of_getElem? (i := 10) rfl))) (mvT hZ25 (hw _ (List.mem_of_getElem? (i := 11) rfl))) (by decide) (backOf (W := 1) (r_s2 l Z a0 hw [] s_L1 s_L4 s_L3 s_L5 s_L2 cs1 h32 n0 O32 G0 b32 b2 k2 (nar .char ((p3 &&& (255 : Int32)).toUInt32.toUInt16.toUInt32.toInt32)) (nar .char ((p4 &&& (255 : Int32)).toUInt32.toUInt16.toUInt32.toInt32)) A32 g_b32 F32_22 F32_21 f33 (own_ch _) (own_ch _) ne_b2_b32) hZ25 (hw _ (List.mem_of_getElem? (i := 11) rfl)) (hw _ (List.mem_of_getElem? (i := 8) rfl)) (by decide) (by decide)) (g := (mkF m 133 #[.val (.int p1), .val (.int p2), .val (.int p3), .val (.int p4), .val (.int (0 : Int32)), .val .null, .val (.int (1 : Int32)), .val (.int (1 : Int32)), .val (.int (1 : Int32)), .val (.ref b2), .val (.ref b12), .val (.ref b12), .unset, .unset, .unset] [(.ref b2), (.ref b32), (.ref b32)])) rfl (by rw [hml]; rfl) (Steps.refl _) (a := b32) (argsL := [(.ref b2)]) (rest := [(.ref b32)]) (lenOf pd_5 rfl) rfl (by show 2 * 0 + _ ≤ _; exact Nat.le_of_eq rfl) (hb hby at_133) (fun _ _ => ⟨rfl, e32, (by decide : 6 + 1 ≤ _), (by decide : 14 + 2 ≤ _)⟩)
  dsimp only [Pt.U, Pt.locs, Pt.cells, Pt.slots] at X40 l40 y40 z40 st40 hQ40
  subst l40 y40 z40
  obtain ⟨rfl, N40q, Kq40⟩ := hQ40
  have N40 := Fr.app N25 N40q
  have f41 := f33.keep Kq40 (fun q => (List.mem_cons.mp q).elim ne_b2_b32 (fun q => nomatch q))
  have f42 := f34.keep Kq40
  have f43 := f35.keep Kq40 (fun q => (List.mem_cons.mp q).elim ne_b16_b32 (fun q => nomatch q))
  have f44 := A32.keep Kq40
  have O40 := O32.keep Kq40 (allS g_b32 all0)
  have K40 : Keep h0 T40.heap [] := K32.trans Kq40 (allS (Or.inr sz_b32) all0)
  have sf45 := Safe.keep Kq40 (sfS sf39 sf0) C32 sf36
  have sf46 := Safe.keep Kq40 (sfS sf39 sf0) C32 sf37
  have sf47 := Safe.keep Kq40 (sfS sf39 sf0) C32 sf38
  have sf48 := Safe.keep Kq40 (sfS sf39 sf0) C32 sf39
  have C40 : CHv Z own_EL T25.vm T40.heap := C32.keep Kq40 (sfS sf39 sf0)
  have R40 : CHr Z own_EL s.vm h0 T25.vm T40.heap := R32.trans (CHr.keep Kq40 (sfS sf39 sf0) C32)
  have hk40 := Nat.le_trans hk32 Kq40.1
  obtain ⟨T49, h49, X49, e49, E49, A49, D49, -, st49⟩ := newO X40 hx hZ25 hown25 (hw _ (List.mem_of_getElem? (i := 27) rfl)) (hw _ (List.mem_of_getElem? (i := 28) rfl)) (hw _ (List.mem_of_getElem? (i := 29) rfl)) rfl (g := (mkF m 142 #[.val (.int p1), .val (.int p2), .val (.int p3), .val (.int p4), .val (.int (0 : Int32)), .val .null, .val (.int (1 : Int32)), .val (.int (1 : Int32)), .val (.int (1 : Int32)), .val (.ref b2), .val (.ref b12), .val (.ref b12), .val (.ref b32), .unset, .unset] [])) rfl (hb hby at_142) (by decide) (by decide)
  obtain ⟨b49, g49⟩ : ∃ z, z = T40.heap.size := ⟨_, rfl⟩
  have ne_b2_b49 : b2 ≠ b49 := Nat.ne_of_lt (Nat.lt_of_lt_of_le f41.lt (Nat.le_of_eq g49.symm))
  have ne_b12_b49 : b12 ≠ b49 := Nat.ne_of_lt (Nat.lt_of_lt_of_le f42.lt (Nat.le_of_eq g49.symm))
  have ne_b16_b49 : b16 ≠ b49 := Nat.ne_of_lt (Nat.lt_of_lt_of_le f43.lt (Nat.le_of_eq g49.symm))
  have ne_b32_b49 : b32 ≠ b49 := Nat.ne_of_lt (Nat.lt_of_lt_of_le f44.lt (Nat.le_of_eq g49.symm))
  have ne_s_L1_b49 : s_L1 ≠ b49 := Nat.ne_of_lt (Nat.lt_of_lt_of_le (E_L1.ext O40.2).lt (Nat.le_of_eq g49.symm))
  have ne_s_L4_b49 : s_L4 ≠ b49 := Nat.ne_of_lt (Nat.lt_of_lt_of_le (E_L4.ext O40.2).lt (Nat.le_of_eq g49.symm))
  have ne_s_L3_b49 : s_L3 ≠ b49 := Nat.ne_of_lt (Nat.lt_of_lt_of_le (E_L3.ext O40.2).lt (Nat.le_of_eq g49.symm))
  have ne_s_L5_b49 : s_L5 ≠ b49 := Nat.ne_of_lt (Nat.lt_of_lt_of_le (E_L5.ext O40.2).lt (Nat.le_of_eq g49.symm))
  have ne_s_L2_b49 : s_L2 ≠ b49 := Nat.ne_of_lt (Nat.lt_of_lt_of_le (E_L2.ext O40.2).lt (Nat.le_of_eq g49.symm))
  have g_b49 : n0 ≤ b49 := Nat.le_trans (O40.1 ▸ O40.2.1) (Nat.le_of_eq g49.symm)
  have sz_b49 : h0.size ≤ b49 := Nat.le_trans K40.1 (Nat.le_of_eq g49.symm)
  have sn49 : Safe Z own_EL T25.vm T40.heap b49 := Safe.new (Nat.le_of_eq g49.symm)
  rw [← g49] at A49 D49 st49
  have f50 := f41.ext E49
  have f51 := f42.ext E49
  have f52 := f43.ext E49
  have f53 := f44.ext E49
  have O49 := O40.ext E49
  have K49 : Keep h0 h49 [] := K40.ext E49
  have sf54 := Safe.ext E49 C40 sf45
  have sf55 := Safe.ext E49 C40 sf46
  have sf56 := Safe.ext E49 C40 sf47
  have sf57 := Safe.ext E49 C40 sf48
  have sf58 := Safe.ext E49 C40 sn49
  have C49 : CHv Z own_EL T25.vm h49 := C40.ext E49
  have R49 : CHr Z own_EL s.vm h0 T25.vm h49 := R40.trans (CHr.ext E49 C40)
  have hk49 := Nat.le_trans hk40 E49.1
  have F49_35 : Fld Z h49 b49 "com/example/pending_actions/pendingactions/policy/Assessment" "tier" "Lcom/example/pending_actions/pendingactions/policy/RiskTier;" .null := D49 (Or.inr (hw _ (List.mem_of_getElem? (i := 35) rfl))) (ty := (.object "com/example/pending_actions/pendingactions/policy/RiskTier")) (by decide)
  have F49_37 : Fld Z h49 b49 "com/example/pending_actions/pendingactions/policy/Assessment" "decider" "Ljava/lang/String;" .null := D49 (Or.inr (hw _ (List.mem_of_getElem? (i := 37) rfl))) (ty := (.object "java/lang/String")) (by decide)
  have F49_39 : Fld Z h49 b49 "com/example/pending_actions/pendingactions/policy/Assessment" "policyVersion" "Ljava/lang/String;" .null := D49 (Or.inr (hw _ (List.mem_of_getElem? (i := 39) rfl))) (ty := (.object "java/lang/String")) (by decide)
  obtain ⟨_, _, ⟨T59, L59, k59, n59⟩, -, X59, ⟨Lc59, hQ59, l59, y59, z59⟩, st59⟩ := X49.specialBack hx (y := (⟨"com/example/pending_actions/pendingactions/policy/Assessment", "<init>", "(Lcom/example/pending_actions/pendingactions/policy/RiskTier;Ljava/lang/String;Ljava/lang/String;)V"⟩ : MethodName)) rfl hown25 (mvT hZ25 (hw _ (List.mem_of_getElem? (i := 30) rfl))) (mvT hZ25 (hw _ (List.mem_of_getElem? (i := 31) rfl))) (mvT hZ25 (hw _ (List.mem_of_getElem? (i := 32) rfl))) (by decide) (backOf (W := 1) (r_ai6 l Z a0 hw [] s_L1 s_L4 s_L3 s_L5 s_L2 cs1 h49 n0 O49 G0 b49 b12 b32 A49 g_b49 F49_35 F49_37 F49_39) hZ25 (hw _ (List.mem_of_getElem? (i := 32) rfl)) (hw _ (List.mem_of_getElem? (i := 29) rfl)) (by decide) (by decide)) (g := (mkF m 152 #[.val (.int p1), .val (.int p2), .val (.int p3), .val (.int p4), .val (.int (0 : Int32)), .val .null, .val (.int (1 : Int32)), .val (.int (1 : Int32)), .val (.int (1 : Int32)), .val (.ref b2), .val (.ref b12), .val (.ref b12), .val (.ref b32), .unset, .unset] [(.ref b32), (.ref b12), .null, (.ref b49), (.ref b49)])) rfl (by rw [hml]; rfl) (Steps.refl _) (a := b49) (argsL := [.null, (.ref b12), (.ref b32)]) (rest := [(.ref b49)]) (lenOf pd_6 rfl) rfl (by show 2 * 0 + _ ≤ _; exact Nat.le_of_eq rfl) (hb hby at_152) (fun _ _ => ⟨rfl, e49, (by decide : 8 + 0 ≤ _), (by decide : 19 + 0 ≤ _)⟩)
  dsimp only [Pt.U, Pt.locs, Pt.cells, Pt.slots] at X59 l59 y59 z59 st59 hQ59
  subst l59 y59 z59
  obtain ⟨rfl, N59q, Kq59, Ft59, Fd59⟩ := hQ59
  have N59 := Fr.app N40 N59q
  have f60 := f50.keep Kq59 (fun q => (List.mem_cons.mp q).elim ne_b2_b49 (fun q => nomatch q))
  have f61 := f51.keep Kq59
  have f62 := f52.keep Kq59 (fun q => (List.mem_cons.mp q).elim ne_b16_b49 (fun q => nomatch q))
  have f63 := f53.keep Kq59
  have f64 := A49.keep Kq59
  have O59 := O49.keep Kq59 (allS g_b49 all0)
  have K59 : Keep h0 T59.heap [] := K49.trans Kq59 (allS (Or.inr sz_b49) all0)
  have sf65 := Safe.keep Kq59 (sfS sf58 sf0) C49 sf54
  have sf66 := Safe.keep Kq59 (sfS sf58 sf0) C49 sf55
  have sf67 := Safe.keep Kq59 (sfS sf58 sf0) C49 sf56
  have sf68 := Safe.keep Kq59 (sfS sf58 sf0) C49 sf57
  have sf69 := Safe.keep Kq59 (sfS sf58 sf0) C49 sf58
  have C59 : CHv Z own_EL T25.vm T59.heap := C49.keep Kq59 (sfS sf58 sf0)
  have R59 : CHr Z own_EL s.vm h0 T25.vm T59.heap := R49.trans (CHr.keep Kq59 (sfS sf58 sf0) C49)
  have hk59 := Nat.le_trans hk49 Kq59.1
  obtain ⟨cq70, kq70, q70a, q70b, q70c⟩ := isOf hZ25 rfl f64
  obtain ⟨_, _, ⟨T70, L70, k70, n70⟩, -, X70, ⟨Lc70, hQ70, l70, y70, z70⟩, st70⟩ := X59.virtualBack hx (y := (⟨"com/example/pending_actions/pendingactions/policy/Assessment", "isAutoApproved", "()Z"⟩ : MethodName)) (z := (⟨"com/example/pending_actions/pendingactions/policy/Assessment", "isAutoApproved", "()Z"⟩ : MethodName)) hown25 (mvT hZ25 (hw _ (List.mem_of_getElem? (i := 40) rfl))) (mvT hZ25 (hw _ (List.mem_of_getElem? (i := 41) rfl))) (notFace_of_selects (args := #[]) (mvT hZ25 (hw _ (List.mem_of_getElem? (i := 43) rfl)))) (mvT hZ25 (hw _ (List.mem_of_getElem? (i := 43) rfl))) (mvT hZ25 (hw _ (List.mem_of_getElem? (i := 42) rfl))) (by decide) (backOf (W := 0) (r_aa2 l Z a0 hw [] s_L1 s_L4 s_L3 s_L5 s_L2 cs1 T59.heap n0 O59 G0 b49 b12 Ft59 Fd59) hZ25 (hw _ (List.mem_of_getElem? (i := 44) rfl)) (hw _ (List.mem_of_getElem? (i := 29) rfl)) (by decide) (by decide)) q70a q70c (g := (mkF m 176 #[.val (.int p1), .val (.int p2), .val (.int p3), .val (.int p4), .val (.int (0 : Int32)), .val .null, .val (.int (1 : Int32)), .val (.int (1 : Int32)), .val (.int (1 : Int32)), .val (.ref b2), .val (.ref b12), .val (.ref b12), .val (.ref b32), .val (.ref b49), .val (.int (0 : Int32))] [(.ref b49)])) rfl (by rw [hml]; rfl) (Steps.refl _) (argsL := []) (rest := []) (lenOf pd_7 rfl) rfl (by show 2 * 0 + _ ≤ _; exact Nat.le_of_eq rfl) (hb hby at_176) (fun _ _ => ⟨rfl, rfl, (by decide : 8 + 0 ≤ _), (by decide : 19 + 0 ≤ _)⟩)
  dsimp only [Pt.U, Pt.locs, Pt.cells, Pt.slots] at X70 l70 y70 z70 st70 hQ70
  subst l70 y70 z70
  obtain ⟨rfl, N70q, e70⟩ := hQ70
  have N70 := Fr.app N59 N70q
  obtain ⟨fs, hr, hrun, hended, hRW⟩ := X70.leaveW S25f (by rw [e70]; exact hk59) (v := some (.int (1 : Int32))) (fun h => by rw [Bd.returns] at h; cases h)
  refine ⟨_, _, pre0 _ ?_, hrun, hended, _, _, rfl, ?_, ?_, hRW.1, hRW.2.1, hRW.2.2.1, hRW.2.2.2.mono (by decide) (by decide)⟩
  · show Steps p.tables e below (s₁.setTop (mkF m 0 #[.val (.int p1), .val (.int p2), .val (.int p3), .val (.int p4), .unset, .unset, .unset, .unset, .unset, .unset, .unset, .unset, .unset, .unset, .unset] [])) _
    refine XS.iloadN X0.here hx rfl (hb hby at_0) rfl ?_
    show Steps p.tables e below (s₁.setTop (mkF m 1 #[.val (.int p1), .val (.int p2), .val (.int p3), .val (.int p4), .unset, .unset, .unset, .unset, .unset, .unset, .unset, .unset, .unset, .unset, .unset] [(.int p1)])) _
    refine X0.ldcInt hx hown (mvT hZ (hw _ (List.mem_of_getElem? (i := 0) rfl))) (g := (mkF m 1 #[.val (.int p1), .val (.int p2), .val (.int p3), .val (.int p4), .unset, .unset, .unset, .unset, .unset, .unset, .unset, .unset, .unset, .unset, .unset] [(.int p1)])) rfl (hb hby at_1) _ ?_
    show Steps p.tables e below (s₁.setTop (mkF m 3 #[.val (.int p1), .val (.int p2), .val (.int p3), .val (.int p4), .unset, .unset, .unset, .unset, .unset, .unset, .unset, .unset, .unset, .unset, .unset] [(.int (2147483647 : Int32)), (.int p1)])) _
    refine XS.iand X0.here hx rfl (hb hby at_3) rfl ?_
    refine XS.bipush X0.here hx rfl (hb hby at_4) ?_
    show Steps p.tables e below (s₁.setTop (mkF m 6 #[.val (.int p1), .val (.int p2), .val (.int p3), .val (.int p4), .unset, .unset, .unset, .unset, .unset, .unset, .unset, .unset, .unset, .unset, .unset] [(.int (6 : Int32)), (.int (p1 &&& (2147483647 : Int32)))])) _
    refine iremM X0 hx rfl (hb hby at_6) rfl (by decide) ?_
    show Steps p.tables e below (s₁.setTop (mkF m 7 #[.val (.int p1), .val (.int p2), .val (.int p3), .val (.int p4), .unset, .unset, .unset, .unset, .unset, .unset, .unset, .unset, .unset, .unset, .unset] [(.int ((p1 &&& (2147483647 : Int32)) % (6 : Int32)))])) _
    rw [hk]
    show Steps p.tables e below (s₁.setTop (mkF m 7 #[.val (.int p1), .val (.int p2), .val (.int p3), .val (.int p4), .unset, .unset, .unset, .unset, .unset, .unset, .unset, .unset, .unset, .unset, .unset] [(.int (0 : Int32))])) _
    refine XS.istore X0.here hx rfl (hb hby at_7) rfl (l' := #[.val (.int p1), .val (.int p2), .val (.int p3), .val (.int p4), .val (.int (0 : Int32)), .unset, .unset, .unset, .unset, .unset, .unset, .unset, .unset, .unset, .unset]) rfl ?_
    refine XS.iload X0.here hx rfl (hb hby at_9) rfl ?_
    show Steps p.tables e below (s₁.setTop (mkF m 11 #[.val (.int p1), .val (.int p2), .val (.int p3), .val (.int p4), .val (.int (0 : Int32)), .unset, .unset, .unset, .unset, .unset, .unset, .unset, .unset, .unset, .unset] [(.int (0 : Int32))])) _
    refine st1 _ ?_
    show Steps p.tables e below (T1.setTop (mkF m 14 #[.val (.int p1), .val (.int p2), .val (.int p3), .val (.int p4), .val (.int (0 : Int32)), .unset, .unset, .unset, .unset, .unset, .unset, .unset, .unset, .unset, .unset] [.null])) _
    refine XS.astore X1.here hx rfl (hb hby at_14) rfl rfl (l' := #[.val (.int p1), .val (.int p2), .val (.int p3), .val (.int p4), .val (.int (0 : Int32)), .val .null, .unset, .unset, .unset, .unset, .unset, .unset, .unset, .unset, .unset]) rfl ?_
    refine XS.iloadN X1.here hx rfl (hb hby at_16) rfl ?_
    refine XS.iconst X1.here hx rfl (hb hby at_17) ?_
    refine XS.iand X1.here hx rfl (hb hby at_18) rfl ?_
    refine XS.ifNo X1.here hx rfl (hb hby at_19) rfl ((if0 _ _).trans (feq (hf0_ : ¬ ((p2 &&& (1 : Int32)) = (0 : Int32)))).1) ?_
    show Steps p.tables e below (T1.setTop (mkF m 22 #[.val (.int p1), .val (.int p2), .val (.int p3), .val (.int p4), .val (.int (0 : Int32)), .val .null, .unset, .unset, .unset, .unset, .unset, .unset, .unset, .unset, .unset] [])) _
    refine XS.iconst X1.here hx rfl (hb hby at_22) ?_
    refine XS.goto X1.here hx rfl (pc0 := 23) (pc' := 27) rfl (hb hby at_23) (by decide) (by decide) ?_
    refine XS.istore X1.here hx rfl (hb hby at_27) rfl (l' := #[.val (.int p1), .val (.int p2), .val (.int p3), .val (.int p4), .val (.int (0 : Int32)), .val .null, .val (.int (1 : Int32)), .unset, .unset, .unset, .unset, .unset, .unset, .unset, .unset]) rfl ?_
    refine XS.iloadN X1.here hx rfl (hb hby at_29) rfl ?_
    refine XS.iconst X1.here hx rfl (hb hby at_30) ?_
    show Steps p.tables e below (T1.setTop (mkF m 31 #[.val (.int p1), .val (.int p2), .val (.int p3), .val (.int p4), .val (.int (0 : Int32)), .val .null, .val (.int (1 : Int32)), .unset, .unset, .unset, .unset, .unset, .unset, .unset, .unset] [(.int (2 : Int32)), (.int p2)])) _
    refine XS.iand X1.here hx rfl (hb hby at_31) rfl ?_
    refine XS.ifNo X1.here hx rfl (hb hby at_32) rfl ((if0 _ _).trans (feq (hf1_ : ¬ ((p2 &&& (2 : Int32)) = (0 : Int32)))).1) ?_
    refine XS.iconst X1.here hx rfl (hb hby at_35) ?_
    refine XS.goto X1.here hx rfl (pc0 := 36) (pc' := 40) rfl (hb hby at_36) (by decide) (by decide) ?_
    refine XS.istore X1.here hx rfl (hb hby at_40) rfl (l' := #[.val (.int p1), .val (.int p2), .val (.int p3), .val (.int p4), .val (.int (0 : Int32)), .val .null, .val (.int (1 : Int32)), .val (.int (1 : Int32)), .unset, .unset, .unset, .unset, .unset, .unset, .unset]) rfl ?_
    show Steps p.tables e below (T1.setTop (mkF m 42 #[.val (.int p1), .val (.int p2), .val (.int p3), .val (.int p4), .val (.int (0 : Int32)), .val .null, .val (.int (1 : Int32)), .val (.int (1 : Int32)), .unset, .unset, .unset, .unset, .unset, .unset, .unset] [])) _
    refine XS.iloadN X1.here hx rfl (hb hby at_42) rfl ?_
    refine XS.iconst X1.here hx rfl (hb hby at_43) ?_
    refine XS.iand X1.here hx rfl (hb hby at_44) rfl ?_
    refine XS.ifNo X1.here hx rfl (hb hby at_45) rfl ((if0 _ _).trans (feq (hf2_ : ¬ ((p2 &&& (4 : Int32)) = (0 : Int32)))).1) ?_
    refine XS.iconst X1.here hx rfl (hb hby at_48) ?_
    show Steps p.tables e below (T1.setTop (mkF m 49 #[.val (.int p1), .val (.int p2), .val (.int p3), .val (.int p4), .val (.int (0 : Int32)), .val .null, .val (.int (1 : Int32)), .val (.int (1 : Int32)), .unset, .unset, .unset, .unset, .unset, .unset, .unset] [(.int (1 : Int32))])) _
    refine XS.goto X1.here hx rfl (pc0 := 49) (pc' := 53) rfl (hb hby at_49) (by decide) (by decide) ?_
    refine XS.istore X1.here hx rfl (hb hby at_53) rfl (l' := #[.val (.int p1), .val (.int p2), .val (.int p3), .val (.int p4), .val (.int (0 : Int32)), .val .null, .val (.int (1 : Int32)), .val (.int (1 : Int32)), .val (.int (1 : Int32)), .unset, .unset, .unset, .unset, .unset, .unset]) rfl ?_
    refine XS.iconst X1.here hx rfl (hb hby at_55) ?_
    show Steps p.tables e below (T1.setTop (mkF m 56 #[.val (.int p1), .val (.int p2), .val (.int p3), .val (.int p4), .val (.int (0 : Int32)), .val .null, .val (.int (1 : Int32)), .val (.int (1 : Int32)), .val (.int (1 : Int32)), .unset, .unset, .unset, .unset, .unset, .unset] [(.int (2 : Int32))])) _
    refine st2 _ ?_
    show Steps p.tables e below (T2.setTop (mkF m 58 #[.val (.int p1), .val (.int p2), .val (.int p3), .val (.int p4), .val (.int (0 : Int32)), .val .null, .val (.int (1 : Int32)), .val (.int (1 : Int32)), .val (.int (1 : Int32)), .unset, .unset, .unset, .unset, .unset, .unset] [(.ref b2)])) _
    refine XS.astore X2.here hx rfl (hb hby at_58) rfl rfl (l' := #[.val (.int p1), .val (.int p2), .val (.int p3), .val (.int p4), .val (.int (0 : Int32)), .val .null, .val (.int (1 : Int32)), .val (.int (1 : Int32)), .val (.int (1 : Int32)), .val (.ref b2), .unset, .unset, .unset, .unset, .unset]) rfl ?_
    refine XS.aload X2.here hx rfl (hb hby at_60) rfl rfl ?_
    refine XS.iconst X2.here hx rfl (hb hby at_62) ?_
    refine XS.iloadN X2.here hx rfl (hb hby at_63) rfl ?_
    refine XS.sipush X2.here hx rfl (hb hby at_64) ?_
    show Steps p.tables e below (T2.setTop (mkF m 67 #[.val (.int p1), .val (.int p2), .val (.int p3), .val (.int p4), .val (.int (0 : Int32)), .val .null, .val (.int (1 : Int32)), .val (.int (1 : Int32)), .val (.int (1 : Int32)), .val (.ref b2), .unset, .unset, .unset, .unset, .unset] [(.int (255 : Int32)), (.int p3), (.int (0 : Int32)), (.ref b2)])) _
    refine XS.iand X2.here hx rfl (hb hby at_67) rfl ?_
    refine XS.i2c X2.here hx rfl (hb hby at_68) rfl ?_
    show Steps p.tables e below (T2.setTop (mkF m 69 #[.val (.int p1), .val (.int p2), .val (.int p3), .val (.int p4), .val (.int (0 : Int32)), .val .null, .val (.int (1 : Int32)), .val (.int (1 : Int32)), .val (.int (1 : Int32)), .val (.ref b2), .unset, .unset, .unset, .unset, .unset] [(.int ((p3 &&& (255 : Int32)).toUInt32.toUInt16.toUInt32.toInt32)), (.int (0 : Int32)), (.ref b2)])) _
    refine st5 _ ?_
    show Steps p.tables e below (T5.setTop (mkF m 70 #[.val (.int p1), .val (.int p2), .val (.int p3), .val (.int p4), .val (.int (0 : Int32)), .val .null, .val (.int (1 : Int32)), .val (.int (1 : Int32)), .val (.int (1 : Int32)), .val (.ref b2), .unset, .unset, .unset, .unset, .unset] [])) _
    refine XS.aload X5.here hx rfl (hb hby at_70) rfl rfl ?_
    refine XS.iconst X5.here hx rfl (hb hby at_72) ?_
    refine XS.iloadN X5.here hx rfl (hb hby at_73) rfl ?_
    refine XS.sipush X5.here hx rfl (hb hby at_74) ?_
    refine XS.iand X5.here hx rfl (hb hby at_77) rfl ?_
    show Steps p.tables e below (T5.setTop (mkF m 78 #[.val (.int p1), .val (.int p2), .val (.int p3), .val (.int p4), .val (.int (0 : Int32)), .val .null, .val (.int (1 : Int32)), .val (.int (1 : Int32)), .val (.int (1 : Int32)), .val (.ref b2), .unset, .unset, .unset, .unset, .unset] [(.int (p4 &&& (255 : Int32))), (.int (1 : Int32)), (.ref b2)])) _
    refine XS.i2c X5.here hx rfl (hb hby at_78) rfl ?_
    show Steps p.tables e below (T5.setTop (mkF m 79 #[.val (.int p1), .val (.int p2), .val (.int p3), .val (.int p4), .val (.int (0 : Int32)), .val .null, .val (.int (1 : Int32)), .val (.int (1 : Int32)), .val (.int (1 : Int32)), .val (.ref b2), .unset, .unset, .unset, .unset, .unset] [(.int ((p4 &&& (255 : Int32)).toUInt32.toUInt16.toUInt32.toInt32)), (.int (1 : Int32)), (.ref b2)])) _
    refine st9 _ ?_
    show Steps p.tables e below (T9.setTop (mkF m 80 #[.val (.int p1), .val (.int p2), .val (.int p3), .val (.int p4), .val (.int (0 : Int32)), .val .null, .val (.int (1 : Int32)), .val (.int (1 : Int32)), .val (.int (1 : Int32)), .val (.ref b2), .unset, .unset, .unset, .unset, .unset] [])) _
    refine XS.iload X9.here hx rfl (hb hby at_80) rfl ?_
    refine XS.ifNo X9.here hx rfl (hb hby at_82) rfl ((if0 _ _).trans (feq (by decide : ¬ ((1 : Int32) = (0 : Int32)))).1) ?_
    show Steps p.tables e below (T9.setTop (mkF m 85 #[.val (.int p1), .val (.int p2), .val (.int p3), .val (.int p4), .val (.int (0 : Int32)), .val .null, .val (.int (1 : Int32)), .val (.int (1 : Int32)), .val (.int (1 : Int32)), .val (.ref b2), .unset, .unset, .unset, .unset, .unset] [])) _
    refine st12 _ ?_
    show Steps p.tables e below (T12.setTop (mkF m 88 #[.val (.int p1), .val (.int p2), .val (.int p3), .val (.int p4), .val (.int (0 : Int32)), .val .null, .val (.int (1 : Int32)), .val (.int (1 : Int32)), .val (.int (1 : Int32)), .val (.ref b2), .unset, .unset, .unset, .unset, .unset] [(.ref b12)])) _
    refine XS.dup X12.here hx rfl (hb hby at_88) rfl rfl ?_
    refine XS.iconst X12.here hx rfl (hb hby at_89) ?_
    show Steps p.tables e below (T12.setTop (mkF m 90 #[.val (.int p1), .val (.int p2), .val (.int p3), .val (.int p4), .val (.int (0 : Int32)), .val .null, .val (.int (1 : Int32)), .val (.int (1 : Int32)), .val (.int (1 : Int32)), .val (.ref b2), .unset, .unset, .unset, .unset, .unset] [(.int (0 : Int32)), (.ref b12), (.ref b12)])) _
    refine st16 _ ?_
    show Steps p.tables e below (T16.setTop (mkF m 92 #[.val (.int p1), .val (.int p2), .val (.int p3), .val (.int p4), .val (.int (0 : Int32)), .val .null, .val (.int (1 : Int32)), .val (.int (1 : Int32)), .val (.int (1 : Int32)), .val (.ref b2), .unset, .unset, .unset, .unset, .unset] [(.ref b16), (.ref b12), (.ref b12)])) _
    refine st25.trans ?_
    show Steps p.tables e below (T25.setTop (mkF m 95 #[.val (.int p1), .val (.int p2), .val (.int p3), .val (.int p4), .val (.int (0 : Int32)), .val .null, .val (.int (1 : Int32)), .val (.int (1 : Int32)), .val (.int (1 : Int32)), .val (.ref b2), .unset, .unset, .unset, .unset, .unset] [(.ref b12)])) _
    refine XS.goto X25.here hx rfl (pc0 := 95) (pc' := 107) rfl (hb hby at_95) (by decide) (by decide) ?_
    refine XS.astore X25.here hx rfl (hb hby at_107) rfl rfl (l' := #[.val (.int p1), .val (.int p2), .val (.int p3), .val (.int p4), .val (.int (0 : Int32)), .val .null, .val (.int (1 : Int32)), .val (.int (1 : Int32)), .val (.int (1 : Int32)), .val (.ref b2), .val (.ref b12), .unset, .unset, .unset, .unset]) rfl ?_
    refine XS.iload X25.here hx rfl (hb hby at_109) rfl ?_
    refine XS.ifNo X25.here hx rfl (hb hby at_111) rfl ((if0 _ _).trans (feq (by decide : ¬ ((1 : Int32) = (0 : Int32)))).1) ?_
    refine XS.aload X25.here hx rfl (hb hby at_114) rfl rfl ?_
    show Steps p.tables e below (T25.setTop (mkF m 116 #[.val (.int p1), .val (.int p2), .val (.int p3), .val (.int p4), .val (.int (0 : Int32)), .val .null, .val (.int (1 : Int32)), .val (.int (1 : Int32)), .val (.int (1 : Int32)), .val (.ref b2), .val (.ref b12), .unset, .unset, .unset, .unset] [(.ref b12)])) _
    refine XS.goto X25.here hx rfl (pc0 := 116) (pc' := 120) rfl (hb hby at_116) (by decide) (by decide) ?_
    refine XS.astore X25.here hx rfl (hb hby at_120) rfl rfl (l' := #[.val (.int p1), .val (.int p2), .val (.int p3), .val (.int p4), .val (.int (0 : Int32)), .val .null, .val (.int (1 : Int32)), .val (.int (1 : Int32)), .val (.int (1 : Int32)), .val (.ref b2), .val (.ref b12), .val (.ref b12), .unset, .unset, .unset]) rfl ?_
    refine XS.iload X25.here hx rfl (hb hby at_122) rfl ?_
    refine XS.ifNo X25.here hx rfl (hb hby at_124) rfl ((if0 _ _).trans (feq (by decide : ¬ ((1 : Int32) = (0 : Int32)))).1) ?_
    show Steps p.tables e below (T25.setTop (mkF m 127 #[.val (.int p1), .val (.int p2), .val (.int p3), .val (.int p4), .val (.int (0 : Int32)), .val .null, .val (.int (1 : Int32)), .val (.int (1 : Int32)), .val (.int (1 : Int32)), .val (.ref b2), .val (.ref b12), .val (.ref b12), .unset, .unset, .unset] [])) _
    refine st32 _ ?_
    show Steps p.tables e below (T32.setTop (mkF m 130 #[.val (.int p1), .val (.int p2), .val (.int p3), .val (.int p4), .val (.int (0 : Int32)), .val .null, .val (.int (1 : Int32)), .val (.int (1 : Int32)), .val (.int (1 : Int32)), .val (.ref b2), .val (.ref b12), .val (.ref b12), .unset, .unset, .unset] [(.ref b32)])) _
    refine XS.dup X32.here hx rfl (hb hby at_130) rfl rfl ?_
    refine XS.aload X32.here hx rfl (hb hby at_131) rfl rfl ?_
    show Steps p.tables e below (T32.setTop (mkF m 133 #[.val (.int p1), .val (.int p2), .val (.int p3), .val (.int p4), .val (.int (0 : Int32)), .val .null, .val (.int (1 : Int32)), .val (.int (1 : Int32)), .val (.int (1 : Int32)), .val (.ref b2), .val (.ref b12), .val (.ref b12), .unset, .unset, .unset] [(.ref b2), (.ref b32), (.ref b32)])) _
    refine st40.trans ?_
    show Steps p.tables e below (T40.setTop (mkF m 136 #[.val (.int p1), .val (.int p2), .val (.int p3), .val (.int p4), .val (.int (0 : Int32)), .val .null, .val (.int (1 : Int32)), .val (.int (1 : Int32)), .val (.int (1 : Int32)), .val (.ref b2), .val (.ref b12), .val (.ref b12), .unset, .unset, .unset] [(.ref b32)])) _
    refine XS.goto X40.here hx rfl (pc0 := 136) (pc' := 140) rfl (hb hby at_136) (by decide) (by decide) ?_
    refine XS.astore X40.here hx rfl (hb hby at_140) rfl rfl (l' := #[.val (.int p1), .val (.int p2), .val (.int p3), .val (.int p4), .val (.int (0 : Int32)), .val .null, .val (.int (1 : Int32)), .val (.int (1 : Int32)), .val (.int (1 : Int32)), .val (.ref b2), .val (.ref b12), .val (.ref b12), .val (.ref b32), .unset, .unset]) rfl ?_
    show Steps p.tables e below (T40.setTop (mkF m 142 #[.val (.int p1), .val (.int p2), .val (.int p3), .val (.int p4), .val (.int (0 : Int32)), .val .null, .val (.int (1 : Int32)), .val (.int (1 : Int32)), .val (.int (1 : Int32)), .val (.ref b2), .val (.ref b12), .val (.ref b12), .val (.ref b32), .unset, .unset] [])) _
    refine st49 _ ?_
    show Steps p.tables e below (T49.setTop (mkF m 145 #[.val (.int p1), .val (.int p2), .val (.int p3), .val (.int p4), .val (.int (0 : Int32)), .val .null, .val (.int (1 : Int32)), .val (.int (1 : Int32)), .val (.int (1 : Int32)), .val (.ref b2), .val (.ref b12), .val (.ref b12), .val (.ref b32), .unset, .unset] [(.ref b49)])) _
    refine XS.dup X49.here hx rfl (hb hby at_145) rfl rfl ?_
    refine XS.aload X49.here hx rfl (hb hby at_146) rfl rfl ?_
    refine XS.aload X49.here hx rfl (hb hby at_148) rfl rfl ?_
    refine XS.aload X49.here hx rfl (hb hby at_150) rfl rfl ?_
    show Steps p.tables e below (T49.setTop (mkF m 152 #[.val (.int p1), .val (.int p2), .val (.int p3), .val (.int p4), .val (.int (0 : Int32)), .val .null, .val (.int (1 : Int32)), .val (.int (1 : Int32)), .val (.int (1 : Int32)), .val (.ref b2), .val (.ref b12), .val (.ref b12), .val (.ref b32), .unset, .unset] [(.ref b32), (.ref b12), .null, (.ref b49), (.ref b49)])) _
    refine st59.trans ?_
    show Steps p.tables e below (T59.setTop (mkF m 155 #[.val (.int p1), .val (.int p2), .val (.int p3), .val (.int p4), .val (.int (0 : Int32)), .val .null, .val (.int (1 : Int32)), .val (.int (1 : Int32)), .val (.int (1 : Int32)), .val (.ref b2), .val (.ref b12), .val (.ref b12), .val (.ref b32), .unset, .unset] [(.ref b49)])) _
    refine XS.astore X59.here hx rfl (hb hby at_155) rfl rfl (l' := #[.val (.int p1), .val (.int p2), .val (.int p3), .val (.int p4), .val (.int (0 : Int32)), .val .null, .val (.int (1 : Int32)), .val (.int (1 : Int32)), .val (.int (1 : Int32)), .val (.ref b2), .val (.ref b12), .val (.ref b12), .val (.ref b32), .val (.ref b49), .unset]) rfl ?_
    refine XS.iload X59.here hx rfl (hb hby at_157) rfl ?_
    refine XS.ifYes X59.here hx rfl (pc0 := 159) (pc' := 171) rfl (hb hby at_159) rfl ((if0 _ _).trans (teq (by decide : (0 : Int32) = (0 : Int32))).1) (by decide) (by decide) ?_
    refine XS.iconst X59.here hx rfl (hb hby at_171) ?_
    refine XS.istore X59.here hx rfl (hb hby at_172) rfl (l' := #[.val (.int p1), .val (.int p2), .val (.int p3), .val (.int p4), .val (.int (0 : Int32)), .val .null, .val (.int (1 : Int32)), .val (.int (1 : Int32)), .val (.int (1 : Int32)), .val (.ref b2), .val (.ref b12), .val (.ref b12), .val (.ref b32), .val (.ref b49), .val (.int (0 : Int32))]) rfl ?_
    show Steps p.tables e below (T59.setTop (mkF m 174 #[.val (.int p1), .val (.int p2), .val (.int p3), .val (.int p4), .val (.int (0 : Int32)), .val .null, .val (.int (1 : Int32)), .val (.int (1 : Int32)), .val (.int (1 : Int32)), .val (.ref b2), .val (.ref b12), .val (.ref b12), .val (.ref b32), .val (.ref b49), .val (.int (0 : Int32))] [])) _
    refine XS.aload X59.here hx rfl (hb hby at_174) rfl rfl ?_
    show Steps p.tables e below (T59.setTop (mkF m 176 #[.val (.int p1), .val (.int p2), .val (.int p3), .val (.int p4), .val (.int (0 : Int32)), .val .null, .val (.int (1 : Int32)), .val (.int (1 : Int32)), .val (.int (1 : Int32)), .val (.ref b2), .val (.ref b12), .val (.ref b12), .val (.ref b32), .val (.ref b49), .val (.int (0 : Int32))] [(.ref b49)])) _
    refine st70.trans ?_
    show Steps p.tables e below (T70.setTop (mkF m 179 #[.val (.int p1), .val (.int p2), .val (.int p3), .val (.int p4), .val (.int (0 : Int32)), .val .null, .val (.int (1 : Int32)), .val (.int (1 : Int32)), .val (.int (1 : Int32)), .val (.ref b2), .val (.ref b12), .val (.ref b12), .val (.ref b32), .val (.ref b49), .val (.int (0 : Int32))] [(.int (0 : Int32))])) _
    refine XS.iload X70.here hx rfl (hb hby at_179) rfl ?_
    refine XS.icmpNo X70.here hx rfl (hb hby at_181) rfl (teq (by decide : (0 : Int32) = (0 : Int32))).2 ?_
    refine XS.iconst X70.here hx rfl (hb hby at_184) ?_
    refine XS.goto X70.here hx rfl (pc0 := 185) (pc' := 189) rfl (hb hby at_185) (by decide) (by decide) ?_
    show Steps p.tables e below (T70.setTop (mkF m 189 #[.val (.int p1), .val (.int p2), .val (.int p3), .val (.int p4), .val (.int (0 : Int32)), .val .null, .val (.int (1 : Int32)), .val (.int (1 : Int32)), .val (.int (1 : Int32)), .val (.ref b2), .val (.ref b12), .val (.ref b12), .val (.ref b32), .val (.ref b49), .val (.int (0 : Int32))] [(.int (1 : Int32))])) _
    exact retN X70 hx (t := .boolean) Bd.returns (by simp) (hb hby at_189) hr
  · show own_Qk (some (.int (1 : Int32))) [] h0 n0 _ T70.heap _
    rw [e70]
    exact ⟨rfl, N70, K59⟩
  · show CHr Z own_EL s.vm s.heap T70.vm T70.heap
    rw [hh, e70]
    exact R59.trans (CHv.at (s := s) (vm0 := T25.vm) X70 hZ25 hEL C59)
set_option maxRecDepth 65536 in
set_option maxHeartbeats 40000000 in
theorem r_law15 (l : Launch) (Z : State) (a0 : Array Value) (hw : ∀ d ∈ tables_1, d.before a0 Z = true) (ws : List Jvm.Cond) (s_L1 s_L4 s_L3 s_L5 s_L2 : Addr) (cs1 : Int32) (h0 : Heap) (n0 : Nat) (O0 : Old Z n0 h0) (G : own_Ctx Z Z.heap s_L1 s_L4 s_L3 s_L5 s_L2 cs1) (hEL : EW Z a0 own_EL) (wS : ∀ a ∈ Bundle.stringAtoms, a.before a0 Z = true) (p1 p2 p3 p4 : Int32) (kk : Int32) (hk : (p1 &&& (2147483647 : Int32)) % (6 : Int32) = kk) (hk1 : kk = (1 : Int32) ∨ kk = (2 : Int32) ∨ kk = (3 : Int32) ∨ kk = (4 : Int32) ∨ kk = (5 : Int32)) (hf0_ : ¬ ((p2 &&& (1 : Int32)) = (0 : Int32))) (hf1_ : ¬ ((p2 &&& (2 : Int32)) = (0 : Int32))) (hf2_ : ¬ ((p2 &&& (4 : Int32)) = (0 : Int32))) :
    MetFree l x (head1 (Jvm.Cond.code x code maxLocals ret :: ws) room_1) (fun a U => a = #[(.int p1), (.int p2), (.int p3), (.int p4)] ∧ Z.Warmed39 U.vm ∧ U.heap = h0 ∧ CHv Z own_EL U.vm h0) (fun _ _ _ _ _ => True) (fun _ U o U' => ∃ v L, o = .returned v ∧ own_Qk (some (.int (1 : Int32))) [] h0 n0 v U'.heap L ∧ CHr Z own_EL U.vm U.heap U'.vm U'.heap ∧ ReturnedEndW U o U' L 24 1152) := by
  have G0 := G
  obtain ⟨S_L1, E_L1, S_L4, E_L4, S_L3, E_L3, S_L5, E_L5, S_L2, E_L2, S_CS, N_CS⟩ := G
  refine MetFree.of_bodySF (plainFor_of_name pn_0) hisR ?_
  intro p e s m args below meth c s₁ Bd hml0 hP hK
  obtain ⟨rfl, hZ, hh, hC⟩ := hP
  have hx := Bd.exec
  have hby := Bd.bytes
  have hml : c.maxLocals = 15 := hml0
  have hown : s.vm.findClass "com/example/pending_actions/pendingactions/policy/AssessmentIsAutoApprovedPinLaw" = some m.cls := findClass_of_methodNamed Bd.named
  have hnm := (name_of_methodNamed Bd.named Bd.method).1
  have X0 : Stand p l e room_1 (s.setVm s.vm) m #[(.int p1), (.int p2), (.int p3), (.int p4)] below meth c s₁ [] 0 0 := Stand.of_body Bd
  have e0 : s₁.heap = h0 := by rw [← hh, Bd.state]; rfl
  have N0 := Fr.nil n0
  have hS0 : s.Since s.vm h0.size := State.WarmedH.since (State.WarmedH.refl s) _
  have hk0 : h0.size ≤ h0.size := Nat.le_refl _
  have pre0 : ∀ t, Steps p.tables e below (s₁.setTop (mkF m 0 #[.val (.int p1), .val (.int p2), .val (.int p3), .val (.int p4), .unset, .unset, .unset, .unset, .unset, .unset, .unset, .unset, .unset, .unset, .unset] [])) t → Steps p.tables e below (s₁.setTop (entryFrame m #[(.int p1), (.int p2), (.int p3), (.int p4)] maxLocals)) t := fun t k => castTop (ef_0_15 m p1 p2 p3 p4) k
  obtain ⟨_, _, ⟨T1, L1, k1, n1⟩, -, X1, ⟨Lc1, hQ1, l1, y1, z1⟩, st1⟩ := Jvm.LawKit.callS X0 hx (y := (⟨"com/example/pending_actions/pendingactions/policy/AssessmentIsAutoApprovedPinLaw", "pick", "(I)Lcom/example/pending_actions/pendingactions/policy/RiskTier;"⟩ : MethodName)) hown (mvT hZ (hw _ (List.mem_of_getElem? (i := 1) rfl))) (mvT hZ (hw _ (List.mem_of_getElem? (i := 2) rfl))) (mvT hZ (hw _ (List.mem_of_getElem? (i := 3) rfl))) (mvT hZ (hw _ (List.mem_of_getElem? (i := 4) rfl))) (by decide) (backOf (W := 0) (r_tierN l Z a0 hw [] s_L1 s_L4 s_L3 s_L5 s_L2 cs1 h0 n0 O0 G0 kk hk1) hZ (hw _ (List.mem_of_getElem? (i := 4) rfl)) (hw _ (List.mem_of_getElem? (i := 3) rfl)) (by decide) (by decide)) (g := (mkF m 11 #[.val (.int p1), .val (.int p2), .val (.int p3), .val (.int p4), .val (.int kk), .unset, .unset, .unset, .unset, .unset, .unset, .unset, .unset, .unset, .unset] [(.int kk)])) rfl (by rw [hml]; rfl) (argsL := [(.int kk)]) (rest := []) (lenOf pd_4 rfl) rfl (by show 2 * 0 + _ ≤ _; exact Nat.le_of_eq rfl) (hb hby at_11) (fun _ _ => ⟨rfl, e0, (by decide : 0 + 0 ≤ _), (by decide : 0 + 0 ≤ _)⟩)
  dsimp only [Pt.U, Pt.locs, Pt.cells, Pt.slots] at X1 l1 y1 z1 st1 hQ1
  subst l1 y1 z1
  obtain ⟨ta1, rfl, N1q, e1⟩ := hQ1
  have N1 := Fr.app N0 N1q
  obtain ⟨T2, h2, k2, X2, e2, E2, A2, st2⟩ := newP X1 hx hZ (hw _ (List.mem_of_getElem? (i := 5) rfl)) e1 (g := (mkF m 56 #[.val (.int p1), .val (.int p2), .val (.int p3), .val (.int p4), .val (.int kk), .val (.ref ta1), .val (.int (1 : Int32)), .val (.int (1 : Int32)), .val (.int (1 : Int32)), .unset, .unset, .unset, .unset, .unset, .unset] [(.int (2 : Int32))])) rfl (hb hby at_56) rfl (by decide) (cap := 2) (by decide) (by decide) (by decide) (by decide)
  obtain ⟨b2, g2⟩ : ∃ z, z = h0.size := ⟨_, rfl⟩
  have ne_s_L1_b2 : s_L1 ≠ b2 := Nat.ne_of_lt (Nat.lt_of_lt_of_le (E_L1.ext O0.2).lt (Nat.le_of_eq g2.symm))
  have ne_s_L4_b2 : s_L4 ≠ b2 := Nat.ne_of_lt (Nat.lt_of_lt_of_le (E_L4.ext O0.2).lt (Nat.le_of_eq g2.symm))
  have ne_s_L3_b2 : s_L3 ≠ b2 := Nat.ne_of_lt (Nat.lt_of_lt_of_le (E_L3.ext O0.2).lt (Nat.le_of_eq g2.symm))
  have ne_s_L5_b2 : s_L5 ≠ b2 := Nat.ne_of_lt (Nat.lt_of_lt_of_le (E_L5.ext O0.2).lt (Nat.le_of_eq g2.symm))
  have ne_s_L2_b2 : s_L2 ≠ b2 := Nat.ne_of_lt (Nat.lt_of_lt_of_le (E_L2.ext O0.2).lt (Nat.le_of_eq g2.symm))
  have g_b2 : n0 ≤ b2 := Nat.le_trans (O0.1 ▸ O0.2.1) (Nat.le_of_eq g2.symm)
  have sz_b2 : h0.size ≤ b2 := Nat.le_trans (Keep.refl h0 []).1 (Nat.le_of_eq g2.symm)
  have sn2 : Safe Z own_EL s.vm h0 b2 := Safe.new (Nat.le_of_eq g2.symm)
  rw [← g2] at A2 st2
  have O2 := O0.ext E2
  have K2 : Keep h0 h2 [] := (Keep.refl h0 []).ext E2
  have sf3 := Safe.ext E2 hC sn2
  have C2 : CHv Z own_EL s.vm h2 := hC.ext E2
  have R2 : CHr Z own_EL s.vm h0 s.vm h2 := (CHr.refl hC).trans (CHr.ext E2 hC)
  have hk2 := Nat.le_trans hk0 E2.1
  have V2 : Arv Z h2 b2 k2 .char (2 : Int32) [(.int (0 : Int32)), (.int (0 : Int32))] (.int (0 : Int32)) := (Arv.new A2 (by decide)).pad (pad_rep [] (.int (0 : Int32)) 2)
  have vc4 := V2
  obtain ⟨cl4, Ar4, qk4, S4, Nn4, Hs4, Gf4⟩ := vc4
  have hin4 : ¬ ((0 : Int32) < 0 ∨ cl4.slots.size ≤ ((0 : Int32)).toNatClampNeg) := inb_of S4 ⟨by decide, by decide⟩
  obtain ⟨T5, h5, X5, e5, W5, st5⟩ := stC X2 hx hZ e2 Ar4 (j := (0 : Int32)) hin4 (g := (mkF m 69 #[.val (.int p1), .val (.int p2), .val (.int p3), .val (.int p4), .val (.int kk), .val (.ref ta1), .val (.int (1 : Int32)), .val (.int (1 : Int32)), .val (.int (1 : Int32)), .val (.ref b2), .unset, .unset, .unset, .unset, .unset] [(.int ((p3 &&& (255 : Int32)).toUInt32.toUInt16.toUInt32.toInt32)), (.int (0 : Int32)), (.ref b2)])) rfl rfl (hb hby at_69)
  have O5 := O2.wr W5 g_b2
  have K5 : Keep h0 h5 [] := K2.wr W5 (Or.inr sz_b2)
  have N5 := Fr.snoc X5 N1 g_b2
  have sf6 := Safe.wr W5 sf3 C2 sf3
  have C5 : CHv Z own_EL s.vm h5 := C2.wr W5 sf3
  have R5 : CHr Z own_EL s.vm h0 s.vm h5 := R2.trans (CHr.wr W5 sf3 C2)
  have hk5 := Nat.le_trans hk2 (Keep.of_wr W5).1
  have f7 : Arv Z h5 b2 k2 .char (2 : Int32) [(.int (nar .char ((p3 &&& (255 : Int32)).toUInt32.toUInt16.toUInt32.toInt32))), (.int (0 : Int32))] (.int (0 : Int32)) := Arv.set Ar4 qk4 S4 Nn4 Hs4 Gf4 (fits_nar_char _) W5 0 rfl (Nat.le_of_ble_eq_true rfl)
  have vc8 := f7
  obtain ⟨cl8, Ar8, qk8, S8, Nn8, Hs8, Gf8⟩ := vc8
  have hin8 : ¬ ((1 : Int32) < 0 ∨ cl8.slots.size ≤ ((1 : Int32)).toNatClampNeg) := inb_of S8 ⟨by decide, by decide⟩
  obtain ⟨T9, h9, X9, e9, W9, st9⟩ := stC X5 hx hZ e5 Ar8 (j := (1 : Int32)) hin8 (g := (mkF m 79 #[.val (.int p1), .val (.int p2), .val (.int p3), .val (.int p4), .val (.int kk), .val (.ref ta1), .val (.int (1 : Int32)), .val (.int (1 : Int32)), .val (.int (1 : Int32)), .val (.ref b2), .unset, .unset, .unset, .unset, .unset] [(.int ((p4 &&& (255 : Int32)).toUInt32.toUInt16.toUInt32.toInt32)), (.int (1 : Int32)), (.ref b2)])) rfl rfl (hb hby at_79)
  have O9 := O5.wr W9 g_b2
  have K9 : Keep h0 h9 [] := K5.wr W9 (Or.inr sz_b2)
  have N9 := Fr.snoc X9 N5 g_b2
  have sf10 := Safe.wr W9 sf6 C5 sf6
  have C9 : CHv Z own_EL s.vm h9 := C5.wr W9 sf6
  have R9 : CHr Z own_EL s.vm h0 s.vm h9 := R5.trans (CHr.wr W9 sf6 C5)
  have hk9 := Nat.le_trans hk5 (Keep.of_wr W9).1
  have f11 : Arv Z h9 b2 k2 .char (2 : Int32) [(.int (nar .char ((p3 &&& (255 : Int32)).toUInt32.toUInt16.toUInt32.toInt32))), (.int (nar .char ((p4 &&& (255 : Int32)).toUInt32.toUInt16.toUInt32.toInt32)))] (.int (0 : Int32)) := Arv.set Ar8 qk8 S8 Nn8 Hs8 Gf8 (fits_nar_char _) W9 1 rfl (Nat.le_of_ble_eq_true rfl)
  obtain ⟨T12, h12, X12, e12, E12, A12, D12, -, st12⟩ := newO X9 hx hZ hown (hw _ (List.mem_of_getElem? (i := 6) rfl)) (hw _ (List.mem_of_getElem? (i := 7) rfl)) (hw _ (List.mem_of_getElem? (i := 8) rfl)) e9 (g := (mkF m 85 #[.val (.int p1), .val (.int p2), .val (.int p3), .val (.int p4), .val (.int kk), .val (.ref ta1), .val (.int (1 : Int32)), .val (.int (1 : Int32)), .val (.int (1 : Int32)), .val (.ref b2), .unset, .unset, .unset, .unset, .unset] [])) rfl (hb hby at_85) (by decide) (by decide)
  obtain ⟨b12, g12⟩ : ∃ z, z = h9.size := ⟨_, rfl⟩
  have ne_b2_b12 : b2 ≠ b12 := Nat.ne_of_lt (Nat.lt_of_lt_of_le f11.lt (Nat.le_of_eq g12.symm))
  have ne_s_L1_b12 : s_L1 ≠ b12 := Nat.ne_of_lt (Nat.lt_of_lt_of_le (E_L1.ext O9.2).lt (Nat.le_of_eq g12.symm))
  have ne_s_L4_b12 : s_L4 ≠ b12 := Nat.ne_of_lt (Nat.lt_of_lt_of_le (E_L4.ext O9.2).lt (Nat.le_of_eq g12.symm))
  have ne_s_L3_b12 : s_L3 ≠ b12 := Nat.ne_of_lt (Nat.lt_of_lt_of_le (E_L3.ext O9.2).lt (Nat.le_of_eq g12.symm))
  have ne_s_L5_b12 : s_L5 ≠ b12 := Nat.ne_of_lt (Nat.lt_of_lt_of_le (E_L5.ext O9.2).lt (Nat.le_of_eq g12.symm))
  have ne_s_L2_b12 : s_L2 ≠ b12 := Nat.ne_of_lt (Nat.lt_of_lt_of_le (E_L2.ext O9.2).lt (Nat.le_of_eq g12.symm))
  have g_b12 : n0 ≤ b12 := Nat.le_trans (O9.1 ▸ O9.2.1) (Nat.le_of_eq g12.symm)
  have sz_b12 : h0.size ≤ b12 := Nat.le_trans K9.1 (Nat.le_of_eq g12.symm)
  have sn12 : Safe Z own_EL s.vm h9 b12 := Safe.new (Nat.le_of_eq g12.symm)
  rw [← g12] at A12 D12 st12
  have f13 := f11.ext E12
  have O12 := O9.ext E12
  have K12 : Keep h0 h12 [] := K9.ext E12
  have sf14 := Safe.ext E12 C9 sf10
  have sf15 := Safe.ext E12 C9 sn12
  have C12 : CHv Z own_EL s.vm h12 := C9.ext E12
  have R12 : CHr Z own_EL s.vm h0 s.vm h12 := R9.trans (CHr.ext E12 C9)
  have hk12 := Nat.le_trans hk9 E12.1
  have F12_21 : Fld Z h12 b12 "java/lang/String" "value" "[B" .null := D12 (Or.inr (hw _ (List.mem_of_getElem? (i := 21) rfl))) (ty := (.array .byte)) (by decide)
  have F12_22 : Fld Z h12 b12 "java/lang/String" "coder" "B" (.int (0 : Int32)) := D12 (Or.inr (hw _ (List.mem_of_getElem? (i := 22) rfl))) (ty := .byte) (by decide)
  obtain ⟨T16, h16, k16, X16, e16, E16, A16, st16⟩ := newP X12 hx hZ (hw _ (List.mem_of_getElem? (i := 5) rfl)) e12 (g := (mkF m 90 #[.val (.int p1), .val (.int p2), .val (.int p3), .val (.int p4), .val (.int kk), .val (.ref ta1), .val (.int (1 : Int32)), .val (.int (1 : Int32)), .val (.int (1 : Int32)), .val (.ref b2), .unset, .unset, .unset, .unset, .unset] [(.int (0 : Int32)), (.ref b12), (.ref b12)])) rfl (hb hby at_90) rfl (by decide) (cap := 0) (by decide) (by decide) (by decide) (by decide)
  obtain ⟨b16, g16⟩ : ∃ z, z = h12.size := ⟨_, rfl⟩
  have ne_b2_b16 : b2 ≠ b16 := Nat.ne_of_lt (Nat.lt_of_lt_of_le f13.lt (Nat.le_of_eq g16.symm))
  have ne_b12_b16 : b12 ≠ b16 := Nat.ne_of_lt (Nat.lt_of_lt_of_le A12.lt (Nat.le_of_eq g16.symm))
  have ne_s_L1_b16 : s_L1 ≠ b16 := Nat.ne_of_lt (Nat.lt_of_lt_of_le (E_L1.ext O12.2).lt (Nat.le_of_eq g16.symm))
  have ne_s_L4_b16 : s_L4 ≠ b16 := Nat.ne_of_lt (Nat.lt_of_lt_of_le (E_L4.ext O12.2).lt (Nat.le_of_eq g16.symm))
  have ne_s_L3_b16 : s_L3 ≠ b16 := Nat.ne_of_lt (Nat.lt_of_lt_of_le (E_L3.ext O12.2).lt (Nat.le_of_eq g16.symm))
  have ne_s_L5_b16 : s_L5 ≠ b16 := Nat.ne_of_lt (Nat.lt_of_lt_of_le (E_L5.ext O12.2).lt (Nat.le_of_eq g16.symm))
  have ne_s_L2_b16 : s_L2 ≠ b16 := Nat.ne_of_lt (Nat.lt_of_lt_of_le (E_L2.ext O12.2).lt (Nat.le_of_eq g16.symm))
  have g_b16 : n0 ≤ b16 := Nat.le_trans (O12.1 ▸ O12.2.1) (Nat.le_of_eq g16.symm)
  have sz_b16 : h0.size ≤ b16 := Nat.le_trans K12.1 (Nat.le_of_eq g16.symm)
  have sn16 : Safe Z own_EL s.vm h12 b16 := Safe.new (Nat.le_of_eq g16.symm)
  rw [← g16] at A16 st16
  have f17 := f13.ext E16
  have f18 := A12.ext E16
  have f19 := F12_21.ext E16
  have f20 := F12_22.ext E16
  have O16 := O12.ext E16
  have K16 : Keep h0 h16 [] := K12.ext E16
  have sf21 := Safe.ext E16 C12 sf14
  have sf22 := Safe.ext E16 C12 sf15
  have sf23 := Safe.ext E16 C12 sn16
  have C16 : CHv Z own_EL s.vm h16 := C12.ext E16
  have R16 : CHr Z own_EL s.vm h0 s.vm h16 := R12.trans (CHr.ext E16 C12)
  have hk16 := Nat.le_trans hk12 E16.1
  have V16 : Arv Z h16 b16 k16 .char (0 : Int32) [] (.int (0 : Int32)) := Arv.new A16 (by decide)
  obtain ⟨LL24, X24, N24⟩ : ∃ LL, Stand p l e room_1 (s.setVm s.vm) m #[(.int p1), (.int p2), (.int p3), (.int p4)] below meth c T16 LL 3 6 ∧ Fr n0 LL := ⟨_, X16, N9⟩
  obtain ⟨_, _, ⟨T25, L25, k25, n25⟩, -, X25, S25a, z25a, ⟨Lc25, hQ25, l25, y25, z25, R25q⟩, st25⟩ := X24.specialBackS hx (y := (⟨"java/lang/String", "<init>", "([C)V"⟩ : MethodName)) rfl hown (mvT hZ (hw _ (List.mem_of_getElem? (i := 9) rfl))) (mvT hZ (hw _ (List.mem_of_getElem? (i := 10) rfl))) (mvT hZ (hw _ (List.mem_of_getElem? (i := 11) rfl))) (by decide) (backOfSH (s := s) (vm0 := s.vm) (EL := own_EL) (W := 1) (r_s0 l Z a0 hw [] s_L1 s_L4 s_L3 s_L5 s_L2 cs1 h16 n0 O16 G0 hEL wS b12 b16 k16 f18 g_b12 f20 f19 V16 (Ne.symm ne_b12_b16)) hZ (hw _ (List.mem_of_getElem? (i := 11) rfl)) (hw _ (List.mem_of_getElem? (i := 8) rfl)) (by decide) (by decide) hEL C16) (g := (mkF m 92 #[.val (.int p1), .val (.int p2), .val (.int p3), .val (.int p4), .val (.int kk), .val (.ref ta1), .val (.int (1 : Int32)), .val (.int (1 : Int32)), .val (.int (1 : Int32)), .val (.ref b2), .unset, .unset, .unset, .unset, .unset] [(.ref b16), (.ref b12), (.ref b12)])) rfl (by rw [hml]; rfl) (Steps.refl _) (a := b12) (argsL := [(.ref b16)]) (rest := [(.ref b12)]) (lenOf pd_5 rfl) rfl (by show 2 * 0 + _ ≤ _; exact Nat.le_of_eq rfl) (hb hby at_92) (fun _ _ => ⟨rfl, e16, (by decide : 3 + 2 ≤ _), (by decide : 6 + 4 ≤ _)⟩)
  dsimp only [Pt.U, Pt.locs, Pt.cells, Pt.slots] at X25 S25a z25a l25 y25 z25 st25 hQ25 R25q
  subst l25 y25 z25
  have X25 : Stand p l e room_1 (s.setVm T25.vm) m #[(.int p1), (.int p2), (.int p3), (.int p4)] below meth c T25 _ _ _ := X25
  have S25f : s.Since T25.vm T25.heap.size := foldS (T := T16) hS0 (by rw [e16]; exact hk16) S25a z25a
  have hZ25 : Z.Warmed39 T25.vm := State.Warmed39.trans (t := s.setVm s.vm) hZ S25a.1
  have hown25 : (s.setVm T25.vm).vm.findClass "com/example/pending_actions/pendingactions/policy/AssessmentIsAutoApprovedPinLaw" = some m.cls := by rw [show (s.setVm T25.vm).vm = T25.vm from rfl, S25a.1.alike.findClass]; exact hown
  obtain ⟨rfl, N25q, Kq25⟩ := hQ25
  have N25 := Fr.app N24 N25q
  have f26 := f17.keep Kq25 (fun q => (List.mem_cons.mp q).elim ne_b2_b12 (fun q => nomatch q))
  have f27 := f18.keep Kq25
  have f28 := V16.keep Kq25 (fun q => (List.mem_cons.mp q).elim (Ne.symm ne_b12_b16) (fun q => nomatch q))
  have O25 := O16.keep Kq25 (allS g_b12 all0)
  have K25 : Keep h0 T25.heap [] := K16.trans Kq25 (allS (Or.inr sz_b12) all0)
  have sf29 := R25q.safe f17.lt sf21
  have sf30 := R25q.safe f18.lt sf22
  have sf31 := R25q.safe V16.lt sf23
  have R25 : CHr Z own_EL s.vm h0 T25.vm T25.heap := R16.trans R25q
  have C25 := R25q.1
  obtain ⟨T32, h32, X32, e32, E32, A32, D32, -, st32⟩ := newO X25 hx hZ25 hown25 (hw _ (List.mem_of_getElem? (i := 6) rfl)) (hw _ (List.mem_of_getElem? (i := 7) rfl)) (hw _ (List.mem_of_getElem? (i := 8) rfl)) rfl (g := (mkF m 127 #[.val (.int p1), .val (.int p2), .val (.int p3), .val (.int p4), .val (.int kk), .val (.ref ta1), .val (.int (1 : Int32)), .val (.int (1 : Int32)), .val (.int (1 : Int32)), .val (.ref b2), .val (.ref b12), .val (.ref b12), .unset, .unset, .unset] [])) rfl (hb hby at_127) (by decide) (by decide)
  obtain ⟨b32, g32⟩ : ∃ z, z = T25.heap.size := ⟨_, rfl⟩
  have ne_b2_b32 : b2 ≠ b32 := Nat.ne_of_lt (Nat.lt_of_lt_of_le f26.lt (Nat.le_of_eq g32.symm))
  have ne_b12_b32 : b12 ≠ b32 := Nat.ne_of_lt (Nat.lt_of_lt_of_le f27.lt (Nat.le_of_eq g32.symm))
  have ne_b16_b32 : b16 ≠ b32 := Nat.ne_of_lt (Nat.lt_of_lt_of_le f28.lt (Nat.le_of_eq g32.symm))
  have ne_s_L1_b32 : s_L1 ≠ b32 := Nat.ne_of_lt (Nat.lt_of_lt_of_le (E_L1.ext O25.2).lt (Nat.le_of_eq g32.symm))
  have ne_s_L4_b32 : s_L4 ≠ b32 := Nat.ne_of_lt (Nat.lt_of_lt_of_le (E_L4.ext O25.2).lt (Nat.le_of_eq g32.symm))
  have ne_s_L3_b32 : s_L3 ≠ b32 := Nat.ne_of_lt (Nat.lt_of_lt_of_le (E_L3.ext O25.2).lt (Nat.le_of_eq g32.symm))
  have ne_s_L5_b32 : s_L5 ≠ b32 := Nat.ne_of_lt (Nat.lt_of_lt_of_le (E_L5.ext O25.2).lt (Nat.le_of_eq g32.symm))
  have ne_s_L2_b32 : s_L2 ≠ b32 := Nat.ne_of_lt (Nat.lt_of_lt_of_le (E_L2.ext O25.2).lt (Nat.le_of_eq g32.symm))
  have g_b32 : n0 ≤ b32 := Nat.le_trans (O25.1 ▸ O25.2.1) (Nat.le_of_eq g32.symm)
  have sz_b32 : h0.size ≤ b32 := Nat.le_trans K25.1 (Nat.le_of_eq g32.symm)
  have sn32 : Safe Z own_EL T25.vm T25.heap b32 := Safe.new (Nat.le_of_eq g32.symm)
  rw [← g32] at A32 D32 st32
  have f33 := f26.ext E32
  have f34 := f27.ext E32
  have f35 := f28.ext E32
  have O32 := O25.ext E32
  have K32 : Keep h0 h32 [] := K25.ext E32
  have sf36 := Safe.ext E32 C25 sf29
  have sf37 := Safe.ext E32 C25 sf30
  have sf38 := Safe.ext E32 C25 sf31
  have sf39 := Safe.ext E32 C25 sn32
  have C32 : CHv Z own_EL T25.vm h32 := C25.ext E32
  have R32 : CHr Z own_EL s.vm h0 T25.vm h32 := R25.trans (CHr.ext E32 C25)
  have hk32 := Nat.le_trans (Nat.le_refl _) E32.1
  have F32_21 : Fld Z h32 b32 "java/lang/String" "value" "[B" .null := D32 (Or.inr (hw _ (List.mem_of_getElem? (i := 21) rfl))) (ty := (.array .byte)) (by decide)
  have F32_22 : Fld Z h32 b32 "java/lang/String" "coder" "B" (.int (0 : Int32)) := D32 (Or.inr (hw _ (List.mem_of_getElem? (i := 22) rfl))) (ty := .byte) (by decide)
  obtain ⟨_, _, ⟨T40, L40, k40, n40⟩, -, X40, ⟨Lc40, hQ40, l40, y40, z40⟩, st40⟩ := X32.specialBack hx (y := (⟨"java/lang/String", "<init>", "([C)V"⟩ : MethodName)) rfl hown25 (mvT hZ25 (hw _ (List.mem_of_getElem? (i := 9) rfl))) (mvT hZ25 (hw _ (List.mem_of_getElem? (i := 10) rfl))) (mvT hZ25 (hw _ (List.mem_of_getElem? (i := 11) rfl))) (by decide) (backOf (W := 1) (r_s2 l Z a0 hw [] s_L1 s_L4 s_L3 s_L5 s_L2 cs1 h32 n0 O32 G0 b32 b2 k2 (nar .char ((p3 &&& (255 : Int32)).toUInt32.toUInt16.toUInt32.toInt32)) (nar .char ((p4 &&& (255 : Int32)).toUInt32.toUInt16.toUInt32.toInt32)) A32 g_b32 F32_22 F32_21 f33 (own_ch _) (own_ch _) ne_b2_b32) hZ25 (hw _ (List.mem_of_getElem? (i := 11) rfl)) (hw _ (List.mem_of_getElem? (i := 8) rfl)) (by decide) (by decide)) (g := (mkF m 133 #[.val (.int p1), .val (.int p2), .val (.int p3), .val (.int p4), .val (.int kk), .val (.ref ta1), .val (.int (1 : Int32)), .val (.int (1 : Int32)), .val (.int (1 : Int32)), .val (.ref b2), .val (.ref b12), .val (.ref b12), .unset, .unset, .unset] [(.ref b2), (.ref b32), (.ref b32)])) rfl (by rw [hml]; rfl) (Steps.refl _) (a := b32) (argsL := [(.ref b2)]) (rest := [(.ref b32)]) (lenOf pd_5 rfl) rfl (by show 2 * 0 + _ ≤ _; exact Nat.le_of_eq rfl) (hb hby at_133) (fun _ _ => ⟨rfl, e32, (by decide : 6 + 1 ≤ _), (by decide : 14 + 2 ≤ _)⟩)
  dsimp only [Pt.U, Pt.locs, Pt.cells, Pt.slots] at X40 l40 y40 z40 st40 hQ40
  subst l40 y40 z40
  obtain ⟨rfl, N40q, Kq40⟩ := hQ40
  have N40 := Fr.app N25 N40q
  have f41 := f33.keep Kq40 (fun q => (List.mem_cons.mp q).elim ne_b2_b32 (fun q => nomatch q))
  have f42 := f34.keep Kq40
  have f43 := f35.keep Kq40 (fun q => (List.mem_cons.mp q).elim ne_b16_b32 (fun q => nomatch q))
  have f44 := A32.keep Kq40
  have O40 := O32.keep Kq40 (allS g_b32 all0)
  have K40 : Keep h0 T40.heap [] := K32.trans Kq40 (allS (Or.inr sz_b32) all0)
  have sf45 := Safe.keep Kq40 (sfS sf39 sf0) C32 sf36
  have sf46 := Safe.keep Kq40 (sfS sf39 sf0) C32 sf37
  have sf47 := Safe.keep Kq40 (sfS sf39 sf0) C32 sf38
  have sf48 := Safe.keep Kq40 (sfS sf39 sf0) C32 sf39
  have C40 : CHv Z own_EL T25.vm T40.heap := C32.keep Kq40 (sfS sf39 sf0)
  have R40 : CHr Z own_EL s.vm h0 T25.vm T40.heap := R32.trans (CHr.keep Kq40 (sfS sf39 sf0) C32)
  have hk40 := Nat.le_trans hk32 Kq40.1
  obtain ⟨T49, h49, X49, e49, E49, A49, D49, -, st49⟩ := newO X40 hx hZ25 hown25 (hw _ (List.mem_of_getElem? (i := 27) rfl)) (hw _ (List.mem_of_getElem? (i := 28) rfl)) (hw _ (List.mem_of_getElem? (i := 29) rfl)) rfl (g := (mkF m 142 #[.val (.int p1), .val (.int p2), .val (.int p3), .val (.int p4), .val (.int kk), .val (.ref ta1), .val (.int (1 : Int32)), .val (.int (1 : Int32)), .val (.int (1 : Int32)), .val (.ref b2), .val (.ref b12), .val (.ref b12), .val (.ref b32), .unset, .unset] [])) rfl (hb hby at_142) (by decide) (by decide)
  obtain ⟨b49, g49⟩ : ∃ z, z = T40.heap.size := ⟨_, rfl⟩
  have ne_b2_b49 : b2 ≠ b49 := Nat.ne_of_lt (Nat.lt_of_lt_of_le f41.lt (Nat.le_of_eq g49.symm))
  have ne_b12_b49 : b12 ≠ b49 := Nat.ne_of_lt (Nat.lt_of_lt_of_le f42.lt (Nat.le_of_eq g49.symm))
  have ne_b16_b49 : b16 ≠ b49 := Nat.ne_of_lt (Nat.lt_of_lt_of_le f43.lt (Nat.le_of_eq g49.symm))
  have ne_b32_b49 : b32 ≠ b49 := Nat.ne_of_lt (Nat.lt_of_lt_of_le f44.lt (Nat.le_of_eq g49.symm))
  have ne_s_L1_b49 : s_L1 ≠ b49 := Nat.ne_of_lt (Nat.lt_of_lt_of_le (E_L1.ext O40.2).lt (Nat.le_of_eq g49.symm))
  have ne_s_L4_b49 : s_L4 ≠ b49 := Nat.ne_of_lt (Nat.lt_of_lt_of_le (E_L4.ext O40.2).lt (Nat.le_of_eq g49.symm))
  have ne_s_L3_b49 : s_L3 ≠ b49 := Nat.ne_of_lt (Nat.lt_of_lt_of_le (E_L3.ext O40.2).lt (Nat.le_of_eq g49.symm))
  have ne_s_L5_b49 : s_L5 ≠ b49 := Nat.ne_of_lt (Nat.lt_of_lt_of_le (E_L5.ext O40.2).lt (Nat.le_of_eq g49.symm))
  have ne_s_L2_b49 : s_L2 ≠ b49 := Nat.ne_of_lt (Nat.lt_of_lt_of_le (E_L2.ext O40.2).lt (Nat.le_of_eq g49.symm))
  have g_b49 : n0 ≤ b49 := Nat.le_trans (O40.1 ▸ O40.2.1) (Nat.le_of_eq g49.symm)
  have sz_b49 : h0.size ≤ b49 := Nat.le_trans K40.1 (Nat.le_of_eq g49.symm)
  have sn49 : Safe Z own_EL T25.vm T40.heap b49 := Safe.new (Nat.le_of_eq g49.symm)
  rw [← g49] at A49 D49 st49
  have f50 := f41.ext E49
  have f51 := f42.ext E49
  have f52 := f43.ext E49
  have f53 := f44.ext E49
  have O49 := O40.ext E49
  have K49 : Keep h0 h49 [] := K40.ext E49
  have sf54 := Safe.ext E49 C40 sf45
  have sf55 := Safe.ext E49 C40 sf46
  have sf56 := Safe.ext E49 C40 sf47
  have sf57 := Safe.ext E49 C40 sf48
  have sf58 := Safe.ext E49 C40 sn49
  have C49 : CHv Z own_EL T25.vm h49 := C40.ext E49
  have R49 : CHr Z own_EL s.vm h0 T25.vm h49 := R40.trans (CHr.ext E49 C40)
  have hk49 := Nat.le_trans hk40 E49.1
  have F49_35 : Fld Z h49 b49 "com/example/pending_actions/pendingactions/policy/Assessment" "tier" "Lcom/example/pending_actions/pendingactions/policy/RiskTier;" .null := D49 (Or.inr (hw _ (List.mem_of_getElem? (i := 35) rfl))) (ty := (.object "com/example/pending_actions/pendingactions/policy/RiskTier")) (by decide)
  have F49_37 : Fld Z h49 b49 "com/example/pending_actions/pendingactions/policy/Assessment" "decider" "Ljava/lang/String;" .null := D49 (Or.inr (hw _ (List.mem_of_getElem? (i := 37) rfl))) (ty := (.object "java/lang/String")) (by decide)
  have F49_39 : Fld Z h49 b49 "com/example/pending_actions/pendingactions/policy/Assessment" "policyVersion" "Ljava/lang/String;" .null := D49 (Or.inr (hw _ (List.mem_of_getElem? (i := 39) rfl))) (ty := (.object "java/lang/String")) (by decide)
  obtain ⟨_, _, ⟨T59, L59, k59, n59⟩, -, X59, ⟨Lc59, hQ59, l59, y59, z59⟩, st59⟩ := X49.specialBack hx (y := (⟨"com/example/pending_actions/pendingactions/policy/Assessment", "<init>", "(Lcom/example/pending_actions/pendingactions/policy/RiskTier;Ljava/lang/String;Ljava/lang/String;)V"⟩ : MethodName)) rfl hown25 (mvT hZ25 (hw _ (List.mem_of_getElem? (i := 30) rfl))) (mvT hZ25 (hw _ (List.mem_of_getElem? (i := 31) rfl))) (mvT hZ25 (hw _ (List.mem_of_getElem? (i := 32) rfl))) (by decide) (backOf (W := 1) (r_ai7 l Z a0 hw [] s_L1 s_L4 s_L3 s_L5 s_L2 cs1 h49 n0 O49 G0 b49 ta1 b12 b32 A49 g_b49 F49_35 F49_37 F49_39) hZ25 (hw _ (List.mem_of_getElem? (i := 32) rfl)) (hw _ (List.mem_of_getElem? (i := 29) rfl)) (by decide) (by decide)) (g := (mkF m 152 #[.val (.int p1), .val (.int p2), .val (.int p3), .val (.int p4), .val (.int kk), .val (.ref ta1), .val (.int (1 : Int32)), .val (.int (1 : Int32)), .val (.int (1 : Int32)), .val (.ref b2), .val (.ref b12), .val (.ref b12), .val (.ref b32), .unset, .unset] [(.ref b32), (.ref b12), (.ref ta1), (.ref b49), (.ref b49)])) rfl (by rw [hml]; rfl) (Steps.refl _) (a := b49) (argsL := [(.ref ta1), (.ref b12), (.ref b32)]) (rest := [(.ref b49)]) (lenOf pd_6 rfl) rfl (by show 2 * 0 + _ ≤ _; exact Nat.le_of_eq rfl) (hb hby at_152) (fun _ _ => ⟨rfl, e49, (by decide : 8 + 0 ≤ _), (by decide : 19 + 0 ≤ _)⟩)
  dsimp only [Pt.U, Pt.locs, Pt.cells, Pt.slots] at X59 l59 y59 z59 st59 hQ59
  subst l59 y59 z59
  obtain ⟨rfl, N59q, Kq59, Ft59, Fd59⟩ := hQ59
  have N59 := Fr.app N40 N59q
  have f60 := f50.keep Kq59 (fun q => (List.mem_cons.mp q).elim ne_b2_b49 (fun q => nomatch q))
  have f61 := f51.keep Kq59
  have f62 := f52.keep Kq59 (fun q => (List.mem_cons.mp q).elim ne_b16_b49 (fun q => nomatch q))
  have f63 := f53.keep Kq59
  have f64 := A49.keep Kq59
  have O59 := O49.keep Kq59 (allS g_b49 all0)
  have K59 : Keep h0 T59.heap [] := K49.trans Kq59 (allS (Or.inr sz_b49) all0)
  have sf65 := Safe.keep Kq59 (sfS sf58 sf0) C49 sf54
  have sf66 := Safe.keep Kq59 (sfS sf58 sf0) C49 sf55
  have sf67 := Safe.keep Kq59 (sfS sf58 sf0) C49 sf56
  have sf68 := Safe.keep Kq59 (sfS sf58 sf0) C49 sf57
  have sf69 := Safe.keep Kq59 (sfS sf58 sf0) C49 sf58
  have C59 : CHv Z own_EL T25.vm T59.heap := C49.keep Kq59 (sfS sf58 sf0)
  have R59 : CHr Z own_EL s.vm h0 T25.vm T59.heap := R49.trans (CHr.keep Kq59 (sfS sf58 sf0) C49)
  have hk59 := Nat.le_trans hk49 Kq59.1
  obtain ⟨cq70, kq70, q70a, q70b, q70c⟩ := isOf hZ25 rfl f64
  obtain ⟨_, _, ⟨T70, L70, k70, n70⟩, -, X70, ⟨Lc70, hQ70, l70, y70, z70⟩, st70⟩ := X59.virtualBack hx (y := (⟨"com/example/pending_actions/pendingactions/policy/Assessment", "isAutoApproved", "()Z"⟩ : MethodName)) (z := (⟨"com/example/pending_actions/pendingactions/policy/Assessment", "isAutoApproved", "()Z"⟩ : MethodName)) hown25 (mvT hZ25 (hw _ (List.mem_of_getElem? (i := 40) rfl))) (mvT hZ25 (hw _ (List.mem_of_getElem? (i := 41) rfl))) (notFace_of_selects (args := #[]) (mvT hZ25 (hw _ (List.mem_of_getElem? (i := 43) rfl)))) (mvT hZ25 (hw _ (List.mem_of_getElem? (i := 43) rfl))) (mvT hZ25 (hw _ (List.mem_of_getElem? (i := 42) rfl))) (by decide) (backOf (W := 0) (r_aa3 l Z a0 hw [] s_L1 s_L4 s_L3 s_L5 s_L2 cs1 T59.heap n0 O59 G0 b49 ta1 b12 Ft59 Fd59) hZ25 (hw _ (List.mem_of_getElem? (i := 44) rfl)) (hw _ (List.mem_of_getElem? (i := 29) rfl)) (by decide) (by decide)) q70a q70c (g := (mkF m 176 #[.val (.int p1), .val (.int p2), .val (.int p3), .val (.int p4), .val (.int kk), .val (.ref ta1), .val (.int (1 : Int32)), .val (.int (1 : Int32)), .val (.int (1 : Int32)), .val (.ref b2), .val (.ref b12), .val (.ref b12), .val (.ref b32), .val (.ref b49), .val (.int (1 : Int32))] [(.ref b49)])) rfl (by rw [hml]; rfl) (Steps.refl _) (argsL := []) (rest := []) (lenOf pd_7 rfl) rfl (by show 2 * 0 + _ ≤ _; exact Nat.le_of_eq rfl) (hb hby at_176) (fun _ _ => ⟨rfl, rfl, (by decide : 8 + 0 ≤ _), (by decide : 19 + 0 ≤ _)⟩)
  dsimp only [Pt.U, Pt.locs, Pt.cells, Pt.slots] at X70 l70 y70 z70 st70 hQ70
  subst l70 y70 z70
  obtain ⟨rfl, N70q, e70⟩ := hQ70
  have N70 := Fr.app N59 N70q
  obtain ⟨fs, hr, hrun, hended, hRW⟩ := X70.leaveW S25f (by rw [e70]; exact hk59) (v := some (.int (1 : Int32))) (fun h => by rw [Bd.returns] at h; cases h)
  refine ⟨_, _, pre0 _ ?_, hrun, hended, _, _, rfl, ?_, ?_, hRW.1, hRW.2.1, hRW.2.2.1, hRW.2.2.2.mono (by decide) (by decide)⟩
  · show Steps p.tables e below (s₁.setTop (mkF m 0 #[.val (.int p1), .val (.int p2), .val (.int p3), .val (.int p4), .unset, .unset, .unset, .unset, .unset, .unset, .unset, .unset, .unset, .unset, .unset] [])) _
    refine XS.iloadN X0.here hx rfl (hb hby at_0) rfl ?_
    show Steps p.tables e below (s₁.setTop (mkF m 1 #[.val (.int p1), .val (.int p2), .val (.int p3), .val (.int p4), .unset, .unset, .unset, .unset, .unset, .unset, .unset, .unset, .unset, .unset, .unset] [(.int p1)])) _
    refine X0.ldcInt hx hown (mvT hZ (hw _ (List.mem_of_getElem? (i := 0) rfl))) (g := (mkF m 1 #[.val (.int p1), .val (.int p2), .val (.int p3), .val (.int p4), .unset, .unset, .unset, .unset, .unset, .unset, .unset, .unset, .unset, .unset, .unset] [(.int p1)])) rfl (hb hby at_1) _ ?_
    show Steps p.tables e below (s₁.setTop (mkF m 3 #[.val (.int p1), .val (.int p2), .val (.int p3), .val (.int p4), .unset, .unset, .unset, .unset, .unset, .unset, .unset, .unset, .unset, .unset, .unset] [(.int (2147483647 : Int32)), (.int p1)])) _
    refine XS.iand X0.here hx rfl (hb hby at_3) rfl ?_
    refine XS.bipush X0.here hx rfl (hb hby at_4) ?_
    show Steps p.tables e below (s₁.setTop (mkF m 6 #[.val (.int p1), .val (.int p2), .val (.int p3), .val (.int p4), .unset, .unset, .unset, .unset, .unset, .unset, .unset, .unset, .unset, .unset, .unset] [(.int (6 : Int32)), (.int (p1 &&& (2147483647 : Int32)))])) _
    refine iremM X0 hx rfl (hb hby at_6) rfl (by decide) ?_
    show Steps p.tables e below (s₁.setTop (mkF m 7 #[.val (.int p1), .val (.int p2), .val (.int p3), .val (.int p4), .unset, .unset, .unset, .unset, .unset, .unset, .unset, .unset, .unset, .unset, .unset] [(.int ((p1 &&& (2147483647 : Int32)) % (6 : Int32)))])) _
    rw [hk]
    show Steps p.tables e below (s₁.setTop (mkF m 7 #[.val (.int p1), .val (.int p2), .val (.int p3), .val (.int p4), .unset, .unset, .unset, .unset, .unset, .unset, .unset, .unset, .unset, .unset, .unset] [(.int kk)])) _
    refine XS.istore X0.here hx rfl (hb hby at_7) rfl (l' := #[.val (.int p1), .val (.int p2), .val (.int p3), .val (.int p4), .val (.int kk), .unset, .unset, .unset, .unset, .unset, .unset, .unset, .unset, .unset, .unset]) rfl ?_
    refine XS.iload X0.here hx rfl (hb hby at_9) rfl ?_
    show Steps p.tables e below (s₁.setTop (mkF m 11 #[.val (.int p1), .val (.int p2), .val (.int p3), .val (.int p4), .val (.int kk), .unset, .unset, .unset, .unset, .unset, .unset, .unset, .unset, .unset, .unset] [(.int kk)])) _
    refine st1 _ ?_
    show Steps p.tables e below (T1.setTop (mkF m 14 #[.val (.int p1), .val (.int p2), .val (.int p3), .val (.int p4), .val (.int kk), .unset, .unset, .unset, .unset, .unset, .unset, .unset, .unset, .unset, .unset] [(.ref ta1)])) _
    refine XS.astore X1.here hx rfl (hb hby at_14) rfl rfl (l' := #[.val (.int p1), .val (.int p2), .val (.int p3), .val (.int p4), .val (.int kk), .val (.ref ta1), .unset, .unset, .unset, .unset, .unset, .unset, .unset, .unset, .unset]) rfl ?_
    refine XS.iloadN X1.here hx rfl (hb hby at_16) rfl ?_
    refine XS.iconst X1.here hx rfl (hb hby at_17) ?_
    refine XS.iand X1.here hx rfl (hb hby at_18) rfl ?_
    refine XS.ifNo X1.here hx rfl (hb hby at_19) rfl ((if0 _ _).trans (feq (hf0_ : ¬ ((p2 &&& (1 : Int32)) = (0 : Int32)))).1) ?_
    show Steps p.tables e below (T1.setTop (mkF m 22 #[.val (.int p1), .val (.int p2), .val (.int p3), .val (.int p4), .val (.int kk), .val (.ref ta1), .unset, .unset, .unset, .unset, .unset, .unset, .unset, .unset, .unset] [])) _
    refine XS.iconst X1.here hx rfl (hb hby at_22) ?_
    refine XS.goto X1.here hx rfl (pc0 := 23) (pc' := 27) rfl (hb hby at_23) (by decide) (by decide) ?_
    refine XS.istore X1.here hx rfl (hb hby at_27) rfl (l' := #[.val (.int p1), .val (.int p2), .val (.int p3), .val (.int p4), .val (.int kk), .val (.ref ta1), .val (.int (1 : Int32)), .unset, .unset, .unset, .unset, .unset, .unset, .unset, .unset]) rfl ?_
    refine XS.iloadN X1.here hx rfl (hb hby at_29) rfl ?_
    refine XS.iconst X1.here hx rfl (hb hby at_30) ?_
    show Steps p.tables e below (T1.setTop (mkF m 31 #[.val (.int p1), .val (.int p2), .val (.int p3), .val (.int p4), .val (.int kk), .val (.ref ta1), .val (.int (1 : Int32)), .unset, .unset, .unset, .unset, .unset, .unset, .unset, .unset] [(.int (2 : Int32)), (.int p2)])) _
    refine XS.iand X1.here hx rfl (hb hby at_31) rfl ?_
    refine XS.ifNo X1.here hx rfl (hb hby at_32) rfl ((if0 _ _).trans (feq (hf1_ : ¬ ((p2 &&& (2 : Int32)) = (0 : Int32)))).1) ?_
    refine XS.iconst X1.here hx rfl (hb hby at_35) ?_
    refine XS.goto X1.here hx rfl (pc0 := 36) (pc' := 40) rfl (hb hby at_36) (by decide) (by decide) ?_
    refine XS.istore X1.here hx rfl (hb hby at_40) rfl (l' := #[.val (.int p1), .val (.int p2), .val (.int p3), .val (.int p4), .val (.int kk), .val (.ref ta1), .val (.int (1 : Int32)), .val (.int (1 : Int32)), .unset, .unset, .unset, .unset, .unset, .unset, .unset]) rfl ?_
    show Steps p.tables e below (T1.setTop (mkF m 42 #[.val (.int p1), .val (.int p2), .val (.int p3), .val (.int p4), .val (.int kk), .val (.ref ta1), .val (.int (1 : Int32)), .val (.int (1 : Int32)), .unset, .unset, .unset, .unset, .unset, .unset, .unset] [])) _
    refine XS.iloadN X1.here hx rfl (hb hby at_42) rfl ?_
    refine XS.iconst X1.here hx rfl (hb hby at_43) ?_
    refine XS.iand X1.here hx rfl (hb hby at_44) rfl ?_
    refine XS.ifNo X1.here hx rfl (hb hby at_45) rfl ((if0 _ _).trans (feq (hf2_ : ¬ ((p2 &&& (4 : Int32)) = (0 : Int32)))).1) ?_
    refine XS.iconst X1.here hx rfl (hb hby at_48) ?_
    show Steps p.tables e below (T1.setTop (mkF m 49 #[.val (.int p1), .val (.int p2), .val (.int p3), .val (.int p4), .val (.int kk), .val (.ref ta1), .val (.int (1 : Int32)), .val (.int (1 : Int32)), .unset, .unset, .unset, .unset, .unset, .unset, .unset] [(.int (1 : Int32))])) _
    refine XS.goto X1.here hx rfl (pc0 := 49) (pc' := 53) rfl (hb hby at_49) (by decide) (by decide) ?_
    refine XS.istore X1.here hx rfl (hb hby at_53) rfl (l' := #[.val (.int p1), .val (.int p2), .val (.int p3), .val (.int p4), .val (.int kk), .val (.ref ta1), .val (.int (1 : Int32)), .val (.int (1 : Int32)), .val (.int (1 : Int32)), .unset, .unset, .unset, .unset, .unset, .unset]) rfl ?_
    refine XS.iconst X1.here hx rfl (hb hby at_55) ?_
    show Steps p.tables e below (T1.setTop (mkF m 56 #[.val (.int p1), .val (.int p2), .val (.int p3), .val (.int p4), .val (.int kk), .val (.ref ta1), .val (.int (1 : Int32)), .val (.int (1 : Int32)), .val (.int (1 : Int32)), .unset, .unset, .unset, .unset, .unset, .unset] [(.int (2 : Int32))])) _
    refine st2 _ ?_
    show Steps p.tables e below (T2.setTop (mkF m 58 #[.val (.int p1), .val (.int p2), .val (.int p3), .val (.int p4), .val (.int kk), .val (.ref ta1), .val (.int (1 : Int32)), .val (.int (1 : Int32)), .val (.int (1 : Int32)), .unset, .unset, .unset, .unset, .unset, .unset] [(.ref b2)])) _
    refine XS.astore X2.here hx rfl (hb hby at_58) rfl rfl (l' := #[.val (.int p1), .val (.int p2), .val (.int p3), .val (.int p4), .val (.int kk), .val (.ref ta1), .val (.int (1 : Int32)), .val (.int (1 : Int32)), .val (.int (1 : Int32)), .val (.ref b2), .unset, .unset, .unset, .unset, .unset]) rfl ?_
    refine XS.aload X2.here hx rfl (hb hby at_60) rfl rfl ?_
    refine XS.iconst X2.here hx rfl (hb hby at_62) ?_
    refine XS.iloadN X2.here hx rfl (hb hby at_63) rfl ?_
    refine XS.sipush X2.here hx rfl (hb hby at_64) ?_
    show Steps p.tables e below (T2.setTop (mkF m 67 #[.val (.int p1), .val (.int p2), .val (.int p3), .val (.int p4), .val (.int kk), .val (.ref ta1), .val (.int (1 : Int32)), .val (.int (1 : Int32)), .val (.int (1 : Int32)), .val (.ref b2), .unset, .unset, .unset, .unset, .unset] [(.int (255 : Int32)), (.int p3), (.int (0 : Int32)), (.ref b2)])) _
    refine XS.iand X2.here hx rfl (hb hby at_67) rfl ?_
    refine XS.i2c X2.here hx rfl (hb hby at_68) rfl ?_
    show Steps p.tables e below (T2.setTop (mkF m 69 #[.val (.int p1), .val (.int p2), .val (.int p3), .val (.int p4), .val (.int kk), .val (.ref ta1), .val (.int (1 : Int32)), .val (.int (1 : Int32)), .val (.int (1 : Int32)), .val (.ref b2), .unset, .unset, .unset, .unset, .unset] [(.int ((p3 &&& (255 : Int32)).toUInt32.toUInt16.toUInt32.toInt32)), (.int (0 : Int32)), (.ref b2)])) _
    refine st5 _ ?_
    show Steps p.tables e below (T5.setTop (mkF m 70 #[.val (.int p1), .val (.int p2), .val (.int p3), .val (.int p4), .val (.int kk), .val (.ref ta1), .val (.int (1 : Int32)), .val (.int (1 : Int32)), .val (.int (1 : Int32)), .val (.ref b2), .unset, .unset, .unset, .unset, .unset] [])) _
    refine XS.aload X5.here hx rfl (hb hby at_70) rfl rfl ?_
    refine XS.iconst X5.here hx rfl (hb hby at_72) ?_
    refine XS.iloadN X5.here hx rfl (hb hby at_73) rfl ?_
    refine XS.sipush X5.here hx rfl (hb hby at_74) ?_
    refine XS.iand X5.here hx rfl (hb hby at_77) rfl ?_
    show Steps p.tables e below (T5.setTop (mkF m 78 #[.val (.int p1), .val (.int p2), .val (.int p3), .val (.int p4), .val (.int kk), .val (.ref ta1), .val (.int (1 : Int32)), .val (.int (1 : Int32)), .val (.int (1 : Int32)), .val (.ref b2), .unset, .unset, .unset, .unset, .unset] [(.int (p4 &&& (255 : Int32))), (.int (1 : Int32)), (.ref b2)])) _
    refine XS.i2c X5.here hx rfl (hb hby at_78) rfl ?_
    show Steps p.tables e below (T5.setTop (mkF m 79 #[.val (.int p1), .val (.int p2), .val (.int p3), .val (.int p4), .val (.int kk), .val (.ref ta1), .val (.int (1 : Int32)), .val (.int (1 : Int32)), .val (.int (1 : Int32)), .val (.ref b2), .unset, .unset, .unset, .unset, .unset] [(.int ((p4 &&& (255 : Int32)).toUInt32.toUInt16.toUInt32.toInt32)), (.int (1 : Int32)), (.ref b2)])) _
    refine st9 _ ?_
    show Steps p.tables e below (T9.setTop (mkF m 80 #[.val (.int p1), .val (.int p2), .val (.int p3), .val (.int p4), .val (.int kk), .val (.ref ta1), .val (.int (1 : Int32)), .val (.int (1 : Int32)), .val (.int (1 : Int32)), .val (.ref b2), .unset, .unset, .unset, .unset, .unset] [])) _
    refine XS.iload X9.here hx rfl (hb hby at_80) rfl ?_
    refine XS.ifNo X9.here hx rfl (hb hby at_82) rfl ((if0 _ _).trans (feq (by decide : ¬ ((1 : Int32) = (0 : Int32)))).1) ?_
    show Steps p.tables e below (T9.setTop (mkF m 85 #[.val (.int p1), .val (.int p2), .val (.int p3), .val (.int p4), .val (.int kk), .val (.ref ta1), .val (.int (1 : Int32)), .val (.int (1 : Int32)), .val (.int (1 : Int32)), .val (.ref b2), .unset, .unset, .unset, .unset, .unset] [])) _
    refine st12 _ ?_
    show Steps p.tables e below (T12.setTop (mkF m 88 #[.val (.int p1), .val (.int p2), .val (.int p3), .val (.int p4), .val (.int kk), .val (.ref ta1), .val (.int (1 : Int32)), .val (.int (1 : Int32)), .val (.int (1 : Int32)), .val (.ref b2), .unset, .unset, .unset, .unset, .unset] [(.ref b12)])) _
    refine XS.dup X12.here hx rfl (hb hby at_88) rfl rfl ?_
    refine XS.iconst X12.here hx rfl (hb hby at_89) ?_
    show Steps p.tables e below (T12.setTop (mkF m 90 #[.val (.int p1), .val (.int p2), .val (.int p3), .val (.int p4), .val (.int kk), .val (.ref ta1), .val (.int (1 : Int32)), .val (.int (1 : Int32)), .val (.int (1 : Int32)), .val (.ref b2), .unset, .unset, .unset, .unset, .unset] [(.int (0 : Int32)), (.ref b12), (.ref b12)])) _
    refine st16 _ ?_
    show Steps p.tables e below (T16.setTop (mkF m 92 #[.val (.int p1), .val (.int p2), .val (.int p3), .val (.int p4), .val (.int kk), .val (.ref ta1), .val (.int (1 : Int32)), .val (.int (1 : Int32)), .val (.int (1 : Int32)), .val (.ref b2), .unset, .unset, .unset, .unset, .unset] [(.ref b16), (.ref b12), (.ref b12)])) _
    refine st25.trans ?_
    show Steps p.tables e below (T25.setTop (mkF m 95 #[.val (.int p1), .val (.int p2), .val (.int p3), .val (.int p4), .val (.int kk), .val (.ref ta1), .val (.int (1 : Int32)), .val (.int (1 : Int32)), .val (.int (1 : Int32)), .val (.ref b2), .unset, .unset, .unset, .unset, .unset] [(.ref b12)])) _
    refine XS.goto X25.here hx rfl (pc0 := 95) (pc' := 107) rfl (hb hby at_95) (by decide) (by decide) ?_
    refine XS.astore X25.here hx rfl (hb hby at_107) rfl rfl (l' := #[.val (.int p1), .val (.int p2), .val (.int p3), .val (.int p4), .val (.int kk), .val (.ref ta1), .val (.int (1 : Int32)), .val (.int (1 : Int32)), .val (.int (1 : Int32)), .val (.ref b2), .val (.ref b12), .unset, .unset, .unset, .unset]) rfl ?_
    refine XS.iload X25.here hx rfl (hb hby at_109) rfl ?_
    refine XS.ifNo X25.here hx rfl (hb hby at_111) rfl ((if0 _ _).trans (feq (by decide : ¬ ((1 : Int32) = (0 : Int32)))).1) ?_
    refine XS.aload X25.here hx rfl (hb hby at_114) rfl rfl ?_
    show Steps p.tables e below (T25.setTop (mkF m 116 #[.val (.int p1), .val (.int p2), .val (.int p3), .val (.int p4), .val (.int kk), .val (.ref ta1), .val (.int (1 : Int32)), .val (.int (1 : Int32)), .val (.int (1 : Int32)), .val (.ref b2), .val (.ref b12), .unset, .unset, .unset, .unset] [(.ref b12)])) _
    refine XS.goto X25.here hx rfl (pc0 := 116) (pc' := 120) rfl (hb hby at_116) (by decide) (by decide) ?_
    refine XS.astore X25.here hx rfl (hb hby at_120) rfl rfl (l' := #[.val (.int p1), .val (.int p2), .val (.int p3), .val (.int p4), .val (.int kk), .val (.ref ta1), .val (.int (1 : Int32)), .val (.int (1 : Int32)), .val (.int (1 : Int32)), .val (.ref b2), .val (.ref b12), .val (.ref b12), .unset, .unset, .unset]) rfl ?_
    refine XS.iload X25.here hx rfl (hb hby at_122) rfl ?_
    refine XS.ifNo X25.here hx rfl (hb hby at_124) rfl ((if0 _ _).trans (feq (by decide : ¬ ((1 : Int32) = (0 : Int32)))).1) ?_
    show Steps p.tables e below (T25.setTop (mkF m 127 #[.val (.int p1), .val (.int p2), .val (.int p3), .val (.int p4), .val (.int kk), .val (.ref ta1), .val (.int (1 : Int32)), .val (.int (1 : Int32)), .val (.int (1 : Int32)), .val (.ref b2), .val (.ref b12), .val (.ref b12), .unset, .unset, .unset] [])) _
    refine st32 _ ?_
    show Steps p.tables e below (T32.setTop (mkF m 130 #[.val (.int p1), .val (.int p2), .val (.int p3), .val (.int p4), .val (.int kk), .val (.ref ta1), .val (.int (1 : Int32)), .val (.int (1 : Int32)), .val (.int (1 : Int32)), .val (.ref b2), .val (.ref b12), .val (.ref b12), .unset, .unset, .unset] [(.ref b32)])) _
    refine XS.dup X32.here hx rfl (hb hby at_130) rfl rfl ?_
    refine XS.aload X32.here hx rfl (hb hby at_131) rfl rfl ?_
    show Steps p.tables e below (T32.setTop (mkF m 133 #[.val (.int p1), .val (.int p2), .val (.int p3), .val (.int p4), .val (.int kk), .val (.ref ta1), .val (.int (1 : Int32)), .val (.int (1 : Int32)), .val (.int (1 : Int32)), .val (.ref b2), .val (.ref b12), .val (.ref b12), .unset, .unset, .unset] [(.ref b2), (.ref b32), (.ref b32)])) _
    refine st40.trans ?_
    show Steps p.tables e below (T40.setTop (mkF m 136 #[.val (.int p1), .val (.int p2), .val (.int p3), .val (.int p4), .val (.int kk), .val (.ref ta1), .val (.int (1 : Int32)), .val (.int (1 : Int32)), .val (.int (1 : Int32)), .val (.ref b2), .val (.ref b12), .val (.ref b12), .unset, .unset, .unset] [(.ref b32)])) _
    refine XS.goto X40.here hx rfl (pc0 := 136) (pc' := 140) rfl (hb hby at_136) (by decide) (by decide) ?_
    refine XS.astore X40.here hx rfl (hb hby at_140) rfl rfl (l' := #[.val (.int p1), .val (.int p2), .val (.int p3), .val (.int p4), .val (.int kk), .val (.ref ta1), .val (.int (1 : Int32)), .val (.int (1 : Int32)), .val (.int (1 : Int32)), .val (.ref b2), .val (.ref b12), .val (.ref b12), .val (.ref b32), .unset, .unset]) rfl ?_
    show Steps p.tables e below (T40.setTop (mkF m 142 #[.val (.int p1), .val (.int p2), .val (.int p3), .val (.int p4), .val (.int kk), .val (.ref ta1), .val (.int (1 : Int32)), .val (.int (1 : Int32)), .val (.int (1 : Int32)), .val (.ref b2), .val (.ref b12), .val (.ref b12), .val (.ref b32), .unset, .unset] [])) _
    refine st49 _ ?_
    show Steps p.tables e below (T49.setTop (mkF m 145 #[.val (.int p1), .val (.int p2), .val (.int p3), .val (.int p4), .val (.int kk), .val (.ref ta1), .val (.int (1 : Int32)), .val (.int (1 : Int32)), .val (.int (1 : Int32)), .val (.ref b2), .val (.ref b12), .val (.ref b12), .val (.ref b32), .unset, .unset] [(.ref b49)])) _
    refine XS.dup X49.here hx rfl (hb hby at_145) rfl rfl ?_
    refine XS.aload X49.here hx rfl (hb hby at_146) rfl rfl ?_
    refine XS.aload X49.here hx rfl (hb hby at_148) rfl rfl ?_
    refine XS.aload X49.here hx rfl (hb hby at_150) rfl rfl ?_
    show Steps p.tables e below (T49.setTop (mkF m 152 #[.val (.int p1), .val (.int p2), .val (.int p3), .val (.int p4), .val (.int kk), .val (.ref ta1), .val (.int (1 : Int32)), .val (.int (1 : Int32)), .val (.int (1 : Int32)), .val (.ref b2), .val (.ref b12), .val (.ref b12), .val (.ref b32), .unset, .unset] [(.ref b32), (.ref b12), (.ref ta1), (.ref b49), (.ref b49)])) _
    refine st59.trans ?_
    show Steps p.tables e below (T59.setTop (mkF m 155 #[.val (.int p1), .val (.int p2), .val (.int p3), .val (.int p4), .val (.int kk), .val (.ref ta1), .val (.int (1 : Int32)), .val (.int (1 : Int32)), .val (.int (1 : Int32)), .val (.ref b2), .val (.ref b12), .val (.ref b12), .val (.ref b32), .unset, .unset] [(.ref b49)])) _
    refine XS.astore X59.here hx rfl (hb hby at_155) rfl rfl (l' := #[.val (.int p1), .val (.int p2), .val (.int p3), .val (.int p4), .val (.int kk), .val (.ref ta1), .val (.int (1 : Int32)), .val (.int (1 : Int32)), .val (.int (1 : Int32)), .val (.ref b2), .val (.ref b12), .val (.ref b12), .val (.ref b32), .val (.ref b49), .unset]) rfl ?_
    refine XS.iload X59.here hx rfl (hb hby at_157) rfl ?_
    refine XS.ifNo X59.here hx rfl (hb hby at_159) rfl ((if0 _ _).trans (feq ((by rcases hk1 with h | h | h | h | h <;> rw [h] <;> decide) : ¬ (kk = (0 : Int32)))).1) ?_
    refine XS.iload X59.here hx rfl (hb hby at_162) rfl ?_
    refine XS.ifNo X59.here hx rfl (hb hby at_164) rfl ((if0 _ _).trans (feq (by decide : ¬ ((1 : Int32) = (0 : Int32)))).1) ?_
    show Steps p.tables e below (T59.setTop (mkF m 167 #[.val (.int p1), .val (.int p2), .val (.int p3), .val (.int p4), .val (.int kk), .val (.ref ta1), .val (.int (1 : Int32)), .val (.int (1 : Int32)), .val (.int (1 : Int32)), .val (.ref b2), .val (.ref b12), .val (.ref b12), .val (.ref b32), .val (.ref b49), .unset] [])) _
    refine XS.iconst X59.here hx rfl (hb hby at_167) ?_
    refine XS.goto X59.here hx rfl (pc0 := 168) (pc' := 172) rfl (hb hby at_168) (by decide) (by decide) ?_
    refine XS.istore X59.here hx rfl (hb hby at_172) rfl (l' := #[.val (.int p1), .val (.int p2), .val (.int p3), .val (.int p4), .val (.int kk), .val (.ref ta1), .val (.int (1 : Int32)), .val (.int (1 : Int32)), .val (.int (1 : Int32)), .val (.ref b2), .val (.ref b12), .val (.ref b12), .val (.ref b32), .val (.ref b49), .val (.int (1 : Int32))]) rfl ?_
    refine XS.aload X59.here hx rfl (hb hby at_174) rfl rfl ?_
    show Steps p.tables e below (T59.setTop (mkF m 176 #[.val (.int p1), .val (.int p2), .val (.int p3), .val (.int p4), .val (.int kk), .val (.ref ta1), .val (.int (1 : Int32)), .val (.int (1 : Int32)), .val (.int (1 : Int32)), .val (.ref b2), .val (.ref b12), .val (.ref b12), .val (.ref b32), .val (.ref b49), .val (.int (1 : Int32))] [(.ref b49)])) _
    refine st70.trans ?_
    show Steps p.tables e below (T70.setTop (mkF m 179 #[.val (.int p1), .val (.int p2), .val (.int p3), .val (.int p4), .val (.int kk), .val (.ref ta1), .val (.int (1 : Int32)), .val (.int (1 : Int32)), .val (.int (1 : Int32)), .val (.ref b2), .val (.ref b12), .val (.ref b12), .val (.ref b32), .val (.ref b49), .val (.int (1 : Int32))] [(.int (1 : Int32))])) _
    refine XS.iload X70.here hx rfl (hb hby at_179) rfl ?_
    refine XS.icmpNo X70.here hx rfl (hb hby at_181) rfl (teq (by decide : (1 : Int32) = (1 : Int32))).2 ?_
    refine XS.iconst X70.here hx rfl (hb hby at_184) ?_
    refine XS.goto X70.here hx rfl (pc0 := 185) (pc' := 189) rfl (hb hby at_185) (by decide) (by decide) ?_
    show Steps p.tables e below (T70.setTop (mkF m 189 #[.val (.int p1), .val (.int p2), .val (.int p3), .val (.int p4), .val (.int kk), .val (.ref ta1), .val (.int (1 : Int32)), .val (.int (1 : Int32)), .val (.int (1 : Int32)), .val (.ref b2), .val (.ref b12), .val (.ref b12), .val (.ref b32), .val (.ref b49), .val (.int (1 : Int32))] [(.int (1 : Int32))])) _
    exact retN X70 hx (t := .boolean) Bd.returns (by simp) (hb hby at_189) hr
  · show own_Qk (some (.int (1 : Int32))) [] h0 n0 _ T70.heap _
    rw [e70]
    exact ⟨rfl, N70, K59⟩
  · show CHr Z own_EL s.vm s.heap T70.vm T70.heap
    rw [hh, e70]
    exact R59.trans (CHv.at (s := s) (vm0 := T25.vm) X70 hZ25 hEL C59)
theorem own_law (l : Launch) (Z : State) (a0 : Array Value) (hw : ∀ d ∈ tables_1, d.before a0 Z = true) (ws : List Jvm.Cond) (s_L1 s_L4 s_L3 s_L5 s_L2 : Addr) (cs1 : Int32) (h0 : Heap) (n0 : Nat) (O0 : Old Z n0 h0) (G : own_Ctx Z Z.heap s_L1 s_L4 s_L3 s_L5 s_L2 cs1) (hEL : EW Z a0 own_EL) (wS : ∀ a ∈ Bundle.stringAtoms, a.before a0 Z = true) (p1 p2 p3 p4 : Int32) : MetFree l x (head1 (Jvm.Cond.code x code maxLocals ret :: ws) room_1) (fun a U => a = #[(.int p1), (.int p2), (.int p3), (.int p4)] ∧ Z.Warmed39 U.vm ∧ U.heap = h0 ∧ CHv Z own_EL U.vm h0) (fun _ _ _ _ _ => True) (fun _ U o U' => ∃ v L, o = .returned v ∧ own_Qk (some (.int (1 : Int32))) [] h0 n0 v U'.heap L ∧ CHr Z own_EL U.vm U.heap U'.vm U'.heap ∧ ReturnedEndW U o U' L 24 1152) := by
  rcases own_mod p1 with hk | hk <;> by_cases h0_ : (p2 &&& (1 : Int32)) = (0 : Int32) <;> by_cases h1_ : (p2 &&& (2 : Int32)) = (0 : Int32) <;> by_cases h2_ : (p2 &&& (4 : Int32)) = (0 : Int32)
  · exact r_law0 l Z a0 hw ws s_L1 s_L4 s_L3 s_L5 s_L2 cs1 h0 n0 O0 G hEL wS p1 p2 p3 p4 hk h0_ h1_ h2_
  · exact r_law8 l Z a0 hw ws s_L1 s_L4 s_L3 s_L5 s_L2 cs1 h0 n0 O0 G hEL wS p1 p2 p3 p4 hk h0_ h1_ h2_
  · exact r_law4 l Z a0 hw ws s_L1 s_L4 s_L3 s_L5 s_L2 cs1 h0 n0 O0 G hEL wS p1 p2 p3 p4 hk h0_ h1_ h2_
  · exact r_law12 l Z a0 hw ws s_L1 s_L4 s_L3 s_L5 s_L2 cs1 h0 n0 O0 G hEL wS p1 p2 p3 p4 hk h0_ h1_ h2_
  · exact r_law2 l Z a0 hw ws s_L1 s_L4 s_L3 s_L5 s_L2 cs1 h0 n0 O0 G hEL wS p1 p2 p3 p4 hk h0_ h1_ h2_
  · exact r_law10 l Z a0 hw ws s_L1 s_L4 s_L3 s_L5 s_L2 cs1 h0 n0 O0 G hEL wS p1 p2 p3 p4 hk h0_ h1_ h2_
  · exact r_law6 l Z a0 hw ws s_L1 s_L4 s_L3 s_L5 s_L2 cs1 h0 n0 O0 G hEL wS p1 p2 p3 p4 hk h0_ h1_ h2_
  · exact r_law14 l Z a0 hw ws s_L1 s_L4 s_L3 s_L5 s_L2 cs1 h0 n0 O0 G hEL wS p1 p2 p3 p4 hk h0_ h1_ h2_
  · exact r_law1 l Z a0 hw ws s_L1 s_L4 s_L3 s_L5 s_L2 cs1 h0 n0 O0 G hEL wS p1 p2 p3 p4 _ rfl hk h0_ h1_ h2_
  · exact r_law9 l Z a0 hw ws s_L1 s_L4 s_L3 s_L5 s_L2 cs1 h0 n0 O0 G hEL wS p1 p2 p3 p4 _ rfl hk h0_ h1_ h2_
  · exact r_law5 l Z a0 hw ws s_L1 s_L4 s_L3 s_L5 s_L2 cs1 h0 n0 O0 G hEL wS p1 p2 p3 p4 _ rfl hk h0_ h1_ h2_
  · exact r_law13 l Z a0 hw ws s_L1 s_L4 s_L3 s_L5 s_L2 cs1 h0 n0 O0 G hEL wS p1 p2 p3 p4 _ rfl hk h0_ h1_ h2_
  · exact r_law3 l Z a0 hw ws s_L1 s_L4 s_L3 s_L5 s_L2 cs1 h0 n0 O0 G hEL wS p1 p2 p3 p4 _ rfl hk h0_ h1_ h2_
  · exact r_law11 l Z a0 hw ws s_L1 s_L4 s_L3 s_L5 s_L2 cs1 h0 n0 O0 G hEL wS p1 p2 p3 p4 _ rfl hk h0_ h1_ h2_
  · exact r_law7 l Z a0 hw ws s_L1 s_L4 s_L3 s_L5 s_L2 cs1 h0 n0 O0 G hEL wS p1 p2 p3 p4 _ rfl hk h0_ h1_ h2_
  · exact r_law15 l Z a0 hw ws s_L1 s_L4 s_L3 s_L5 s_L2 cs1 h0 n0 O0 G hEL wS p1 p2 p3 p4 _ rfl hk h0_ h1_ h2_
set_option maxRecDepth 65536 in
set_option maxHeartbeats 40000000 in
theorem comes_1 {Post : Tables → Env → Array Value → State → Outcome → State → Prop} (hpost : ∀ tb e args s v u, (limb_1_1.after args s (.returned v) u = true ∧ limb_1_2.after args s (.returned v) u = true ∧ True) → ReturnedEndW s (.returned v) u (Jvm.fieldLocs frame_1_writes args s ++ Jvm.arrayLocs frame_1_arrays args s ++ Jvm.staticLocs frame_1_statics s) 24 1152 → Post tb e args s (.returned v) u) :
    ArmFor flags0 classFile x code maxLocals ret World_1 tables_1 room_1 Calls_1 rest_1 Pre_1 Post := by
  intro l hfl _ _ p e ha hc hk s m args below hf hA hF happ hP
  obtain ⟨hcalls, hrest, hpre⟩ := hP
  obtain ⟨-, -, -, hnamed, -, -, -, hat⟩ := (Spec.applies_iff hf).mp happ
  obtain ⟨hg, hn⟩ := and_e (Cond.before_iff.mp (show (Jvm.Cond.and given_1 narrow_1).before args s = true from hpre))
  obtain ⟨hg0, hg1⟩ := and_e hg
  obtain ⟨hg10, hg11⟩ := and_e hg1
  obtain ⟨hg110, hg111⟩ := and_e hg11
  obtain ⟨hg1110, hg1111⟩ := and_e hg111
  obtain ⟨w0, w1, w2, w3, rfl⟩ : ∃ w0 w1 w2 w3 : Value, args = #[w0, w1, w2, w3] := by
    have hs : args.size = 4 := by simpa [Cond.value, given_1] using hg0
    obtain ⟨L⟩ := args
    match L, hs with
    | [w0, w1, w2, w3], _ => exact ⟨w0, w1, w2, w3, rfl⟩
  obtain ⟨i0, ei0⟩ := is_v hg10
  obtain rfl : w0 = (.int i0) := Option.some.inj ei0
  obtain ⟨i1, ei1⟩ := is_v hg110
  obtain rfl : w1 = (.int i1) := Option.some.inj ei1
  obtain ⟨i2, ei2⟩ := is_v hg1110
  obtain rfl : w2 = (.int i2) := Option.some.inj ei2
  obtain ⟨i3, ei3⟩ := is_v hg1111
  obtain rfl : w3 = (.int i3) := Option.some.inj ei3
  have hw := fun d (hd : d ∈ tables_1) => atoms_spec (ws := Jvm.Cond.code x code maxLocals ret :: tables_1) hat d (List.mem_cons_of_mem _ hd)
  have hfit : Fit s := fun {y c} hc i hi => by
    obtain ⟨ha, rfl⟩ := Array.getElem?_eq_some_iff.mp hc
    have q := List.all_eq_true.mp ((Array.all_eq_true_iff_forall_mem.mp hF) _ (Array.getElem_mem ha)) i (List.mem_range.mpr hi)
    simpa [Array.getElem?_eq_getElem hi] using q
  obtain ⟨hn0, hn1⟩ := and_e hn
  obtain ⟨hn10, hn11⟩ := and_e hn1
  obtain ⟨hn110, hn111⟩ := and_e hn11
  obtain ⟨hn1110, hn1111⟩ := and_e hn111
  obtain ⟨s_L1, ev_L1⟩ := exa_v hn0
  have E_L1 := Exa.start ev_L1 hn0
  have S_L1 := Sta.start ev_L1 (Or.inr ⟨(hw _ (List.mem_of_getElem? (i := 46) rfl)), (hw _ (List.mem_of_getElem? (i := 47) rfl))⟩)
  obtain ⟨s_L4, ev_L4⟩ := exa_v hn10
  have E_L4 := Exa.start ev_L4 hn10
  have S_L4 := Sta.start ev_L4 (Or.inr ⟨(hw _ (List.mem_of_getElem? (i := 46) rfl)), (hw _ (List.mem_of_getElem? (i := 60) rfl))⟩)
  obtain ⟨s_L3, ev_L3⟩ := exa_v hn110
  have E_L3 := Exa.start ev_L3 hn110
  have S_L3 := Sta.start ev_L3 (Or.inr ⟨(hw _ (List.mem_of_getElem? (i := 46) rfl)), (hw _ (List.mem_of_getElem? (i := 62) rfl))⟩)
  obtain ⟨s_L5, ev_L5⟩ := exa_v hn1110
  have E_L5 := Exa.start ev_L5 hn1110
  have S_L5 := Sta.start ev_L5 (Or.inr ⟨(hw _ (List.mem_of_getElem? (i := 46) rfl)), (hw _ (List.mem_of_getElem? (i := 64) rfl))⟩)
  obtain ⟨s_L2, ev_L2⟩ := exa_v hn1111
  have E_L2 := Exa.start ev_L2 hn1111
  have S_L2 := Sta.start ev_L2 (Or.inr ⟨(hw _ (List.mem_of_getElem? (i := 46) rfl)), (hw _ (List.mem_of_getElem? (i := 66) rfl))⟩)
  obtain ⟨hsets, hown0⟩ := atoms_of _ (rest_1_c_eq ▸ (show rest_1_c.before _ s = true from hrest))
  obtain ⟨cs1, ev_cs⟩ := is_v (Cond.before_iff.mp (hsets _ (List.mem_of_getElem? (i := 1) rfl)))
  have S_CS := Sta.start ev_cs (Or.inl (hsets _ (List.mem_of_getElem? (i := 0) rfl)))
  have N_CS : ¬ (cs1 = (0 : Int32)) := fun q => by
    have z := not_v (Cond.before_iff.mp (hsets _ (List.mem_of_getElem? (i := 2) rfl)))
    rw [eq_i ev_cs (Term.int_eval 0) (congrArg Value.int q)] at z
    simp at z
  have G : own_Ctx s s.heap s_L1 s_L4 s_L3 s_L5 s_L2 cs1 := ⟨S_L1, E_L1, S_L4, E_L4, S_L3, E_L3, S_L5, E_L5, S_L2, E_L2, S_CS, N_CS⟩
  have hEL : EW s #[(.int i0), (.int i1), (.int i2), (.int i3)] own_EL := EW.cons (hw _ (List.mem_of_getElem? (i := 19) rfl)) (fun c h => by simp at h) EW.nil
  have wS : ∀ a ∈ Bundle.stringAtoms, a.before #[(.int i0), (.int i1), (.int i2), (.int i3)] s = true := fun a ha => by
    simp only [Bundle.stringAtoms, List.mem_cons, List.not_mem_nil, or_false] at ha
    rcases ha with rfl | rfl | rfl | rfl | rfl | rfl | rfl
    · exact (hw _ (List.mem_of_getElem? (i := 8) rfl))
    · exact (hw _ (List.mem_of_getElem? (i := 7) rfl))
    · exact (hw _ (List.mem_of_getElem? (i := 20) rfl))
    · exact (hw _ (List.mem_of_getElem? (i := 21) rfl))
    · exact (hw _ (List.mem_of_getElem? (i := 22) rfl))
    · exact (hw _ (List.mem_of_getElem? (i := 23) rfl))
    · exact (hw _ (List.mem_of_getElem? (i := 24) rfl))
  have hCH : CHv s own_EL s.vm s.heap := CHv.start hEL (fun q hq => by
    obtain rfl : q = ("java/lang/String", 7) := List.mem_singleton.mp hq
    exact hcalls.1 _ (List.mem_singleton.mpr rfl)) (hsets _ (List.mem_of_getElem? (i := 2) rfl)) (hw _ (List.mem_of_getElem? (i := 20) rfl)) (hw _ (List.mem_of_getElem? (i := 7) rfl))
  obtain ⟨n, o, h1, h2, h3, _, L, rfl, ⟨rfl, N, -⟩, -, hq⟩ := own_law l s _ hw tables_1 s_L1 s_L4 s_L3 s_L5 s_L2 cs1 s.heap s.heap.size (Old.start s) G hEL wS i0 i1 i2 i3 p e ha hc hk s m _ below hf ((Spec.applies_iff_loose hf).mp happ).1 ⟨rfl, State.Warmed39.refl s, rfl, hCH⟩ trivial
  refine ⟨n, _, h1, h2, h3, hpost _ _ _ _ _ _ ⟨Cond.after_iff.mpr rfl, Cond.after_iff.mpr (eq_i res_at (Term.int_eval (1)) rfl), trivial⟩ ⟨hq.1, hq.2.1, hq.2.2.1, (hq.2.2.2.sift fun y hy => Or.inr (N y hy)).mono (by decide) (by decide)⟩⟩
theorem main_1_1 : Claimed_1_1 := comes_1 fun _ _ _ _ _ _ h hF => ⟨h.1, hF⟩
theorem main_1_2 : Claimed_1_2 := comes_1 fun _ _ _ _ _ _ h hF => ⟨h.2.1, hF⟩
end Jvm.Pilot.@@N@@
namespace Jvm.Pilot.@@N@@
open Jvm Jvm.ClassFile Sem Op Lib Jvm.Free Jvm.Stand Jvm.Pilot.@@N@@.Jvm.D
/-! MADE BY PROGRAM (witnessworld.py) out of the Statement's table words and the real class files: 22 classes; the members and pool entries that the words name. The judged class is class 1, her method 2. -/
namespace start1
open Jvm.ClassFile
def u (s : String) : CpInfo := .utf8 (stringToUtf16 s)
/-- a pool by its gaps: so many unusable entries, then the entry; so many at the end -/
def gap : Nat → List CpInfo → List CpInfo
  | 0, r => r
  | n + 1, r => .unusable :: gap n r
def poolList (es : List (Nat × CpInfo)) (last : Nat) : List CpInfo := es.foldr (fun e r => gap e.1 (e.2 :: r)) (gap last [])
def pool (es : List (Nat × CpInfo)) (last : Nat) : Array CpInfo := ⟨poolList es last⟩
def fileOf (pool : Array CpInfo) (this : Nat) (attrs : Array Attribute := #[]) (ms : Array MethodInfo := #[]) (fl : Nat := 33) (sup : Nat := 0) (ifs : Array Nat := #[]) (fds : Array FieldInfo := #[]) : ClassFile where
  minorVersion := 0
  majorVersion := 65
  constantPool := pool
  accessFlags := fl
  thisClass := this
  superClass := sup
  interfaces := ifs
  fields := fds
  methods := ms
  attributes := attrs
def plain (name : String) (sup : Option ClassId) : Class where
  name := name
  kind := .ordinary
  loader := none
  accessFlags := 33
  super := sup
  interfaces := #[]
  cf := none
  fields := #[]
  methods := #[]
  instanceTypes := #[]
  staticTypes := #[]
  resolved := #[]
  callSites := []
  init := .initialized
  statics := none
  mirror := none

def pool0 : Array CpInfo := pool [(5, u "<init>"), (0, u "()V"), (1, .class_ 10), (1, u "java/lang/Object")] 113

def k0c0 : Code := { maxStack := 0, maxLocals := 1, code := object_method_1_code, exceptionTable := #[], attributes := #[] }
def k0m0 : Method := { name := "<init>", desc := "()V", sig := { parameters := [], returnType := none }, accessFlags := 1, code := some k0c0 }
/-- java/lang/Object -/
def k0 : Class := { plain "java/lang/Object" none with
  accessFlags := 33
  interfaces := #[]
  cf := some (fileOf pool0 8 #[] #[{ accessFlags := 1, nameIndex := 5, descriptorIndex := 6, attributes := #[] }] 33 0 #[] #[])
  fields := #[]
  methods := #[k0m0]
  instanceTypes := #[]
  staticTypes := #[]
  resolved := Array.replicate 124 none
  statics := none }

def pool1 : Array CpInfo := pool [(2, .class_ 4), (1, u "java/lang/Object"), (0, u "<init>"), (0, u "()V"), (0, .fieldref 8 9), (0, .class_ 10), (0, .nameAndType 11 12), (0, u "com/example/pending_actions/pendingactions/policy/RiskTier"), (0, u "L1"), (0, u "Lcom/example/pending_actions/pendingactions/policy/RiskTier;"), (0, .fieldref 8 14), (0, .nameAndType 15 12), (0, u "L2"), (0, .fieldref 8 17), (0, .nameAndType 18 12), (0, u "L3"), (0, .fieldref 8 20), (0, .nameAndType 21 12), (0, u "L4"), (0, .fieldref 8 23), (0, .nameAndType 24 12), (0, u "L5"), (0, .integer 2147483647), (0, .methodref 27 28), (0, .class_ 29), (0, .nameAndType 30 31), (0, u "com/example/pending_actions/pendingactions/policy/AssessmentIsAutoApprovedPinLaw"), (0, u "pick"), (0, u "(I)Lcom/example/pending_actions/pendingactions/policy/RiskTier;"), (0, .class_ 33), (0, u "java/lang/String"), (0, .methodref 32 35), (0, .nameAndType 5 36), (0, u "([C)V"), (0, .class_ 38), (0, u "com/example/pending_actions/pendingactions/policy/Assessment"), (0, .methodref 37 40), (0, .nameAndType 5 41), (0, u "(Lcom/example/pending_actions/pendingactions/policy/RiskTier;Ljava/lang/String;Ljava/lang/String;)V"), (0, .methodref 37 43), (0, .nameAndType 44 45), (0, u "isAutoApproved"), (0, u "()Z"), (3, u "law"), (0, u "(IIII)Z")] 4

def k1m0 : Method := { name := "<init>", desc := "()V", sig := { parameters := [], returnType := none }, accessFlags := 1, code := none }
def k1c1 : Code := { maxStack := 2, maxLocals := 1, code := method_2_code, exceptionTable := #[], attributes := #[] }
def k1m1 : Method := { name := "pick", desc := "(I)Lcom/example/pending_actions/pendingactions/policy/RiskTier;", sig := { parameters := [.int], returnType := some (.object "com/example/pending_actions/pendingactions/policy/RiskTier") }, accessFlags := 10, code := some k1c1 }
def k1c2 : Code := { maxStack := 5, maxLocals := 15, code := code, exceptionTable := #[], attributes := #[] }
def k1m2 : Method := { name := "law", desc := "(IIII)Z", sig := { parameters := [.int, .int, .int, .int], returnType := some .boolean }, accessFlags := 9, code := some k1c2 }
/-- com/example/pending_actions/pendingactions/policy/AssessmentIsAutoApprovedPinLaw -/
def k1 : Class := { plain "com/example/pending_actions/pendingactions/policy/AssessmentIsAutoApprovedPinLaw" (some 0) with
  accessFlags := 49
  interfaces := #[]
  cf := some (fileOf pool1 27 #[] #[{ accessFlags := 1, nameIndex := 5, descriptorIndex := 6, attributes := #[] }, { accessFlags := 10, nameIndex := 30, descriptorIndex := 31, attributes := #[] }, { accessFlags := 9, nameIndex := 49, descriptorIndex := 50, attributes := #[] }] 49 2 #[] #[])
  fields := #[]
  methods := #[k1m0, k1m1, k1m2]
  instanceTypes := #[]
  staticTypes := #[]
  resolved := Array.replicate 55 none
  statics := none }

def pool2 : Array CpInfo := pool [(1, .class_ 2), (0, u "java/io/Serializable"), (0, .class_ 4), (0, u "java/lang/Object")] 2

/-- java/io/Serializable -/
def k2 : Class := { plain "java/io/Serializable" (some 0) with
  accessFlags := 1537
  interfaces := #[]
  cf := some (fileOf pool2 1 #[] #[] 1537 3 #[] #[])
  fields := #[]
  methods := #[]
  instanceTypes := #[]
  staticTypes := #[]
  resolved := Array.replicate 7 none
  statics := none }

def pool3 : Array CpInfo := pool [(1, .class_ 2), (0, u "java/lang/Comparable"), (0, .class_ 4), (0, u "java/lang/Object")] 7

/-- java/lang/Comparable -/
def k3 : Class := { plain "java/lang/Comparable" (some 0) with
  accessFlags := 1537
  interfaces := #[]
  cf := some (fileOf pool3 1 #[] #[] 1537 3 #[] #[])
  fields := #[]
  methods := #[]
  instanceTypes := #[]
  staticTypes := #[]
  resolved := Array.replicate 12 none
  statics := none }

def pool4 : Array CpInfo := pool [(2, .class_ 4), (1, u "java/lang/CharSequence"), (42, .class_ 48), (0, u "java/lang/CharSequence$1CodePointIterator"), (10, .class_ 60), (0, u "java/lang/CharSequence$1CharIterator"), (5, .class_ 67), (0, u "java/lang/Object")] 63

/-- java/lang/CharSequence -/
def k4 : Class := { plain "java/lang/CharSequence" (some 0) with
  accessFlags := 1537
  interfaces := #[]
  cf := some (fileOf pool4 2 #[.nestMembers #[47, 59]] #[] 1537 66 #[] #[])
  fields := #[]
  methods := #[]
  instanceTypes := #[]
  staticTypes := #[]
  resolved := Array.replicate 131 none
  statics := none }

def pool5 : Array CpInfo := pool [(1, .class_ 2), (0, u "java/lang/constant/Constable"), (0, .class_ 4), (0, u "java/lang/Object")] 6

/-- java/lang/constant/Constable -/
def k5 : Class := { plain "java/lang/constant/Constable" (some 0) with
  accessFlags := 1537
  interfaces := #[]
  cf := some (fileOf pool5 1 #[] #[] 1537 3 #[] #[])
  fields := #[]
  methods := #[]
  instanceTypes := #[]
  staticTypes := #[]
  resolved := Array.replicate 11 none
  statics := none }

def pool6 : Array CpInfo := pool [(1, .class_ 2), (0, u "java/lang/constant/ConstantDesc"), (0, .class_ 4), (0, u "java/lang/Object")] 32

/-- java/lang/constant/ConstantDesc -/
def k6 : Class := { plain "java/lang/constant/ConstantDesc" (some 0) with
  accessFlags := 1537
  interfaces := #[]
  cf := some (fileOf pool6 1 #[] #[] 1537 3 #[] #[])
  fields := #[]
  methods := #[]
  instanceTypes := #[]
  staticTypes := #[]
  resolved := Array.replicate 37 none
  statics := none }

def pool7 : Array CpInfo := pool [(1, .methodref 2 3), (0, .class_ 4), (0, .nameAndType 5 6), (0, u "java/lang/Object"), (0, u "<init>"), (0, u "()V"), (0, .string 8), (0, u ""), (0, .fieldref 10 11), (0, .class_ 12), (0, .nameAndType 13 14), (0, u "java/lang/String"), (0, u "value"), (0, u "[B"), (0, .fieldref 10 16), (0, .nameAndType 17 18), (0, u "coder"), (0, u "B"), (2, u "hash"), (0, u "I"), (2, u "hashIsZero"), (0, u "Z"), (0, .methodref 10 28), (0, .nameAndType 5 29), (0, u "([CIILjava/lang/Void;)V"), (8, .fieldref 10 39), (0, .nameAndType 40 26), (0, u "COMPACT_STRINGS"), (1, .class_ 44), (1, u "java/lang/StringUTF16"), (0, u "compress"), (1, .methodref 42 48), (0, .nameAndType 49 50), (0, u "coderFromArrayLen"), (0, u "([BI)B"), (126, .methodref 42 178), (0, .nameAndType 45 179), (0, u "([CII)[B"), (395, .class_ 576), (0, u "java/lang/CharSequence"), (22, u "CASE_INSENSITIVE_ORDER"), (0, u "Ljava/util/Comparator;"), (409, u "([C)V"), (90, u "serialPersistentFields"), (0, u "[Ljava/io/ObjectStreamField;"), (0, .class_ 1104), (0, u "java/lang/String$CaseInsensitiveComparator"), (1, .class_ 1107), (0, u "java/io/Serializable"), (0, .class_ 1109), (0, u "java/lang/Comparable"), (0, .class_ 1111), (0, u "java/lang/constant/Constable"), (0, .class_ 1113), (0, u "java/lang/constant/ConstantDesc"), (2, u "serialVersionUID"), (0, u "J"), (3, u "REPL"), (0, u "C"), (2, u "LATIN1"), (1, u "UTF16")] 323

def k7m0 : Method := { name := "<init>", desc := "()V", sig := { parameters := [], returnType := none }, accessFlags := 1, code := none }
def k7c1 : Code := { maxStack := 5, maxLocals := 2, code := jdk_42_method_3_code, exceptionTable := #[], attributes := #[] }
def k7m1 : Method := { name := "<init>", desc := "([C)V", sig := { parameters := [(.array .char)], returnType := none }, accessFlags := 1, code := some k7c1 }
def k7c2 : Code := { maxStack := 4, maxLocals := 6, code := jdk_42_method_149_code, exceptionTable := #[], attributes := #[] }
def k7m2 : Method := { name := "<init>", desc := "([CIILjava/lang/Void;)V", sig := { parameters := [(.array .char), .int, .int, (.object "java/lang/Void")], returnType := none }, accessFlags := 2, code := some k7c2 }
/-- java/lang/String -/
def k7 : Class := { plain "java/lang/String" (some 0) with
  accessFlags := 49
  interfaces := #[2, 3, 4, 5, 6]
  cf := some (fileOf pool7 10 #[.nestMembers #[1103]] #[{ accessFlags := 1, nameIndex := 5, descriptorIndex := 6, attributes := #[] }, { accessFlags := 1, nameIndex := 5, descriptorIndex := 1010, attributes := #[] }, { accessFlags := 2, nameIndex := 5, descriptorIndex := 29, attributes := #[] }] 49 2 #[1106, 1108, 575, 1110, 1112] #[{ accessFlags := 18, nameIndex := 13, descriptorIndex := 14, attributes := #[] }, { accessFlags := 18, nameIndex := 17, descriptorIndex := 18, attributes := #[] }, { accessFlags := 2, nameIndex := 21, descriptorIndex := 22, attributes := #[] }, { accessFlags := 2, nameIndex := 25, descriptorIndex := 26, attributes := #[] }, { accessFlags := 26, nameIndex := 1116, descriptorIndex := 1117, attributes := #[] }, { accessFlags := 24, nameIndex := 40, descriptorIndex := 26, attributes := #[] }, { accessFlags := 26, nameIndex := 1101, descriptorIndex := 1102, attributes := #[] }, { accessFlags := 26, nameIndex := 1121, descriptorIndex := 1122, attributes := #[] }, { accessFlags := 25, nameIndex := 599, descriptorIndex := 600, attributes := #[] }, { accessFlags := 24, nameIndex := 1125, descriptorIndex := 18, attributes := #[] }, { accessFlags := 24, nameIndex := 1127, descriptorIndex := 18, attributes := #[] }])
  fields := #[{ name := "value", type := (.array .byte), accessFlags := 18, slot := 0, constantValue := 0 }, { name := "coder", type := .byte, accessFlags := 18, slot := 1, constantValue := 0 }, { name := "hash", type := .int, accessFlags := 2, slot := 2, constantValue := 0 }, { name := "hashIsZero", type := .boolean, accessFlags := 2, slot := 3, constantValue := 0 }, { name := "serialVersionUID", type := .long, accessFlags := 26, slot := 0, constantValue := 0 }, { name := "COMPACT_STRINGS", type := .boolean, accessFlags := 24, slot := 1, constantValue := 0 }, { name := "serialPersistentFields", type := (.array (.object "java/io/ObjectStreamField")), accessFlags := 26, slot := 2, constantValue := 0 }, { name := "REPL", type := .char, accessFlags := 26, slot := 3, constantValue := 0 }, { name := "CASE_INSENSITIVE_ORDER", type := (.object "java/util/Comparator"), accessFlags := 25, slot := 4, constantValue := 0 }, { name := "LATIN1", type := .byte, accessFlags := 24, slot := 5, constantValue := 0 }, { name := "UTF16", type := .byte, accessFlags := 24, slot := 6, constantValue := 0 }]
  methods := #[k7m0, k7m1, k7m2]
  instanceTypes := #[(.array .byte), .byte, .int, .boolean]
  staticTypes := #[.long, .boolean, (.array (.object "java/io/ObjectStreamField")), .char, (.object "java/util/Comparator"), .byte, .byte]
  resolved := Array.replicate 1451 none
  statics := some 0 }

def pool8 : Array CpInfo := pool [(1, .methodref 2 3), (0, .class_ 4), (0, .nameAndType 5 6), (0, u "java/lang/Object"), (0, u "<init>"), (0, u "()V"), (0, .fieldref 8 9), (0, .class_ 10), (0, .nameAndType 11 12), (0, u "com/example/pending_actions/pendingactions/policy/Assessment"), (0, u "tier"), (0, u "Lcom/example/pending_actions/pendingactions/policy/RiskTier;"), (0, .fieldref 8 14), (0, .nameAndType 15 16), (0, u "decider"), (0, u "Ljava/lang/String;"), (0, .fieldref 8 18), (0, .nameAndType 19 16), (0, u "policyVersion"), (0, u "(Lcom/example/pending_actions/pendingactions/policy/RiskTier;Ljava/lang/String;Ljava/lang/String;)V"), (4, u "()Z"), (1, u "isAutoApproved")] 3

def k8c0 : Code := { maxStack := 2, maxLocals := 4, code := prog_13_method_1_code, exceptionTable := #[], attributes := #[] }
def k8m0 : Method := { name := "<init>", desc := "(Lcom/example/pending_actions/pendingactions/policy/RiskTier;Ljava/lang/String;Ljava/lang/String;)V", sig := { parameters := [(.object "com/example/pending_actions/pendingactions/policy/RiskTier"), (.object "java/lang/String"), (.object "java/lang/String")], returnType := none }, accessFlags := 0, code := some k8c0 }
def k8c1 : Code := { maxStack := 1, maxLocals := 1, code := prog_13_method_4_code, exceptionTable := #[], attributes := #[] }
def k8m1 : Method := { name := "isAutoApproved", desc := "()Z", sig := { parameters := [], returnType := some .boolean }, accessFlags := 1, code := some k8c1 }
/-- com/example/pending_actions/pendingactions/policy/Assessment -/
def k8 : Class := { plain "com/example/pending_actions/pendingactions/policy/Assessment" (some 0) with
  accessFlags := 49
  interfaces := #[]
  cf := some (fileOf pool8 8 #[] #[{ accessFlags := 0, nameIndex := 5, descriptorIndex := 20, attributes := #[] }, { accessFlags := 1, nameIndex := 27, descriptorIndex := 25, attributes := #[] }] 49 2 #[] #[{ accessFlags := 18, nameIndex := 11, descriptorIndex := 12, attributes := #[] }, { accessFlags := 18, nameIndex := 15, descriptorIndex := 16, attributes := #[] }, { accessFlags := 18, nameIndex := 19, descriptorIndex := 16, attributes := #[] }])
  fields := #[{ name := "tier", type := (.object "com/example/pending_actions/pendingactions/policy/RiskTier"), accessFlags := 18, slot := 0, constantValue := 0 }, { name := "decider", type := (.object "java/lang/String"), accessFlags := 18, slot := 1, constantValue := 0 }, { name := "policyVersion", type := (.object "java/lang/String"), accessFlags := 18, slot := 2, constantValue := 0 }]
  methods := #[k8m0, k8m1]
  instanceTypes := #[(.object "com/example/pending_actions/pendingactions/policy/RiskTier"), (.object "java/lang/String"), (.object "java/lang/String")]
  staticTypes := #[]
  resolved := Array.replicate 31 none
  statics := none }

def pool9 : Array CpInfo := pool [(2, .class_ 4), (1, u "java/lang/Enum"), (0, u "name"), (0, u "Ljava/lang/String;"), (2, u "ordinal"), (0, u "I"), (1, .class_ 14), (1, u "java/lang/Object"), (4, u "hash"), (86, .class_ 108), (1, u "java/lang/Enum$EnumDesc"), (2, .class_ 112), (0, u "java/lang/constant/Constable"), (0, .class_ 114), (0, u "java/lang/Comparable"), (0, .class_ 116), (0, u "java/io/Serializable")] 87

/-- java/lang/Enum -/
def k9 : Class := { plain "java/lang/Enum" (some 0) with
  accessFlags := 1057
  interfaces := #[5, 3, 2]
  cf := some (fileOf pool9 2 #[.nestMembers #[106]] #[] 1057 12 #[111, 113, 115] #[{ accessFlags := 18, nameIndex := 5, descriptorIndex := 6, attributes := #[] }, { accessFlags := 18, nameIndex := 9, descriptorIndex := 10, attributes := #[] }, { accessFlags := 2, nameIndex := 19, descriptorIndex := 10, attributes := #[] }])
  fields := #[{ name := "name", type := (.object "java/lang/String"), accessFlags := 18, slot := 0, constantValue := 0 }, { name := "ordinal", type := .int, accessFlags := 18, slot := 1, constantValue := 0 }, { name := "hash", type := .int, accessFlags := 2, slot := 2, constantValue := 0 }]
  methods := #[]
  instanceTypes := #[(.object "java/lang/String"), .int, .int]
  staticTypes := #[]
  resolved := Array.replicate 204 none
  statics := none }

def pool10 : Array CpInfo := pool [(1, .class_ 2), (0, u "com/example/pending_actions/pendingactions/policy/RiskTier"), (2, u "L1"), (0, u "Lcom/example/pending_actions/pendingactions/policy/RiskTier;"), (2, u "L2"), (2, u "L3"), (2, u "L4"), (2, u "L5"), (2, u "$VALUES"), (0, u "[Lcom/example/pending_actions/pendingactions/policy/RiskTier;"), (6, .class_ 31), (1, u "java/lang/Enum"), (8, u "number"), (0, u "I")] 50

/-- com/example/pending_actions/pendingactions/policy/RiskTier -/
def k10 : Class := { plain "com/example/pending_actions/pendingactions/policy/RiskTier" (some 9) with
  accessFlags := 16433
  interfaces := #[]
  cf := some (fileOf pool10 1 #[] #[] 16433 29 #[] #[{ accessFlags := 16409, nameIndex := 5, descriptorIndex := 6, attributes := #[] }, { accessFlags := 16409, nameIndex := 9, descriptorIndex := 6, attributes := #[] }, { accessFlags := 16409, nameIndex := 12, descriptorIndex := 6, attributes := #[] }, { accessFlags := 16409, nameIndex := 15, descriptorIndex := 6, attributes := #[] }, { accessFlags := 16409, nameIndex := 18, descriptorIndex := 6, attributes := #[] }, { accessFlags := 18, nameIndex := 40, descriptorIndex := 41, attributes := #[] }, { accessFlags := 4122, nameIndex := 21, descriptorIndex := 22, attributes := #[] }])
  fields := #[{ name := "L1", type := (.object "com/example/pending_actions/pendingactions/policy/RiskTier"), accessFlags := 16409, slot := 0, constantValue := 0 }, { name := "L2", type := (.object "com/example/pending_actions/pendingactions/policy/RiskTier"), accessFlags := 16409, slot := 1, constantValue := 0 }, { name := "L3", type := (.object "com/example/pending_actions/pendingactions/policy/RiskTier"), accessFlags := 16409, slot := 2, constantValue := 0 }, { name := "L4", type := (.object "com/example/pending_actions/pendingactions/policy/RiskTier"), accessFlags := 16409, slot := 3, constantValue := 0 }, { name := "L5", type := (.object "com/example/pending_actions/pendingactions/policy/RiskTier"), accessFlags := 16409, slot := 4, constantValue := 0 }, { name := "number", type := .int, accessFlags := 18, slot := 3, constantValue := 0 }, { name := "$VALUES", type := (.array (.object "com/example/pending_actions/pendingactions/policy/RiskTier")), accessFlags := 4122, slot := 5, constantValue := 0 }]
  methods := #[]
  instanceTypes := #[(.object "java/lang/String"), .int, .int, .int]
  staticTypes := #[(.object "com/example/pending_actions/pendingactions/policy/RiskTier"), (.object "com/example/pending_actions/pendingactions/policy/RiskTier"), (.object "com/example/pending_actions/pendingactions/policy/RiskTier"), (.object "com/example/pending_actions/pendingactions/policy/RiskTier"), (.object "com/example/pending_actions/pendingactions/policy/RiskTier"), (.array (.object "com/example/pending_actions/pendingactions/policy/RiskTier"))]
  resolved := Array.replicate 92 none
  statics := some 1 }

def pool11 : Array CpInfo := pool [(6, .class_ 8), (1, u "java/lang/Object"), (0, u "<init>"), (0, u "()V"), (1, .class_ 14), (1, u "java/lang/StringUTF16"), (31, u "$assertionsDisabled"), (0, u "Z"), (13, u "HI_BYTE_SHIFT"), (0, u "I"), (2, u "LO_BYTE_SHIFT"), (49, .methodref 12 116), (0, .nameAndType 117 118), (0, u "compress"), (0, u "([CI[BII)I"), (3, u "([CII)[B"), (138, u "coderFromArrayLen"), (0, u "([BI)B"), (106, .class_ 371), (1, u "java/lang/StringUTF16$LinesSpliterator"), (58, u "MAX_LENGTH"), (196, .class_ 628), (0, u "java/lang/StringUTF16$CodePointsSpliterator"), (0, .class_ 630), (0, u "java/lang/StringUTF16$CharsSpliterator")] 4

def k11m0 : Method := { name := "<init>", desc := "()V", sig := { parameters := [], returnType := none }, accessFlags := 0, code := none }
def k11c1 : Code := { maxStack := 2, maxLocals := 2, code := jdk_52_method_15_code, exceptionTable := #[], attributes := #[] }
def k11m1 : Method := { name := "coderFromArrayLen", desc := "([BI)B", sig := { parameters := [(.array .byte), .int], returnType := some .byte }, accessFlags := 8, code := some k11c1 }
def k11c2 : Code := { maxStack := 5, maxLocals := 6, code := jdk_52_method_16_code, exceptionTable := #[], attributes := #[] }
def k11m2 : Method := { name := "compress", desc := "([CII)[B", sig := { parameters := [(.array .char), .int, .int], returnType := some (.array .byte) }, accessFlags := 9, code := some k11c2 }
def k11c3 : Code := { maxStack := 3, maxLocals := 7, code := jdk_52_method_21_code, exceptionTable := #[], attributes := #[] }
def k11m3 : Method := { name := "compress", desc := "([CI[BII)I", sig := { parameters := [(.array .char), .int, (.array .byte), .int, .int], returnType := some .int }, accessFlags := 9, code := some k11c3 }
/-- java/lang/StringUTF16 -/
def k11 : Class := { plain "java/lang/StringUTF16" (some 0) with
  accessFlags := 48
  interfaces := #[]
  cf := some (fileOf pool11 12 #[.nestMembers #[627, 629, 369]] #[{ accessFlags := 0, nameIndex := 9, descriptorIndex := 10, attributes := #[] }, { accessFlags := 8, nameIndex := 261, descriptorIndex := 262, attributes := #[] }, { accessFlags := 9, nameIndex := 117, descriptorIndex := 122, attributes := #[] }, { accessFlags := 9, nameIndex := 117, descriptorIndex := 118, attributes := #[] }] 48 6 #[] #[{ accessFlags := 26, nameIndex := 61, descriptorIndex := 62, attributes := #[] }, { accessFlags := 26, nameIndex := 65, descriptorIndex := 62, attributes := #[] }, { accessFlags := 24, nameIndex := 430, descriptorIndex := 62, attributes := #[] }, { accessFlags := 4120, nameIndex := 46, descriptorIndex := 47, attributes := #[] }])
  fields := #[{ name := "HI_BYTE_SHIFT", type := .int, accessFlags := 26, slot := 0, constantValue := 0 }, { name := "LO_BYTE_SHIFT", type := .int, accessFlags := 26, slot := 1, constantValue := 0 }, { name := "MAX_LENGTH", type := .int, accessFlags := 24, slot := 2, constantValue := 0 }, { name := "$assertionsDisabled", type := .boolean, accessFlags := 4120, slot := 3, constantValue := 0 }]
  methods := #[k11m0, k11m1, k11m2, k11m3]
  instanceTypes := #[]
  staticTypes := #[.int, .int, .int, .boolean]
  resolved := Array.replicate 635 none
  statics := none }

def pool12 : Array CpInfo := pool [(4, .class_ 6), (1, u "java/lang/Object"), (0, u "<init>"), (0, u "()V"), (5, .class_ 16), (1, u "java/lang/StringLatin1"), (104, u "$assertionsDisabled"), (0, u "Z"), (98, .class_ 223), (1, u "java/lang/StringLatin1$LinesSpliterator"), (166, .class_ 391), (0, u "java/lang/StringLatin1$CharsSpliterator")] 3

def k12m0 : Method := { name := "<init>", desc := "()V", sig := { parameters := [], returnType := none }, accessFlags := 0, code := none }
/-- java/lang/StringLatin1 -/
def k12 : Class := { plain "java/lang/StringLatin1" (some 0) with
  accessFlags := 48
  interfaces := #[]
  cf := some (fileOf pool12 14 #[.nestMembers #[390, 221]] #[{ accessFlags := 0, nameIndex := 7, descriptorIndex := 8, attributes := #[] }] 48 4 #[] #[{ accessFlags := 4120, nameIndex := 121, descriptorIndex := 122, attributes := #[] }])
  fields := #[{ name := "$assertionsDisabled", type := .boolean, accessFlags := 4120, slot := 0, constantValue := 0 }]
  methods := #[k12m0]
  instanceTypes := #[]
  staticTypes := #[.boolean]
  resolved := Array.replicate 395 none
  statics := none }

def pool13 : Array CpInfo := pool [(2, .class_ 4), (1, u "java/lang/Object"), (0, u "<init>"), (0, u "()V"), (17, .class_ 26), (1, u "jdk/internal/util/Preconditions"), (28, .class_ 56), (0, u "jdk/internal/util/Preconditions$4"), (57, .class_ 115), (0, u "jdk/internal/util/Preconditions$1"), (7, u "SIOOBE_FORMATTER"), (0, u "Ljava/util/function/BiFunction;"), (0, .class_ 126), (0, u "jdk/internal/util/Preconditions$2"), (3, u "AIOOBE_FORMATTER"), (0, .class_ 132), (0, u "jdk/internal/util/Preconditions$3"), (3, u "IOOBE_FORMATTER")] 57

def k13m0 : Method := { name := "<init>", desc := "()V", sig := { parameters := [], returnType := none }, accessFlags := 1, code := none }
/-- jdk/internal/util/Preconditions -/
def k13 : Class := { plain "jdk/internal/util/Preconditions" (some 0) with
  accessFlags := 33
  interfaces := #[]
  cf := some (fileOf pool13 24 #[.nestMembers #[55, 131, 125, 114]] #[{ accessFlags := 1, nameIndex := 5, descriptorIndex := 6, attributes := #[] }] 33 2 #[] #[{ accessFlags := 25, nameIndex := 123, descriptorIndex := 124, attributes := #[] }, { accessFlags := 25, nameIndex := 130, descriptorIndex := 124, attributes := #[] }, { accessFlags := 25, nameIndex := 136, descriptorIndex := 124, attributes := #[] }])
  fields := #[{ name := "SIOOBE_FORMATTER", type := (.object "java/util/function/BiFunction"), accessFlags := 25, slot := 0, constantValue := 0 }, { name := "AIOOBE_FORMATTER", type := (.object "java/util/function/BiFunction"), accessFlags := 25, slot := 1, constantValue := 0 }, { name := "IOOBE_FORMATTER", type := (.object "java/util/function/BiFunction"), accessFlags := 25, slot := 2, constantValue := 0 }]
  methods := #[k13m0]
  instanceTypes := #[]
  staticTypes := #[(.object "java/util/function/BiFunction"), (.object "java/util/function/BiFunction"), (.object "java/util/function/BiFunction")]
  resolved := Array.replicate 194 none
  statics := some 2 }

def pool14 : Array CpInfo := pool [(9, u "<init>"), (6, .class_ 18), (1, u "java/lang/Object"), (0, u "()V"), (1, .class_ 23), (1, u "jdk/internal/util/ArraysSupport"), (0, u "LOG2_ARRAY_LONG_INDEX_SCALE"), (0, u "I"), (2, u "U"), (0, u "Ljdk/internal/misc/Unsafe;"), (8, u "BIG_ENDIAN"), (0, u "Z"), (8, u "LOG2_BYTE_BIT_SIZE"), (4, u "LOG2_ARRAY_INT_INDEX_SCALE"), (54, u "JLA"), (0, u "Ljdk/internal/access/JavaLangAccess;"), (11, u "LOG2_ARRAY_BOOLEAN_INDEX_SCALE"), (9, u "LOG2_ARRAY_BYTE_INDEX_SCALE"), (5, u "LOG2_ARRAY_CHAR_INDEX_SCALE"), (5, u "LOG2_ARRAY_SHORT_INDEX_SCALE"), (18, u "LOG2_ARRAY_FLOAT_INDEX_SCALE"), (24, u "LOG2_ARRAY_DOUBLE_INDEX_SCALE"), (89, u "T_BOOLEAN"), (2, u "T_CHAR"), (1, u "T_FLOAT"), (1, u "T_DOUBLE"), (1, u "T_BYTE"), (1, u "T_SHORT"), (1, u "T_INT"), (1, u "T_LONG"), (1, u "SOFT_MAX_ARRAY_LENGTH")] 83

def k14m0 : Method := { name := "<init>", desc := "()V", sig := { parameters := [], returnType := none }, accessFlags := 2, code := none }
/-- jdk/internal/util/ArraysSupport -/
def k14 : Class := { plain "jdk/internal/util/ArraysSupport" (some 0) with
  accessFlags := 33
  interfaces := #[]
  cf := some (fileOf pool14 21 #[] #[{ accessFlags := 2, nameIndex := 9, descriptorIndex := 19, attributes := #[] }] 33 16 #[] #[{ accessFlags := 24, nameIndex := 28, descriptorIndex := 29, attributes := #[] }, { accessFlags := 26, nameIndex := 38, descriptorIndex := 39, attributes := #[] }, { accessFlags := 25, nameIndex := 121, descriptorIndex := 25, attributes := #[] }, { accessFlags := 25, nameIndex := 131, descriptorIndex := 25, attributes := #[] }, { accessFlags := 25, nameIndex := 137, descriptorIndex := 25, attributes := #[] }, { accessFlags := 25, nameIndex := 143, descriptorIndex := 25, attributes := #[] }, { accessFlags := 25, nameIndex := 53, descriptorIndex := 25, attributes := #[] }, { accessFlags := 25, nameIndex := 24, descriptorIndex := 25, attributes := #[] }, { accessFlags := 25, nameIndex := 162, descriptorIndex := 25, attributes := #[] }, { accessFlags := 25, nameIndex := 187, descriptorIndex := 25, attributes := #[] }, { accessFlags := 26, nameIndex := 48, descriptorIndex := 25, attributes := #[] }, { accessFlags := 25, nameIndex := 277, descriptorIndex := 25, attributes := #[] }, { accessFlags := 25, nameIndex := 280, descriptorIndex := 25, attributes := #[] }, { accessFlags := 25, nameIndex := 282, descriptorIndex := 25, attributes := #[] }, { accessFlags := 25, nameIndex := 284, descriptorIndex := 25, attributes := #[] }, { accessFlags := 25, nameIndex := 286, descriptorIndex := 25, attributes := #[] }, { accessFlags := 25, nameIndex := 288, descriptorIndex := 25, attributes := #[] }, { accessFlags := 25, nameIndex := 290, descriptorIndex := 25, attributes := #[] }, { accessFlags := 25, nameIndex := 292, descriptorIndex := 25, attributes := #[] }, { accessFlags := 26, nameIndex := 108, descriptorIndex := 109, attributes := #[] }, { accessFlags := 25, nameIndex := 294, descriptorIndex := 25, attributes := #[] }])
  fields := #[{ name := "U", type := (.object "jdk/internal/misc/Unsafe"), accessFlags := 24, slot := 0, constantValue := 0 }, { name := "BIG_ENDIAN", type := .boolean, accessFlags := 26, slot := 1, constantValue := 0 }, { name := "LOG2_ARRAY_BOOLEAN_INDEX_SCALE", type := .int, accessFlags := 25, slot := 2, constantValue := 0 }, { name := "LOG2_ARRAY_BYTE_INDEX_SCALE", type := .int, accessFlags := 25, slot := 3, constantValue := 0 }, { name := "LOG2_ARRAY_CHAR_INDEX_SCALE", type := .int, accessFlags := 25, slot := 4, constantValue := 0 }, { name := "LOG2_ARRAY_SHORT_INDEX_SCALE", type := .int, accessFlags := 25, slot := 5, constantValue := 0 }, { name := "LOG2_ARRAY_INT_INDEX_SCALE", type := .int, accessFlags := 25, slot := 6, constantValue := 0 }, { name := "LOG2_ARRAY_LONG_INDEX_SCALE", type := .int, accessFlags := 25, slot := 7, constantValue := 0 }, { name := "LOG2_ARRAY_FLOAT_INDEX_SCALE", type := .int, accessFlags := 25, slot := 8, constantValue := 0 }, { name := "LOG2_ARRAY_DOUBLE_INDEX_SCALE", type := .int, accessFlags := 25, slot := 9, constantValue := 0 }, { name := "LOG2_BYTE_BIT_SIZE", type := .int, accessFlags := 26, slot := 10, constantValue := 0 }, { name := "T_BOOLEAN", type := .int, accessFlags := 25, slot := 11, constantValue := 0 }, { name := "T_CHAR", type := .int, accessFlags := 25, slot := 12, constantValue := 0 }, { name := "T_FLOAT", type := .int, accessFlags := 25, slot := 13, constantValue := 0 }, { name := "T_DOUBLE", type := .int, accessFlags := 25, slot := 14, constantValue := 0 }, { name := "T_BYTE", type := .int, accessFlags := 25, slot := 15, constantValue := 0 }, { name := "T_SHORT", type := .int, accessFlags := 25, slot := 16, constantValue := 0 }, { name := "T_INT", type := .int, accessFlags := 25, slot := 17, constantValue := 0 }, { name := "T_LONG", type := .int, accessFlags := 25, slot := 18, constantValue := 0 }, { name := "JLA", type := (.object "jdk/internal/access/JavaLangAccess"), accessFlags := 26, slot := 19, constantValue := 0 }, { name := "SOFT_MAX_ARRAY_LENGTH", type := .int, accessFlags := 25, slot := 20, constantValue := 0 }]
  methods := #[k14m0]
  instanceTypes := #[]
  staticTypes := #[(.object "jdk/internal/misc/Unsafe"), .boolean, .int, .int, .int, .int, .int, .int, .int, .int, .int, .int, .int, .int, .int, .int, .int, .int, .int, (.object "jdk/internal/access/JavaLangAccess"), .int]
  resolved := Array.replicate 378 none
  statics := none }

def pool15 : Array CpInfo := pool [(1, u "java/lang/Cloneable"), (0, .class_ 1), (0, u "java/lang/Object"), (0, .class_ 3)] 3

/-- java/lang/Cloneable -/
def k15 : Class := { plain "java/lang/Cloneable" (some 0) with
  accessFlags := 1537
  interfaces := #[]
  cf := some (fileOf pool15 2 #[] #[] 1537 4 #[] #[])
  fields := #[]
  methods := #[]
  instanceTypes := #[]
  staticTypes := #[]
  resolved := Array.replicate 8 none
  statics := none }

/-- the primitive byte -/
def k16 : Class := { plain "byte" none with kind := .primitive 'B', accessFlags := 0x411 }
/-- [B -/
def k17 : Class := { plain "[B" (some 0) with kind := .array 16 .byte, interfaces := #[15, 2], accessFlags := 1041 }

/-- the primitive char -/
def k18 : Class := { plain "char" none with kind := .primitive 'C', accessFlags := 0x411 }
/-- [C -/
def k19 : Class := { plain "[C" (some 0) with kind := .array 18 .char, interfaces := #[15, 2], accessFlags := 1041 }

/-- the primitive int -/
def k20 : Class := { plain "int" none with kind := .primitive 'I', accessFlags := 0x411 }
/-- [I -/
def k21 : Class := { plain "[I" (some 0) with kind := .array 20 .int, interfaces := #[15, 2], accessFlags := 1041 }

def heap : Heap := #[{ cls := 7, slots := #[.long 0, .int 1, .null, .int 0, .null, .int 0, .int 0], vm := .statics 7 },
  { cls := 10, slots := #[.ref 3, .ref 7, .ref 5, .ref 4, .ref 6, .null], vm := .statics 10 },
  { cls := 13, slots := #[.null, .null, .null], vm := .statics 13 },
  { cls := 10, slots := #[.null, .int 0, .int 0, .int 0], vm := .none },
  { cls := 10, slots := #[.null, .int 0, .int 0, .int 0], vm := .none },
  { cls := 10, slots := #[.null, .int 0, .int 0, .int 0], vm := .none },
  { cls := 10, slots := #[.null, .int 0, .int 0, .int 0], vm := .none },
  { cls := 10, slots := #[.null, .int 0, .int 0, .int 0], vm := .none }]
def classes : Array Class := #[k0, k1, k2, k3, k4, k5, k6, k7, k8, k9, k10, k11, k12, k13, k14, k15, k16, k17, k18, k19, k20, k21]
def interned : List (Array UInt16 × Addr) := []
def slotsUsed : Nat := 36
def theMethod : MethodId := ⟨1, 2⟩
def args0 : Array Value := #[.int 7, .int 1, .int 2, .int 300]
def aboutOver (below : List Frame) : State where
  vm := { classes := classes, interned := interned.toArray }
  heap := heap
  slotsUsed := slotsUsed
  threads := #[{ frames := .invoking theMethod args0 :: below }]
def below0 : List Frame := [.native { method := ⟨0, 0⟩, args := #[] }]
def about1 : State := aboutOver below0
def p0 : Program := .bare "" "" ""
def e0 : Env := launch0.env 0 0 0
theorem w_frames : about1.frames = Frame.invoking theMethod args0 :: below0 := rfl
set_option maxRecDepth 65536 in
theorem w_args : argsFit about1.vm theMethod args0 = true := by decide +kernel
set_option maxRecDepth 65536 in
theorem w_heap : heapFits about1 = true := by decide +kernel
set_option maxRecDepth 65536 in
theorem w_runnable : about1.curStatus? = some .runnable := by decide +kernel
set_option maxRecDepth 65536 in
theorem w_alone : about1.alone = true := by decide +kernel
set_option maxRecDepth 65536 in
theorem w_named : about1.methodNamed? x = some theMethod := by decide +kernel
set_option maxRecDepth 65536 in
theorem w_hears : about1.hears theMethod below0 = true := by decide +kernel
set_option maxRecDepth 65536 in
theorem w_ripe : about1.ripe theMethod args0 below0 = true := by decide +kernel
theorem w_running : about1.status = .running := rfl
set_option maxRecDepth 65536 in
theorem w_room : about1.hasRoom e0.platform room_1 = true :=
  launch0.hasRoom_least _ room_1 (by decide +kernel) (by decide +kernel) (by decide +kernel) (by decide +kernel) (by decide +kernel) (by decide +kernel)
theorem allAtoms_all (ts : List Jvm.Cond) (a : Array Jvm.Value) (st : Jvm.State) : (allAtoms ts).before a st = ts.all (fun c => c.before a st) := by
  induction ts with
  | nil => rfl
  | cons c t ih =>
    show (Jvm.Cond.and c (allAtoms t)).before a st = _
    rw [Jvm.Cond.before_and, ih, List.all_cons]
def words1 : List Jvm.Cond := Jvm.Cond.code x code maxLocals ret :: tables_1
/-- a 'code' word, met by the world's own term for the bytes: nothing is compared byte by byte -/
theorem code_word {y : MethodName} {bytes : ByteArray} {mx : Nat} {rt : Option FieldType} {a : Array Value} {s : State} {m : MethodId} {meth : Method} {c : Code} (h1 : s.methodNamed? y = some m) (h2 : s.vm.method? m = some meth) (h3 : meth.code = some c) (h4 : c.code = bytes)
    (h5 : (c.maxLocals == mx && c.exceptionTable.isEmpty && decide (c.maxStack ≤ mostOperands) && decide (meth.sig.returnType = rt) && !meth.locks && decide (parseMethodDescriptor y.desc = some meth.sig)) = true) : (Jvm.Cond.code y bytes mx rt).before a s = true := by
  simp only [Bool.and_eq_true, beq_iff_eq, Bool.not_eq_true', decide_eq_true_eq] at h5
  obtain ⟨⟨⟨⟨⟨g1, g2⟩, g3⟩, g4⟩, g5⟩, g6⟩ := h5
  simp [Cond.before, Cond.holds, Cond.value, h1, h2, h3, h4, g1, g2, g3, g4, g5, g6]
def isCode : Jvm.Cond → Bool
  | .code _ _ _ _ => true
  | _ => false
theorem all_split {L : List Jvm.Cond} {P : Jvm.Cond → Bool} (h1 : L.all (fun c => isCode c || P c) = true) (h2 : ∀ c ∈ L.filter isCode, P c = true) : L.all P = true := by
  refine List.all_eq_true.mpr fun c hc => ?_
  have h := List.all_eq_true.mp h1 c hc
  rcases Bool.eq_false_or_eq_true (isCode c) with hi | hi
  · exact h2 c (List.mem_filter.mpr ⟨hc, hi⟩)
  · simpa [hi] using h
set_option maxRecDepth 65536 in
theorem w_c0 : (Jvm.Cond.code x code maxLocals ret).before args0 about1 = true := code_word (m := ⟨1, 2⟩) (meth := k1m2) (c := k1c2) (by decide +kernel) rfl rfl rfl (by decide +kernel)
set_option maxRecDepth 65536 in
theorem w_c1 : (Jvm.Cond.code ({ cls := "com/example/pending_actions/pendingactions/policy/AssessmentIsAutoApprovedPinLaw", name := "pick", desc := "(I)Lcom/example/pending_actions/pendingactions/policy/RiskTier;" } : Jvm.MethodName) method_2_code (1 : Nat) (Option.some (Jvm.ClassFile.FieldType.object "com/example/pending_actions/pendingactions/policy/RiskTier"))).before args0 about1 = true := code_word (m := ⟨1, 1⟩) (meth := k1m1) (c := k1c1) (by decide +kernel) rfl rfl rfl (by decide +kernel)
set_option maxRecDepth 65536 in
theorem w_c2 : (Jvm.Cond.code ({ cls := "java/lang/String", name := "<init>", desc := "([C)V" } : Jvm.MethodName) jdk_42_method_3_code (2 : Nat) (Option.none : Option Jvm.ClassFile.FieldType)).before args0 about1 = true := code_word (m := ⟨7, 1⟩) (meth := k7m1) (c := k7c1) (by decide +kernel) rfl rfl rfl (by decide +kernel)
set_option maxRecDepth 65536 in
theorem w_c3 : (Jvm.Cond.code ({ cls := "java/lang/String", name := "<init>", desc := "([CIILjava/lang/Void;)V" } : Jvm.MethodName) jdk_42_method_149_code (6 : Nat) (Option.none : Option Jvm.ClassFile.FieldType)).before args0 about1 = true := code_word (m := ⟨7, 2⟩) (meth := k7m2) (c := k7c2) (by decide +kernel) rfl rfl rfl (by decide +kernel)
set_option maxRecDepth 65536 in
theorem w_c4 : (Jvm.Cond.code ({ cls := "java/lang/Object", name := "<init>", desc := "()V" } : Jvm.MethodName) object_method_1_code (1 : Nat) (Option.none : Option Jvm.ClassFile.FieldType)).before args0 about1 = true := code_word (m := ⟨0, 0⟩) (meth := k0m0) (c := k0c0) (by decide +kernel) rfl rfl rfl (by decide +kernel)
set_option maxRecDepth 65536 in
theorem w_c5 : (Jvm.Cond.code ({ cls := "com/example/pending_actions/pendingactions/policy/Assessment", name := "<init>", desc := "(Lcom/example/pending_actions/pendingactions/policy/RiskTier;Ljava/lang/String;Ljava/lang/String;)V" } : Jvm.MethodName) prog_13_method_1_code (4 : Nat) (Option.none : Option Jvm.ClassFile.FieldType)).before args0 about1 = true := code_word (m := ⟨8, 0⟩) (meth := k8m0) (c := k8c0) (by decide +kernel) rfl rfl rfl (by decide +kernel)
set_option maxRecDepth 65536 in
theorem w_c6 : (Jvm.Cond.code ({ cls := "com/example/pending_actions/pendingactions/policy/Assessment", name := "isAutoApproved", desc := "()Z" } : Jvm.MethodName) prog_13_method_4_code (1 : Nat) (Option.some Jvm.ClassFile.FieldType.boolean)).before args0 about1 = true := code_word (m := ⟨8, 1⟩) (meth := k8m1) (c := k8c1) (by decide +kernel) rfl rfl rfl (by decide +kernel)
set_option maxRecDepth 65536 in
theorem w_c7 : (Jvm.Cond.code ({ cls := "java/lang/StringUTF16", name := "compress", desc := "([CII)[B" } : Jvm.MethodName) jdk_52_method_16_code (6 : Nat) (Option.some (Jvm.ClassFile.FieldType.array Jvm.ClassFile.FieldType.byte))).before args0 about1 = true := code_word (m := ⟨11, 2⟩) (meth := k11m2) (c := k11c2) (by decide +kernel) rfl rfl rfl (by decide +kernel)
set_option maxRecDepth 65536 in
theorem w_c8 : (Jvm.Cond.code ({ cls := "java/lang/StringUTF16", name := "compress", desc := "([CI[BII)I" } : Jvm.MethodName) jdk_52_method_21_code (7 : Nat) (Option.some Jvm.ClassFile.FieldType.int)).before args0 about1 = true := code_word (m := ⟨11, 3⟩) (meth := k11m3) (c := k11c3) (by decide +kernel) rfl rfl rfl (by decide +kernel)
set_option maxRecDepth 65536 in
theorem w_c9 : (Jvm.Cond.code ({ cls := "java/lang/StringUTF16", name := "coderFromArrayLen", desc := "([BI)B" } : Jvm.MethodName) jdk_52_method_15_code (2 : Nat) (Option.some Jvm.ClassFile.FieldType.byte)).before args0 about1 = true := code_word (m := ⟨11, 1⟩) (meth := k11m1) (c := k11c1) (by decide +kernel) rfl rfl rfl (by decide +kernel)
def codes1 : List Jvm.Cond := [Jvm.Cond.code x code maxLocals ret, Jvm.Cond.code ({ cls := "com/example/pending_actions/pendingactions/policy/AssessmentIsAutoApprovedPinLaw", name := "pick", desc := "(I)Lcom/example/pending_actions/pendingactions/policy/RiskTier;" } : Jvm.MethodName) method_2_code (1 : Nat) (Option.some (Jvm.ClassFile.FieldType.object "com/example/pending_actions/pendingactions/policy/RiskTier")), Jvm.Cond.code ({ cls := "java/lang/String", name := "<init>", desc := "([C)V" } : Jvm.MethodName) jdk_42_method_3_code (2 : Nat) (Option.none : Option Jvm.ClassFile.FieldType), Jvm.Cond.code ({ cls := "java/lang/String", name := "<init>", desc := "([CIILjava/lang/Void;)V" } : Jvm.MethodName) jdk_42_method_149_code (6 : Nat) (Option.none : Option Jvm.ClassFile.FieldType), Jvm.Cond.code ({ cls := "java/lang/Object", name := "<init>", desc := "()V" } : Jvm.MethodName) object_method_1_code (1 : Nat) (Option.none : Option Jvm.ClassFile.FieldType), Jvm.Cond.code ({ cls := "com/example/pending_actions/pendingactions/policy/Assessment", name := "<init>", desc := "(Lcom/example/pending_actions/pendingactions/policy/RiskTier;Ljava/lang/String;Ljava/lang/String;)V" } : Jvm.MethodName) prog_13_method_1_code (4 : Nat) (Option.none : Option Jvm.ClassFile.FieldType), Jvm.Cond.code ({ cls := "com/example/pending_actions/pendingactions/policy/Assessment", name := "isAutoApproved", desc := "()Z" } : Jvm.MethodName) prog_13_method_4_code (1 : Nat) (Option.some Jvm.ClassFile.FieldType.boolean), Jvm.Cond.code ({ cls := "java/lang/StringUTF16", name := "compress", desc := "([CII)[B" } : Jvm.MethodName) jdk_52_method_16_code (6 : Nat) (Option.some (Jvm.ClassFile.FieldType.array Jvm.ClassFile.FieldType.byte)), Jvm.Cond.code ({ cls := "java/lang/StringUTF16", name := "compress", desc := "([CI[BII)I" } : Jvm.MethodName) jdk_52_method_21_code (7 : Nat) (Option.some Jvm.ClassFile.FieldType.int), Jvm.Cond.code ({ cls := "java/lang/StringUTF16", name := "coderFromArrayLen", desc := "([BI)B" } : Jvm.MethodName) jdk_52_method_15_code (2 : Nat) (Option.some Jvm.ClassFile.FieldType.byte)]
set_option maxRecDepth 65536 in
theorem codes_eq : words1.filter isCode = codes1 := rfl
theorem w_codes : ∀ c ∈ words1.filter isCode, c.before args0 about1 = true := by
  rw [codes_eq]
  intro c hc
  simp only [codes1, List.mem_cons, List.not_mem_nil, or_false] at hc
  rcases hc with rfl | rfl | rfl | rfl | rfl | rfl | rfl | rfl | rfl | rfl
  · exact w_c0
  · exact w_c1
  · exact w_c2
  · exact w_c3
  · exact w_c4
  · exact w_c5
  · exact w_c6
  · exact w_c7
  · exact w_c8
  · exact w_c9
set_option maxRecDepth 65536 in
theorem w_t1 : (words1.take 24).all (fun c => isCode c || c.before args0 about1) = true := by decide +kernel
set_option maxRecDepth 65536 in
theorem w_t2 : ((words1.drop 24).take 24).all (fun c => isCode c || c.before args0 about1) = true := by decide +kernel
set_option maxRecDepth 65536 in
theorem w_t3 : ((words1.drop 24).drop 24).all (fun c => isCode c || c.before args0 about1) = true := by decide +kernel
theorem w_tables : (allAtoms (Jvm.Cond.code x code maxLocals ret :: tables_1)).before args0 about1 = true := by
  rw [allAtoms_all]
  show words1.all (fun c => c.before args0 about1) = true
  refine all_split ?_ w_codes
  rw [← List.take_append_drop 24 words1, List.all_append, w_t1, ← List.take_append_drop 24 (words1.drop 24), List.all_append, w_t2, w_t3]
  rfl
set_option maxRecDepth 65536 in
theorem w_rest : rest_1_c.before args0 about1 = true := by decide +kernel
set_option maxRecDepth 65536 in
theorem w_case : (Jvm.Cond.and given_1 narrow_1).before args0 about1 = true := by decide +kernel
set_option maxRecDepth 65536 in
theorem w_consts : constsHeld consts_1 about1 := Jvm.Lit.constsHeldB_iff.mp (by decide +kernel)
theorem w_applies : (headSpec (Jvm.Cond.code x code maxLocals ret :: tables_1) room_1).applies x e0.platform about1 = true :=
  (Spec.applies_iff w_frames).mpr ⟨w_running, w_runnable, w_alone, w_named, w_hears, w_ripe, w_room, w_tables⟩
theorem atStart : AtStart classFile x code maxLocals ret World_1 tables_1 room_1 Calls_1 rest_1 Pre_1 launch0 p0 e0 about1 theMethod args0 below0 :=
  ⟨lists_1, trivial, launch0.admits_env _ _ _, launch0.least_env, fairChoices_fair.cas, fairChoices_fair.clock, w_frames, w_args, w_heap, w_applies, ⟨w_consts, trivial⟩, w_rest, w_case⟩
end start1
theorem witness_1 : WitnessClaimed_1 := ⟨start1.p0, start1.e0, start1.about1, start1.theMethod, start1.args0, start1.below0, start1.atStart⟩
end Jvm.Pilot.@@N@@
