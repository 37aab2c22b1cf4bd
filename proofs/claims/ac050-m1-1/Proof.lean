import JvmDerived
import JvmDerived.Pilot.@@N@@Statement
import JvmDerived.Pilot.@@N@@Code
set_option linter.unusedVariables false
set_option linter.unusedSimpArgs false
namespace Jvm.RoadKit
open Sem ClassFile Op Lib Jvm.Stand Jvm.Free Jvm.LawKit
section New
variable {p : Program} {l : Launch} {e : Env} {R : Room} {s : State} {m : MethodId} {args : Array Value} {below : List Frame} {meth : Method} {c : Code} {T : State} {locs : List Loc} {cells slots : Nat}
theorem retI (X : Stand p l e R s m args below meth c T locs cells slots) (hx : p.tables.exec = Jvm.exec) {pc : Nat} {Ls : Array Slot} {z : Int32} {rest : List Value} (hret : meth.sig.returnType = some .int) (hd : decode c.code pc = .ok (.ireturn, 1)) {fs : List Frame}
    (hl : ∀ (f : JFrame) (acts : List Action), f.method = m → f.locked = none → f.entered = [] → (doReturn e (T.setTop f) acts (some (.int z))).1 = T.setFrames fs) : Steps p.tables e below (T.setTop (mkF m pc Ls (.int z :: rest))) (T.setFrames fs) := by
  have hm' : T.vm.method? m = some meth := X.method'
  have hn : narrow .int (.int z) = .int z := rfl
  show Steps p.tables e below (T.setTop { method := m, pc := pc, locals := Ls, stack := _ :: rest, locked := none }) _
  jvm_step X.here [X.here.top, hx, hd, hm', hret, hn]
  first | (intro acts; rw [hl _ acts rfl rfl rfl]) | rw [hl _ _ rfl rfl rfl]
  exact Steps.refl _
end New
end Jvm.RoadKit
namespace Jvm.Pilot.@@N@@
open Jvm Jvm.ClassFile Sem Op Lib Jvm.Free Jvm.Stand Jvm.LawKit Jvm.RoadKit Bundle Jvm.Pilot.@@N@@.Jvm.D
def own_Q (r : Option Value) (h0 : Heap) (n0 : Nat) (v : Option Value) (h : Heap) (L : List Loc) : Prop := v = r ∧ Fr n0 L ∧ h = h0
theorem own_eqI {args : Array Value} {Z : State} {t : Term} {k : Int32} (h : (Cond.eq t (Term.int k)).value args Z none Z [] = some true) : t.eval args Z none [] Z = some (.int k) := by
  simp only [Cond.value, Term.eval] at h
  cases ht : t.eval args Z none [] Z with
  | none => simp [ht] at h
  | some v => cases v <;> simp [ht] at h ⊢ <;> exact h
theorem own_eqR {args : Array Value} {Z : State} {t u : Term} {y : Addr} (h : (Cond.eq t u).value args Z none Z [] = some true) (hu : u.eval args Z none [] Z = some (.ref y)) : t.eval args Z none [] Z = some (.ref y) := by
  simp only [Cond.value, hu] at h
  cases ht : t.eval args Z none [] Z with
  | none => simp [ht] at h
  | some v => cases v <;> simp [ht] at h ⊢ <;> exact h
theorem own_len {args : Array Value} {Z : State} {t : Term} {a : Addr} {cl : Cell} {ty : FieldType} {z : Int32} (A : Arr Z Z.heap a cl ty) (ht : t.eval args Z none [] Z = some (.ref a)) (hl : (Term.length t).eval args Z none [] Z = some (.int z)) : cl.slots.size < 2 ^ 31 ∧ cl.slots.size.toInt32 = z := by
  have ha : Z.arrayAt? a = some cl := Arr.fin (State.Warmed39.refl Z).alike A
  by_cases q : cl.slots.size < 2 ^ 31
  · rw [len_f ht ha q] at hl; exact ⟨q, Value.int.inj (Option.some.inj hl)⟩
  · simp [Term.eval, ht, ha, q] at hl
def own_Ctx (Z : State) (h : Heap) (s_V s_T s_N s_E : Addr) (cl_V : Cell) : Prop := (Sta Z h "com/example/rubrique/rubrique/render/Area" "$VALUES" "[Lcom/example/rubrique/rubrique/render/Area;" (.ref s_V)) ∧ (Exa Z h s_V "[Lcom/example/rubrique/rubrique/render/Area;") ∧ (Arr Z h s_V cl_V (.object "com/example/rubrique/rubrique/render/Area")) ∧ (FitC Z cl_V) ∧ (cl_V.slots.size = (2 : Int32).toNatClampNeg) ∧ (Has cl_V [(.ref s_T), (.ref s_N)] .null) ∧ (∀ i, i < cl_V.slots.size → fits (.object "com/example/rubrique/rubrique/render/Area") (List.getD [(.ref s_T), (.ref s_N)] i .null) = true) ∧ (Sta Z h "com/example/rubrique/rubrique/render/Area" "TITLE" "Lcom/example/rubrique/rubrique/render/Area;" (.ref s_T)) ∧ (Exa Z h s_T "com/example/rubrique/rubrique/render/Area") ∧ (Fld Z h s_T "com/example/rubrique/rubrique/render/Area" "number" "I" (.int (1 : Int32))) ∧ (Sta Z h "com/example/rubrique/rubrique/render/Area" "NOTES" "Lcom/example/rubrique/rubrique/render/Area;" (.ref s_N)) ∧ (Exa Z h s_N "com/example/rubrique/rubrique/render/Area") ∧ (Fld Z h s_N "com/example/rubrique/rubrique/render/Area" "number" "I" (.int (7 : Int32))) ∧ (Sta Z h "java/util/Optional" "EMPTY" "Ljava/util/Optional;" (.ref s_E)) ∧ (Exa Z h s_E "java/util/Optional") ∧ (Fld Z h s_E "java/util/Optional" "value" "Ljava/lang/Object;" .null)
def own_Qv (Z : State) (s_T s_N : Addr) (cl_V : Cell) (h0 : Heap) (n0 : Nat) (v : Option Value) (h : Heap) (L : List Loc) : Prop := ∃ t : Addr, v = some (.ref t) ∧ Fr n0 L ∧ Keep h0 h [] ∧ h0.size ≤ t ∧ (Arv Z h t cl_V.cls (.object "com/example/rubrique/rubrique/render/Area") (2 : Int32) [(.ref s_T), (.ref s_N)] .null)
theorem d2_0 : decode prog_41_method_1_code 0 = .ok (.getstatic 10, 3) := by decide +kernel
theorem d2_3 : decode prog_41_method_1_code 3 = .ok (.invokevirtual 14, 3) := by decide +kernel
theorem d2_6 : decode prog_41_method_1_code 6 = .ok (.checkcast 15, 3) := by decide +kernel
theorem d2_9 : decode prog_41_method_1_code 9 = .ok (.areturn, 1) := by decide +kernel
theorem ef_2_0 (m : MethodId)  : entryFrame m #[] 0 = mkF m 0 #[] [] := by first | (simp [entryFrame, mkF, argsToLocals, Value.category]; done) | rfl
theorem pn_0 : plainName "com/example/rubrique/rubrique/render/Area" = true := by first | (simp [plainName, overriddenIn]; done) | decide +kernel
set_option maxRecDepth 65536 in
set_option maxHeartbeats 40000000 in
theorem r_vals (l : Launch) (Z : State) (a0 : Array Value) (hw : ∀ d ∈ tables_1, d.before a0 Z = true) (ws : List Jvm.Cond) (s_V s_T s_N s_E : Addr) (cl_V : Cell) (h0 : Heap) (n0 : Nat) (O0 : Old Z n0 h0) (G : own_Ctx Z Z.heap s_V s_T s_N s_E cl_V)   :
    MetFree l (⟨"com/example/rubrique/rubrique/render/Area", "values", "()[Lcom/example/rubrique/rubrique/render/Area;"⟩ : MethodName) (head1 (Jvm.Cond.code (⟨"com/example/rubrique/rubrique/render/Area", "values", "()[Lcom/example/rubrique/rubrique/render/Area;"⟩ : MethodName) prog_41_method_1_code 0 (some (.array (.object "com/example/rubrique/rubrique/render/Area"))) :: ws) ({ frames := 1, cells := 1, slots := 2, locals := 14 } : Room)) (fun a U => a = #[] ∧ Z.Warmed39 U.vm ∧ U.heap = h0) (fun _ _ _ _ _ => True) (fun _ U o U' => ∃ v L, o = .returned v ∧ own_Qv Z s_T s_N cl_V h0 n0 v U'.heap L ∧ FrameEnd U o U' L ({ frames := 1, cells := 1, slots := 2, locals := 14 } : Room).cells ({ frames := 1, cells := 1, slots := 2, locals := 14 } : Room).slots) := by
  have G0 := G
  obtain ⟨S_V, E_V, A_V, FC_V, L_V, Hs_V, Gf_V, S_T, E_T, F_T, S_N, E_N, F_N, S_E, E_E, F_E⟩ := G
  refine MetFree.of_bodySF (plainFor_of_name pn_0) hisR ?_
  intro p e s m args below meth c s₁ Bd hml0 hP hK
  obtain ⟨rfl, hZ, hh⟩ := hP
  have hx := Bd.exec
  have hby := Bd.bytes
  have hml : c.maxLocals = 0 := hml0
  have hown : s.vm.findClass "com/example/rubrique/rubrique/render/Area" = some m.cls := findClass_of_methodNamed Bd.named
  have hnm := (name_of_methodNamed Bd.named Bd.method).1
  have X0 : Stand p l e ({ frames := 1, cells := 1, slots := 2, locals := 14 } : Room) s m #[] below meth c s₁ [] 0 0 := Stand.of_body Bd
  have e0 : s₁.heap = h0 := by rw [← hh, Bd.state]; rfl
  have N0 := Fr.nil n0
  have pre0 : ∀ t, Steps p.tables e below (s₁.setTop (mkF m 0 #[] [])) t → Steps p.tables e below (s₁.setTop (entryFrame m #[] 0)) t := fun t k => castTop (ef_2_0 m ) k
  obtain ⟨T1, X1, e1, st1⟩ := getS2 X0 hx hZ hown (host := "") (Or.inl (hw _ (List.mem_of_getElem? (i := 7) rfl))) Via.refl e0 (S_V.ext O0.2) (g := (mkF m 0 #[] [])) rfl (hb hby d2_0)
  obtain ⟨T2, h2, X2, e2, E2, A2, B2, st2⟩ := cloneA X1 hx hZ hown (hw _ (List.mem_of_getElem? (i := 9) rfl)) (hw _ (List.mem_of_getElem? (i := 10) rfl)) (hw _ (List.mem_of_getElem? (i := 14) rfl)) (hw _ (List.mem_of_getElem? (i := 12) rfl)) (hw _ (List.mem_of_getElem? (i := 13) rfl)) (hw _ (List.mem_of_getElem? (i := 15) rfl)) e1 (A_V.ext O0.2) (E_V.ext O0.2) FC_V (g := (mkF m 3 #[] [(.ref s_V)])) rfl (by rw [hml]; rfl) rfl (hb hby d2_3) (by decide) (W := 0) (cap := 2) (by show 2 * 0 + _ ≤ _; exact Nat.le_of_eq rfl) (by decide) (by rw [L_V]; decide) (by decide) (by decide)
  obtain ⟨b2, g2⟩ : ∃ z, z = h0.size := ⟨_, rfl⟩
  have ne_s_V_b2 : s_V ≠ b2 := Nat.ne_of_lt (Nat.lt_of_lt_of_le (E_V.ext O0.2).lt (Nat.le_of_eq g2.symm))
  have ne_s_T_b2 : s_T ≠ b2 := Nat.ne_of_lt (Nat.lt_of_lt_of_le (E_T.ext O0.2).lt (Nat.le_of_eq g2.symm))
  have ne_s_N_b2 : s_N ≠ b2 := Nat.ne_of_lt (Nat.lt_of_lt_of_le (E_N.ext O0.2).lt (Nat.le_of_eq g2.symm))
  have ne_s_E_b2 : s_E ≠ b2 := Nat.ne_of_lt (Nat.lt_of_lt_of_le (E_E.ext O0.2).lt (Nat.le_of_eq g2.symm))
  have g_b2 : n0 ≤ b2 := Nat.le_trans (O0.1 ▸ O0.2.1) (Nat.le_of_eq g2.symm)
  have sz_b2 : h0.size ≤ b2 := Nat.le_trans (Keep.refl h0 []).1 (Nat.le_of_eq g2.symm)
  rw [← g2] at A2 B2 st2
  have O2 := O0.ext E2
  have K2 : Keep h0 h2 [] := (Keep.refl h0 []).ext E2
  have V2 : Arv Z h2 b2 cl_V.cls (.object "com/example/rubrique/rubrique/render/Area") (2 : Int32) [(.ref s_T), (.ref s_N)] .null := ⟨cloneOf cl_V, A2, rfl, L_V, by decide, Hs_V, Gf_V⟩
  obtain ⟨T3, X3, e3, st3⟩ := castY X2 hx hZ hown (hw _ (List.mem_of_getElem? (i := 19) rfl)) e2 (Ins.self B2) (g := (mkF m 6 #[] [(.ref b2)])) rfl rfl (hb hby d2_6)
  obtain ⟨fs, hr, hrun, hended, hW, hsame⟩ := X3.leave (v := some (.ref b2)) (fun h => by rw [Bd.returns] at h; cases h)
  refine ⟨_, _, pre0 _ ?_, hrun, hended, _, _, rfl, ?_, ⟨_, rfl⟩, hW, hsame.mono (by decide) (by decide)⟩
  · show Steps p.tables e below (s₁.setTop (mkF m 0 #[] [])) _
    refine st1 _ ?_
    show Steps p.tables e below (T1.setTop (mkF m 3 #[] [(.ref s_V)])) _
    refine st2 _ ?_
    show Steps p.tables e below (T2.setTop (mkF m 6 #[] [(.ref b2)])) _
    refine st3 _ ?_
    show Steps p.tables e below (T3.setTop (mkF m 9 #[] [(.ref b2)])) _
    exact retOut X3 hx Bd.returns rfl (Or.inr (Or.inr (Or.inr (Or.inr ⟨rfl, rfl, rfl⟩)))) (hb hby d2_9) hr
  · show own_Qv Z s_T s_N cl_V h0 n0 _ T3.heap _
    rw [e3]
    exact ⟨b2, rfl, N0, K2, sz_b2, V2⟩
def own_QoI (Z : State) (a1 a2 : Addr) (h0 : Heap) (n0 : Nat) (v : Option Value) (h : Heap) (L : List Loc) : Prop := v = none ∧ Fr n0 L ∧ Keep h0 h [a1] ∧ (Fld Z h a1 "java/util/Optional" "value" "Ljava/lang/Object;" (.ref a2))
theorem d7_0 : decode jdk_32_method_2_code 0 = .ok (.aload_n 0, 1) := by decide +kernel
theorem d7_1 : decode jdk_32_method_2_code 1 = .ok (.invokespecial 7, 3) := by decide +kernel
theorem d7_4 : decode jdk_32_method_2_code 4 = .ok (.aload_n 0, 1) := by decide +kernel
theorem d7_5 : decode jdk_32_method_2_code 5 = .ok (.aload_n 1, 1) := by decide +kernel
theorem d7_6 : decode jdk_32_method_2_code 6 = .ok (.putfield 13, 3) := by decide +kernel
theorem d7_9 : decode jdk_32_method_2_code 9 = .ok (.return_, 1) := by decide +kernel
theorem ef_7_1 (m : MethodId) (x0 : Addr) (x1 : Addr) : entryFrame m #[(.ref x0), (.ref x1)] 2 = mkF m 0 #[.val (.ref x0), .val (.ref x1)] [] := by first | (simp [entryFrame, mkF, argsToLocals, Value.category]; done) | rfl
theorem pn_1 : plainName "java/util/Optional" = true := by first | (simp [plainName, overriddenIn]; done) | decide +kernel
set_option maxRecDepth 65536 in
set_option maxHeartbeats 40000000 in
theorem r_oinit (l : Launch) (Z : State) (a0 : Array Value) (hw : ∀ d ∈ tables_1, d.before a0 Z = true) (ws : List Jvm.Cond) (s_V s_T s_N s_E : Addr) (cl_V : Cell) (h0 : Heap) (n0 : Nat) (O0 : Old Z n0 h0) (G : own_Ctx Z Z.heap s_V s_T s_N s_E cl_V) (a1 a2 : Addr) (Ea : Exa Z h0 a1 "java/util/Optional") (ga : n0 ≤ a1) (Fv : Fld Z h0 a1 "java/util/Optional" "value" "Ljava/lang/Object;" .null) :
    MetFree l (⟨"java/util/Optional", "<init>", "(Ljava/lang/Object;)V"⟩ : MethodName) (head1 (Jvm.Cond.code (⟨"java/util/Optional", "<init>", "(Ljava/lang/Object;)V"⟩ : MethodName) jdk_32_method_2_code 2 none :: ws) ({ frames := 1, cells := 0, slots := 0, locals := 12 } : Room)) (fun a U => a = #[(.ref a1), (.ref a2)] ∧ Z.Warmed39 U.vm ∧ U.heap = h0) (fun _ _ _ _ _ => True) (fun _ U o U' => ∃ v L, o = .returned v ∧ own_QoI Z a1 a2 h0 n0 v U'.heap L ∧ FrameEnd U o U' L ({ frames := 1, cells := 0, slots := 0, locals := 12 } : Room).cells ({ frames := 1, cells := 0, slots := 0, locals := 12 } : Room).slots) := by
  have G0 := G
  obtain ⟨S_V, E_V, A_V, FC_V, L_V, Hs_V, Gf_V, S_T, E_T, F_T, S_N, E_N, F_N, S_E, E_E, F_E⟩ := G
  refine MetFree.of_bodySF (plainFor_of_name pn_1) hisR ?_
  intro p e s m args below meth c s₁ Bd hml0 hP hK
  obtain ⟨rfl, hZ, hh⟩ := hP
  have hx := Bd.exec
  have hby := Bd.bytes
  have hml : c.maxLocals = 2 := hml0
  have hown : s.vm.findClass "java/util/Optional" = some m.cls := findClass_of_methodNamed Bd.named
  have hnm := (name_of_methodNamed Bd.named Bd.method).1
  have X0 : Stand p l e ({ frames := 1, cells := 0, slots := 0, locals := 12 } : Room) s m #[(.ref a1), (.ref a2)] below meth c s₁ [] 0 0 := Stand.of_body Bd
  have e0 : s₁.heap = h0 := by rw [← hh, Bd.state]; rfl
  have N0 := Fr.nil n0
  have pre0 : ∀ t, Steps p.tables e below (s₁.setTop (mkF m 0 #[.val (.ref a1), .val (.ref a2)] [])) t → Steps p.tables e below (s₁.setTop (entryFrame m #[(.ref a1), (.ref a2)] 2)) t := fun t k => castTop (ef_7_1 m a1 a2) k
  obtain ⟨T1, X1, e1, st1⟩ := initO X0 hx hZ hown (hw _ (List.mem_of_getElem? (i := 48) rfl)) (hw _ (List.mem_of_getElem? (i := 49) rfl)) (hw _ (List.mem_of_getElem? (i := 50) rfl)) e0 (g := (mkF m 1 #[.val (.ref a1), .val (.ref a2)] [(.ref a1)])) rfl (by rw [hml]; rfl) rfl (hb hby d7_1) (by decide) (W := 0) (by show 2 * 0 + _ ≤ _; exact Nat.le_of_eq rfl) (by decide)
  obtain ⟨T2, h2, X2, e2, W2, st2⟩ := putF X1 hx hZ hown (host := "") (Or.inl (hw _ (List.mem_of_getElem? (i := 33) rfl))) Via.refl e1 Fv Ea (Or.inr ⟨(hw _ (List.mem_of_getElem? (i := 34) rfl)), rfl, hnm⟩) (hw _ (List.mem_of_getElem? (i := 39) rfl)) (ty := (.object "java/lang/Object")) (by decide) rfl rfl (g := (mkF m 6 #[.val (.ref a1), .val (.ref a2)] [(.ref a2), (.ref a1)])) rfl rfl (hb hby d7_6)
  have f3 := Ea.wr W2
  have O2 := O0.wr W2 ga
  have K2 : Keep h0 h2 [a1] := (Keep.refl h0 [a1]).wr W2 (Or.inl (List.mem_of_getElem? (i := 0) rfl))
  have N2 := Fr.snoc X2 N0 ga
  have f4 := Fv.same W2
  obtain ⟨fs, hr, hrun, hended, hW, hsame⟩ := X2.leave (v := none) (fun _ => rfl)
  refine ⟨_, _, pre0 _ ?_, hrun, hended, _, _, rfl, ?_, ⟨_, rfl⟩, hW, hsame.mono (by decide) (by decide)⟩
  · show Steps p.tables e below (s₁.setTop (mkF m 0 #[.val (.ref a1), .val (.ref a2)] [])) _
    refine XS.aloadN X0.here hx rfl (hb hby d7_0) rfl rfl ?_
    show Steps p.tables e below (s₁.setTop (mkF m 1 #[.val (.ref a1), .val (.ref a2)] [(.ref a1)])) _
    refine st1 _ ?_
    show Steps p.tables e below (T1.setTop (mkF m 4 #[.val (.ref a1), .val (.ref a2)] [])) _
    refine XS.aloadN X1.here hx rfl (hb hby d7_4) rfl rfl ?_
    show Steps p.tables e below (T1.setTop (mkF m 5 #[.val (.ref a1), .val (.ref a2)] [(.ref a1)])) _
    refine XS.aloadN X1.here hx rfl (hb hby d7_5) rfl rfl ?_
    show Steps p.tables e below (T1.setTop (mkF m 6 #[.val (.ref a1), .val (.ref a2)] [(.ref a2), (.ref a1)])) _
    refine st2 _ ?_
    show Steps p.tables e below (T2.setTop (mkF m 9 #[.val (.ref a1), .val (.ref a2)] [])) _
    exact X2.returnOut hx Bd.returns (hb hby d7_9) hr
  · show own_QoI Z a1 a2 h0 n0 _ T2.heap _
    rw [e2]
    exact ⟨rfl, N2, K2, f4⟩
theorem d6_0 : decode jdk_31_method_10_code 0 = .ok (.aload_n 0, 1) := by decide +kernel
theorem d6_1 : decode jdk_31_method_10_code 1 = .ok (.ifnonnull 11, 3) := by decide +kernel
theorem d6_12 : decode jdk_31_method_10_code 12 = .ok (.aload_n 0, 1) := by decide +kernel
theorem d6_13 : decode jdk_31_method_10_code 13 = .ok (.areturn, 1) := by decide +kernel
theorem ef_6_2 (m : MethodId) (x0 : Addr) : entryFrame m #[(.ref x0)] 1 = mkF m 0 #[.val (.ref x0)] [] := by first | (simp [entryFrame, mkF, argsToLocals, Value.category]; done) | rfl
theorem pn_2 : plainName "java/util/Objects" = true := by first | (simp [plainName, overriddenIn]; done) | decide +kernel
set_option maxRecDepth 65536 in
set_option maxHeartbeats 40000000 in
theorem r_rnn (l : Launch) (Z : State) (a0 : Array Value) (hw : ∀ d ∈ tables_1, d.before a0 Z = true) (ws : List Jvm.Cond) (s_V s_T s_N s_E : Addr) (cl_V : Cell) (h0 : Heap) (n0 : Nat) (O0 : Old Z n0 h0) (G : own_Ctx Z Z.heap s_V s_T s_N s_E cl_V) (a1 : Addr)  :
    MetFree l (⟨"java/util/Objects", "requireNonNull", "(Ljava/lang/Object;)Ljava/lang/Object;"⟩ : MethodName) (head1 (Jvm.Cond.code (⟨"java/util/Objects", "requireNonNull", "(Ljava/lang/Object;)Ljava/lang/Object;"⟩ : MethodName) jdk_31_method_10_code 1 (some (.object "java/lang/Object")) :: ws) ({ frames := 0, cells := 0, slots := 0, locals := 0 } : Room)) (fun a U => a = #[(.ref a1)] ∧ Z.Warmed39 U.vm ∧ U.heap = h0) (fun _ _ _ _ _ => True) (fun _ U o U' => ∃ v L, o = .returned v ∧ own_Q (some (.ref a1)) h0 n0 v U'.heap L ∧ FrameEnd U o U' L ({ frames := 0, cells := 0, slots := 0, locals := 0 } : Room).cells ({ frames := 0, cells := 0, slots := 0, locals := 0 } : Room).slots) := by
  have G0 := G
  obtain ⟨S_V, E_V, A_V, FC_V, L_V, Hs_V, Gf_V, S_T, E_T, F_T, S_N, E_N, F_N, S_E, E_E, F_E⟩ := G
  refine MetFree.of_bodySF (plainFor_of_name pn_2) hisR ?_
  intro p e s m args below meth c s₁ Bd hml0 hP hK
  obtain ⟨rfl, hZ, hh⟩ := hP
  have hx := Bd.exec
  have hby := Bd.bytes
  have hml : c.maxLocals = 1 := hml0
  have hown : s.vm.findClass "java/util/Objects" = some m.cls := findClass_of_methodNamed Bd.named
  have hnm := (name_of_methodNamed Bd.named Bd.method).1
  have X0 : Stand p l e ({ frames := 0, cells := 0, slots := 0, locals := 0 } : Room) s m #[(.ref a1)] below meth c s₁ [] 0 0 := Stand.of_body Bd
  have e0 : s₁.heap = h0 := by rw [← hh, Bd.state]; rfl
  have N0 := Fr.nil n0
  have pre0 : ∀ t, Steps p.tables e below (s₁.setTop (mkF m 0 #[.val (.ref a1)] [])) t → Steps p.tables e below (s₁.setTop (entryFrame m #[(.ref a1)] 1)) t := fun t k => castTop (ef_6_2 m a1) k
  obtain ⟨fs, hr, hrun, hended, hW, hsame⟩ := X0.leave (v := some (.ref a1)) (fun h => by rw [Bd.returns] at h; cases h)
  refine ⟨_, _, pre0 _ ?_, hrun, hended, _, _, rfl, ?_, ⟨_, rfl⟩, hW, hsame.mono (by decide) (by decide)⟩
  · show Steps p.tables e below (s₁.setTop (mkF m 0 #[.val (.ref a1)] [])) _
    refine XS.aloadN X0.here hx rfl (hb hby d6_0) rfl rfl ?_
    show Steps p.tables e below (s₁.setTop (mkF m 1 #[.val (.ref a1)] [(.ref a1)])) _
    refine XS.ifnonnullYes X0.here hx rfl (pc0 := 1) (pc' := 12) rfl (hb hby d6_1) rfl (by decide) (by decide) ?_
    show Steps p.tables e below (s₁.setTop (mkF m 12 #[.val (.ref a1)] [])) _
    refine XS.aloadN X0.here hx rfl (hb hby d6_12) rfl rfl ?_
    show Steps p.tables e below (s₁.setTop (mkF m 13 #[.val (.ref a1)] [(.ref a1)])) _
    exact retOut X0 hx Bd.returns rfl (Or.inr (Or.inr (Or.inr (Or.inr ⟨rfl, rfl, rfl⟩)))) (hb hby d6_13) hr
  · show own_Q (some (.ref a1)) h0 n0 _ s₁.heap _
    rw [e0]
    exact ⟨rfl, N0, rfl⟩
def own_Qo (Z : State) (a1 : Addr) (h0 : Heap) (n0 : Nat) (v : Option Value) (h : Heap) (L : List Loc) : Prop := ∃ t : Addr, v = some (.ref t) ∧ Fr n0 L ∧ Keep h0 h [] ∧ h0.size ≤ t ∧ (Exa Z h t "java/util/Optional") ∧ (Fld Z h t "java/util/Optional" "value" "Ljava/lang/Object;" (.ref a1))
theorem d5_0 : decode jdk_32_method_3_code 0 = .ok (.new 2, 3) := by decide +kernel
theorem d5_3 : decode jdk_32_method_3_code 3 = .ok (.dup, 1) := by decide +kernel
theorem d5_4 : decode jdk_32_method_3_code 4 = .ok (.aload_n 0, 1) := by decide +kernel
theorem d5_5 : decode jdk_32_method_3_code 5 = .ok (.invokestatic 17, 3) := by decide +kernel
theorem pd_0 : parseMethodDescriptor "(Ljava/lang/Object;)Ljava/lang/Object;" = some ⟨[(.object "java/lang/Object")], some (.object "java/lang/Object")⟩ := by decide +kernel
theorem d5_8 : decode jdk_32_method_3_code 8 = .ok (.invokespecial 23, 3) := by decide +kernel
theorem pd_1 : parseMethodDescriptor "(Ljava/lang/Object;)V" = some ⟨[(.object "java/lang/Object")], none⟩ := by decide +kernel
theorem d5_11 : decode jdk_32_method_3_code 11 = .ok (.areturn, 1) := by decide +kernel
theorem ef_5_3 (m : MethodId) (x0 : Addr) : entryFrame m #[(.ref x0)] 1 = mkF m 0 #[.val (.ref x0)] [] := by first | (simp [entryFrame, mkF, argsToLocals, Value.category]; done) | rfl
set_option maxRecDepth 65536 in
set_option maxHeartbeats 40000000 in
theorem r_of (l : Launch) (Z : State) (a0 : Array Value) (hw : ∀ d ∈ tables_1, d.before a0 Z = true) (ws : List Jvm.Cond) (s_V s_T s_N s_E : Addr) (cl_V : Cell) (h0 : Heap) (n0 : Nat) (O0 : Old Z n0 h0) (G : own_Ctx Z Z.heap s_V s_T s_N s_E cl_V) (a1 : Addr)  :
    MetFree l (⟨"java/util/Optional", "of", "(Ljava/lang/Object;)Ljava/util/Optional;"⟩ : MethodName) (head1 (Jvm.Cond.code (⟨"java/util/Optional", "of", "(Ljava/lang/Object;)Ljava/util/Optional;"⟩ : MethodName) jdk_32_method_3_code 1 (some (.object "java/util/Optional")) :: ws) ({ frames := 2, cells := 1, slots := 1, locals := 26 } : Room)) (fun a U => a = #[(.ref a1)] ∧ Z.Warmed39 U.vm ∧ U.heap = h0) (fun _ _ _ _ _ => True) (fun _ U o U' => ∃ v L, o = .returned v ∧ own_Qo Z a1 h0 n0 v U'.heap L ∧ FrameEnd U o U' L ({ frames := 2, cells := 1, slots := 1, locals := 26 } : Room).cells ({ frames := 2, cells := 1, slots := 1, locals := 26 } : Room).slots) := by
  have G0 := G
  obtain ⟨S_V, E_V, A_V, FC_V, L_V, Hs_V, Gf_V, S_T, E_T, F_T, S_N, E_N, F_N, S_E, E_E, F_E⟩ := G
  refine MetFree.of_bodySF (plainFor_of_name pn_1) hisR ?_
  intro p e s m args below meth c s₁ Bd hml0 hP hK
  obtain ⟨rfl, hZ, hh⟩ := hP
  have hx := Bd.exec
  have hby := Bd.bytes
  have hml : c.maxLocals = 1 := hml0
  have hown : s.vm.findClass "java/util/Optional" = some m.cls := findClass_of_methodNamed Bd.named
  have hnm := (name_of_methodNamed Bd.named Bd.method).1
  have X0 : Stand p l e ({ frames := 2, cells := 1, slots := 1, locals := 26 } : Room) s m #[(.ref a1)] below meth c s₁ [] 0 0 := Stand.of_body Bd
  have e0 : s₁.heap = h0 := by rw [← hh, Bd.state]; rfl
  have N0 := Fr.nil n0
  have pre0 : ∀ t, Steps p.tables e below (s₁.setTop (mkF m 0 #[.val (.ref a1)] [])) t → Steps p.tables e below (s₁.setTop (entryFrame m #[(.ref a1)] 1)) t := fun t k => castTop (ef_5_3 m a1) k
  obtain ⟨T1, h1, X1, e1, E1, A1, D1, -, st1⟩ := newO X0 hx hZ hown (hw _ (List.mem_of_getElem? (i := 38) rfl)) (hw _ (List.mem_of_getElem? (i := 39) rfl)) (hw _ (List.mem_of_getElem? (i := 25) rfl)) e0 (g := (mkF m 0 #[.val (.ref a1)] [])) rfl (hb hby d5_0) (by decide) (by decide)
  obtain ⟨b1, g1⟩ : ∃ z, z = h0.size := ⟨_, rfl⟩
  have ne_s_V_b1 : s_V ≠ b1 := Nat.ne_of_lt (Nat.lt_of_lt_of_le (E_V.ext O0.2).lt (Nat.le_of_eq g1.symm))
  have ne_s_T_b1 : s_T ≠ b1 := Nat.ne_of_lt (Nat.lt_of_lt_of_le (E_T.ext O0.2).lt (Nat.le_of_eq g1.symm))
  have ne_s_N_b1 : s_N ≠ b1 := Nat.ne_of_lt (Nat.lt_of_lt_of_le (E_N.ext O0.2).lt (Nat.le_of_eq g1.symm))
  have ne_s_E_b1 : s_E ≠ b1 := Nat.ne_of_lt (Nat.lt_of_lt_of_le (E_E.ext O0.2).lt (Nat.le_of_eq g1.symm))
  have g_b1 : n0 ≤ b1 := Nat.le_trans (O0.1 ▸ O0.2.1) (Nat.le_of_eq g1.symm)
  have sz_b1 : h0.size ≤ b1 := Nat.le_trans (Keep.refl h0 []).1 (Nat.le_of_eq g1.symm)
  rw [← g1] at A1 D1 st1
  have O1 := O0.ext E1
  have K1 : Keep h0 h1 [] := (Keep.refl h0 []).ext E1
  have F1_34 : Fld Z h1 b1 "java/util/Optional" "value" "Ljava/lang/Object;" .null := D1 (Or.inr (hw _ (List.mem_of_getElem? (i := 34) rfl))) (ty := (.object "java/lang/Object")) (by decide)
  obtain ⟨_, _, ⟨T2, L2, k2, n2⟩, -, X2, ⟨Lc2, hQ2, l2, y2, z2⟩, st2⟩ := Jvm.LawKit.callS X1 hx (y := (⟨"java/util/Objects", "requireNonNull", "(Ljava/lang/Object;)Ljava/lang/Object;"⟩ : MethodName)) hown (mvT hZ (hw _ (List.mem_of_getElem? (i := 40) rfl))) (mvT hZ (hw _ (List.mem_of_getElem? (i := 41) rfl))) (mvT hZ (hw _ (List.mem_of_getElem? (i := 42) rfl))) (mvT hZ (hw _ (List.mem_of_getElem? (i := 43) rfl))) (by decide) (backOf (W := 2) (r_rnn l Z a0 hw [] s_V s_T s_N s_E cl_V h1 n0 O1 G0 a1) hZ (hw _ (List.mem_of_getElem? (i := 43) rfl)) (hw _ (List.mem_of_getElem? (i := 42) rfl)) (by decide) (by decide)) (g := (mkF m 5 #[.val (.ref a1)] [(.ref a1), (.ref b1), (.ref b1)])) rfl (by rw [hml]; rfl) (argsL := [(.ref a1)]) (rest := [(.ref b1), (.ref b1)]) (lenOf pd_0 rfl) rfl (by show 2 * 0 + _ ≤ _; exact Nat.le_of_eq rfl) (hb hby d5_5) (fun _ _ => ⟨rfl, e1, (by decide : 1 + 0 ≤ _), (by decide : 1 + 0 ≤ _)⟩)
  dsimp only [Pt.U, Pt.locs, Pt.cells, Pt.slots] at X2 l2 y2 z2 st2 hQ2
  subst l2 y2 z2
  obtain ⟨rfl, N2q, e2⟩ := hQ2
  have N2 := Fr.app N0 N2q
  obtain ⟨_, _, ⟨T3, L3, k3, n3⟩, -, X3, ⟨Lc3, hQ3, l3, y3, z3⟩, st3⟩ := X2.specialBack hx (y := (⟨"java/util/Optional", "<init>", "(Ljava/lang/Object;)V"⟩ : MethodName)) rfl hown (mvT hZ (hw _ (List.mem_of_getElem? (i := 44) rfl))) (mvT hZ (hw _ (List.mem_of_getElem? (i := 45) rfl))) (mvT hZ (hw _ (List.mem_of_getElem? (i := 47) rfl))) (by decide) (backOf (W := 1) (r_oinit l Z a0 hw [] s_V s_T s_N s_E cl_V h1 n0 O1 G0 b1 a1 A1 g_b1 F1_34) hZ (hw _ (List.mem_of_getElem? (i := 47) rfl)) (hw _ (List.mem_of_getElem? (i := 25) rfl)) (by decide) (by decide)) (g := (mkF m 8 #[.val (.ref a1)] [(.ref a1), (.ref b1), (.ref b1)])) rfl (by rw [hml]; rfl) (Steps.refl _) (a := b1) (argsL := [(.ref a1)]) (rest := [(.ref b1)]) (lenOf pd_1 rfl) rfl (by show 2 * 0 + _ ≤ _; exact Nat.le_of_eq rfl) (hb hby d5_8) (fun _ _ => ⟨rfl, e2, (by decide : 1 + 0 ≤ _), (by decide : 1 + 0 ≤ _)⟩)
  dsimp only [Pt.U, Pt.locs, Pt.cells, Pt.slots] at X3 l3 y3 z3 st3 hQ3
  subst l3 y3 z3
  obtain ⟨rfl, N3q, Kq3, Fv3⟩ := hQ3
  have N3 := Fr.app N2 N3q
  have f4 := A1.keep Kq3
  have O3 := O1.keep Kq3 (allS g_b1 all0)
  have K3 : Keep h0 T3.heap [] := K1.trans Kq3 (allS (Or.inr sz_b1) all0)
  obtain ⟨fs, hr, hrun, hended, hW, hsame⟩ := X3.leave (v := some (.ref b1)) (fun h => by rw [Bd.returns] at h; cases h)
  refine ⟨_, _, pre0 _ ?_, hrun, hended, _, _, rfl, ?_, ⟨_, rfl⟩, hW, hsame.mono (by decide) (by decide)⟩
  · show Steps p.tables e below (s₁.setTop (mkF m 0 #[.val (.ref a1)] [])) _
    refine st1 _ ?_
    show Steps p.tables e below (T1.setTop (mkF m 3 #[.val (.ref a1)] [(.ref b1)])) _
    refine XS.dup X1.here hx rfl (hb hby d5_3) rfl rfl ?_
    show Steps p.tables e below (T1.setTop (mkF m 4 #[.val (.ref a1)] [(.ref b1), (.ref b1)])) _
    refine XS.aloadN X1.here hx rfl (hb hby d5_4) rfl rfl ?_
    show Steps p.tables e below (T1.setTop (mkF m 5 #[.val (.ref a1)] [(.ref a1), (.ref b1), (.ref b1)])) _
    refine st2 _ ?_
    show Steps p.tables e below (T2.setTop (mkF m 8 #[.val (.ref a1)] [(.ref a1), (.ref b1), (.ref b1)])) _
    refine st3.trans ?_
    show Steps p.tables e below (T3.setTop (mkF m 11 #[.val (.ref a1)] [(.ref b1)])) _
    exact retOut X3 hx Bd.returns rfl (Or.inr (Or.inr (Or.inr (Or.inr ⟨rfl, rfl, rfl⟩)))) (hb hby d5_11) hr
  · show own_Qo Z a1 h0 n0 _ T3.heap _
    exact ⟨b1, rfl, N3, K3, sz_b1, f4, Fv3⟩
theorem d3_0 : decode jdk_32_method_1_code 0 = .ok (.getstatic 1, 3) := by decide +kernel
theorem d3_3 : decode jdk_32_method_1_code 3 = .ok (.astore_n 0, 1) := by decide +kernel
theorem d3_4 : decode jdk_32_method_1_code 4 = .ok (.aload_n 0, 1) := by decide +kernel
theorem d3_5 : decode jdk_32_method_1_code 5 = .ok (.areturn, 1) := by decide +kernel
theorem ef_3_4 (m : MethodId)  : entryFrame m #[] 1 = mkF m 0 #[.unset] [] := by first | (simp [entryFrame, mkF, argsToLocals, Value.category]; done) | rfl
set_option maxRecDepth 65536 in
set_option maxHeartbeats 40000000 in
theorem r_emp (l : Launch) (Z : State) (a0 : Array Value) (hw : ∀ d ∈ tables_1, d.before a0 Z = true) (ws : List Jvm.Cond) (s_V s_T s_N s_E : Addr) (cl_V : Cell) (h0 : Heap) (n0 : Nat) (O0 : Old Z n0 h0) (G : own_Ctx Z Z.heap s_V s_T s_N s_E cl_V)   :
    MetFree l (⟨"java/util/Optional", "empty", "()Ljava/util/Optional;"⟩ : MethodName) (head1 (Jvm.Cond.code (⟨"java/util/Optional", "empty", "()Ljava/util/Optional;"⟩ : MethodName) jdk_32_method_1_code 1 (some (.object "java/util/Optional")) :: ws) ({ frames := 0, cells := 0, slots := 0, locals := 0 } : Room)) (fun a U => a = #[] ∧ Z.Warmed39 U.vm ∧ U.heap = h0) (fun _ _ _ _ _ => True) (fun _ U o U' => ∃ v L, o = .returned v ∧ own_Q (some (.ref s_E)) h0 n0 v U'.heap L ∧ FrameEnd U o U' L ({ frames := 0, cells := 0, slots := 0, locals := 0 } : Room).cells ({ frames := 0, cells := 0, slots := 0, locals := 0 } : Room).slots) := by
  have G0 := G
  obtain ⟨S_V, E_V, A_V, FC_V, L_V, Hs_V, Gf_V, S_T, E_T, F_T, S_N, E_N, F_N, S_E, E_E, F_E⟩ := G
  refine MetFree.of_bodySF (plainFor_of_name pn_1) hisR ?_
  intro p e s m args below meth c s₁ Bd hml0 hP hK
  obtain ⟨rfl, hZ, hh⟩ := hP
  have hx := Bd.exec
  have hby := Bd.bytes
  have hml : c.maxLocals = 1 := hml0
  have hown : s.vm.findClass "java/util/Optional" = some m.cls := findClass_of_methodNamed Bd.named
  have hnm := (name_of_methodNamed Bd.named Bd.method).1
  have X0 : Stand p l e ({ frames := 0, cells := 0, slots := 0, locals := 0 } : Room) s m #[] below meth c s₁ [] 0 0 := Stand.of_body Bd
  have e0 : s₁.heap = h0 := by rw [← hh, Bd.state]; rfl
  have N0 := Fr.nil n0
  have pre0 : ∀ t, Steps p.tables e below (s₁.setTop (mkF m 0 #[.unset] [])) t → Steps p.tables e below (s₁.setTop (entryFrame m #[] 1)) t := fun t k => castTop (ef_3_4 m ) k
  obtain ⟨T1, X1, e1, st1⟩ := getS2 X0 hx hZ hown (host := "") (Or.inl (hw _ (List.mem_of_getElem? (i := 27) rfl))) Via.refl e0 (S_E.ext O0.2) (g := (mkF m 0 #[.unset] [])) rfl (hb hby d3_0)
  obtain ⟨fs, hr, hrun, hended, hW, hsame⟩ := X1.leave (v := some (.ref s_E)) (fun h => by rw [Bd.returns] at h; cases h)
  refine ⟨_, _, pre0 _ ?_, hrun, hended, _, _, rfl, ?_, ⟨_, rfl⟩, hW, hsame.mono (by decide) (by decide)⟩
  · show Steps p.tables e below (s₁.setTop (mkF m 0 #[.unset] [])) _
    refine st1 _ ?_
    show Steps p.tables e below (T1.setTop (mkF m 3 #[.unset] [(.ref s_E)])) _
    refine XS.astoreN X1.here hx rfl (hb hby d3_3) rfl rfl (l' := #[.val (.ref s_E)]) rfl ?_
    show Steps p.tables e below (T1.setTop (mkF m 4 #[.val (.ref s_E)] [])) _
    refine XS.aloadN X1.here hx rfl (hb hby d3_4) rfl rfl ?_
    show Steps p.tables e below (T1.setTop (mkF m 5 #[.val (.ref s_E)] [(.ref s_E)])) _
    exact retOut X1 hx Bd.returns rfl (Or.inr (Or.inr (Or.inr (Or.inr ⟨rfl, rfl, rfl⟩)))) (hb hby d3_5) hr
  · show own_Q (some (.ref s_E)) h0 n0 _ T1.heap _
    rw [e1]
    exact ⟨rfl, N0, rfl⟩
def own_Qk (r : Option Value) (h0 : Heap) (n0 : Nat) (v : Option Value) (h : Heap) (L : List Loc) : Prop := v = r ∧ Fr n0 L ∧ Keep h0 h []
theorem d1_0 : decode prog_41_method_5_code 0 = .ok (.invokestatic 37, 3) := by decide +kernel
theorem pd_2 : parseMethodDescriptor "()[Lcom/example/rubrique/rubrique/render/Area;" = some ⟨[], some (.array (.object "com/example/rubrique/rubrique/render/Area"))⟩ := by decide +kernel
theorem d1_3 : decode prog_41_method_5_code 3 = .ok (.astore_n 1, 1) := by decide +kernel
theorem d1_4 : decode prog_41_method_5_code 4 = .ok (.aload_n 1, 1) := by decide +kernel
theorem d1_5 : decode prog_41_method_5_code 5 = .ok (.arraylength, 1) := by decide +kernel
theorem d1_6 : decode prog_41_method_5_code 6 = .ok (.istore_n 2, 1) := by decide +kernel
theorem d1_7 : decode prog_41_method_5_code 7 = .ok (.iconst 0, 1) := by decide +kernel
theorem d1_8 : decode prog_41_method_5_code 8 = .ok (.istore_n 3, 1) := by decide +kernel
theorem d1_9 : decode prog_41_method_5_code 9 = .ok (.iload_n 3, 1) := by decide +kernel
theorem d1_10 : decode prog_41_method_5_code 10 = .ok (.iload_n 2, 1) := by decide +kernel
theorem d1_11 : decode prog_41_method_5_code 11 = .ok (.if_icmp .ge 29, 3) := by decide +kernel
theorem d1_14 : decode prog_41_method_5_code 14 = .ok (.aload_n 1, 1) := by decide +kernel
theorem d1_15 : decode prog_41_method_5_code 15 = .ok (.iload_n 3, 1) := by decide +kernel
theorem d1_16 : decode prog_41_method_5_code 16 = .ok (.aaload, 1) := by decide +kernel
theorem d1_17 : decode prog_41_method_5_code 17 = .ok (.astore 4, 2) := by decide +kernel
theorem d1_19 : decode prog_41_method_5_code 19 = .ok (.aload 4, 2) := by decide +kernel
theorem d1_21 : decode prog_41_method_5_code 21 = .ok (.getfield 29, 3) := by decide +kernel
theorem d1_24 : decode prog_41_method_5_code 24 = .ok (.iload_n 0, 1) := by decide +kernel
theorem d1_25 : decode prog_41_method_5_code 25 = .ok (.if_icmp .ne 9, 3) := by decide +kernel
theorem d1_28 : decode prog_41_method_5_code 28 = .ok (.aload 4, 2) := by decide +kernel
theorem d1_30 : decode prog_41_method_5_code 30 = .ok (.invokestatic 41, 3) := by decide +kernel
theorem pd_3 : parseMethodDescriptor "(Ljava/lang/Object;)Ljava/util/Optional;" = some ⟨[(.object "java/lang/Object")], some (.object "java/util/Optional")⟩ := by decide +kernel
theorem d1_33 : decode prog_41_method_5_code 33 = .ok (.areturn, 1) := by decide +kernel
theorem ef_1_5 (m : MethodId) (x0 : Int32) : entryFrame m #[(.int x0)] 5 = mkF m 0 #[.val (.int x0), .unset, .unset, .unset, .unset] [] := by first | (simp [entryFrame, mkF, argsToLocals, Value.category]; done) | rfl
set_option maxRecDepth 65536 in
set_option maxHeartbeats 40000000 in
theorem r_by1 (l : Launch) (Z : State) (a0 : Array Value) (hw : ∀ d ∈ tables_1, d.before a0 Z = true) (ws : List Jvm.Cond) (s_V s_T s_N s_E : Addr) (cl_V : Cell) (h0 : Heap) (n0 : Nat) (O0 : Old Z n0 h0) (G : own_Ctx Z Z.heap s_V s_T s_N s_E cl_V)   :
    MetFree l (⟨"com/example/rubrique/rubrique/render/Area", "byNumber", "(I)Ljava/util/Optional;"⟩ : MethodName) (head1 (Jvm.Cond.code (⟨"com/example/rubrique/rubrique/render/Area", "byNumber", "(I)Ljava/util/Optional;"⟩ : MethodName) prog_41_method_5_code 5 (some (.object "java/util/Optional")) :: ws) ({ frames := 3, cells := 2, slots := 3, locals := 38 } : Room)) (fun a U => a = #[(.int (1 : Int32))] ∧ Z.Warmed39 U.vm ∧ U.heap = h0) (fun _ _ _ _ _ => True) (fun _ U o U' => ∃ v L, o = .returned v ∧ own_Qo Z s_T h0 n0 v U'.heap L ∧ FrameEnd U o U' L ({ frames := 3, cells := 2, slots := 3, locals := 38 } : Room).cells ({ frames := 3, cells := 2, slots := 3, locals := 38 } : Room).slots) := by
  have G0 := G
  obtain ⟨S_V, E_V, A_V, FC_V, L_V, Hs_V, Gf_V, S_T, E_T, F_T, S_N, E_N, F_N, S_E, E_E, F_E⟩ := G
  refine MetFree.of_bodySF (plainFor_of_name pn_0) hisR ?_
  intro p e s m args below meth c s₁ Bd hml0 hP hK
  obtain ⟨rfl, hZ, hh⟩ := hP
  have hx := Bd.exec
  have hby := Bd.bytes
  have hml : c.maxLocals = 5 := hml0
  have hown : s.vm.findClass "com/example/rubrique/rubrique/render/Area" = some m.cls := findClass_of_methodNamed Bd.named
  have hnm := (name_of_methodNamed Bd.named Bd.method).1
  have X0 : Stand p l e ({ frames := 3, cells := 2, slots := 3, locals := 38 } : Room) s m #[(.int (1 : Int32))] below meth c s₁ [] 0 0 := Stand.of_body Bd
  have e0 : s₁.heap = h0 := by rw [← hh, Bd.state]; rfl
  have N0 := Fr.nil n0
  have pre0 : ∀ t, Steps p.tables e below (s₁.setTop (mkF m 0 #[.val (.int (1 : Int32)), .unset, .unset, .unset, .unset] [])) t → Steps p.tables e below (s₁.setTop (entryFrame m #[(.int (1 : Int32))] 5)) t := fun t k => castTop (ef_1_5 m (1 : Int32)) k
  obtain ⟨_, _, ⟨T1, L1, k1, n1⟩, -, X1, ⟨Lc1, hQ1, l1, y1, z1⟩, st1⟩ := Jvm.LawKit.callS X0 hx (y := (⟨"com/example/rubrique/rubrique/render/Area", "values", "()[Lcom/example/rubrique/rubrique/render/Area;"⟩ : MethodName)) hown (mvT hZ (hw _ (List.mem_of_getElem? (i := 4) rfl))) (mvT hZ (hw _ (List.mem_of_getElem? (i := 5) rfl))) (mvT hZ (hw _ (List.mem_of_getElem? (i := 2) rfl))) (mvT hZ (hw _ (List.mem_of_getElem? (i := 6) rfl))) (by decide) (backOf (W := 0) (r_vals l Z a0 hw [] s_V s_T s_N s_E cl_V h0 n0 O0 G0) hZ (hw _ (List.mem_of_getElem? (i := 6) rfl)) (hw _ (List.mem_of_getElem? (i := 2) rfl)) (by decide) (by decide)) (g := (mkF m 0 #[.val (.int (1 : Int32)), .unset, .unset, .unset, .unset] [])) rfl (by rw [hml]; rfl) (argsL := []) (rest := []) (lenOf pd_2 rfl) rfl (by show 2 * 0 + _ ≤ _; exact Nat.le_of_eq rfl) (hb hby d1_0) (fun _ _ => ⟨rfl, e0, (by decide : 0 + 1 ≤ _), (by decide : 0 + 2 ≤ _)⟩)
  dsimp only [Pt.U, Pt.locs, Pt.cells, Pt.slots] at X1 l1 y1 z1 st1 hQ1
  subst l1 y1 z1
  obtain ⟨t1, rfl, N1q, Kq1, gt1, Vt1⟩ := hQ1
  have N1 := Fr.app N0 N1q
  have ne_s_V_t1 : s_V ≠ t1 := Nat.ne_of_lt (Nat.lt_of_lt_of_le (E_V.ext O0.2).lt gt1)
  have ne_s_T_t1 : s_T ≠ t1 := Nat.ne_of_lt (Nat.lt_of_lt_of_le (E_T.ext O0.2).lt gt1)
  have ne_s_N_t1 : s_N ≠ t1 := Nat.ne_of_lt (Nat.lt_of_lt_of_le (E_N.ext O0.2).lt gt1)
  have ne_s_E_t1 : s_E ≠ t1 := Nat.ne_of_lt (Nat.lt_of_lt_of_le (E_E.ext O0.2).lt gt1)
  have g_t1 : n0 ≤ t1 := Nat.le_trans (O0.1 ▸ O0.2.1) gt1
  have sz_t1 : h0.size ≤ t1 := Nat.le_trans (Keep.refl h0 []).1 gt1
  have O1 := O0.keep Kq1 all0
  have K1 : Keep h0 T1.heap [] := (Keep.refl h0 []).trans Kq1 all0
  have vc2 := Vt1
  obtain ⟨cl2, Ar2, q2, S2, Nn2, Hs2, Gf2⟩ := vc2
  have vc3 := Vt1
  obtain ⟨cl3, Ar3, q3, S3, Nn3, Hs3, Gf3⟩ := vc3
  have hin3 : ¬ ((0 : Int32) < 0 ∨ cl3.slots.size ≤ ((0 : Int32)).toNatClampNeg) := inb_of S3 ⟨by decide, by decide⟩
  have hat3 : cl3.slots[((0 : Int32)).toNatClampNeg]? = some (.ref s_T) := Has.at Hs3 hin3 rfl
  obtain ⟨T4, X4, e4, st4⟩ := getF X1 hx hZ hown (host := "") (Or.inl (hw _ (List.mem_of_getElem? (i := 21) rfl))) Via.refl rfl (F_T.ext O1.2) (g := (mkF m 21 #[.val (.int (1 : Int32)), .val (.ref t1), .val (.int (2 : Int32)), .val (.int (0 : Int32)), .val (.ref s_T)] [(.ref s_T)])) rfl rfl (hb hby d1_21)
  obtain ⟨_, _, ⟨T5, L5, k5, n5⟩, -, X5, ⟨Lc5, hQ5, l5, y5, z5⟩, st5⟩ := Jvm.LawKit.callS X4 hx (y := (⟨"java/util/Optional", "of", "(Ljava/lang/Object;)Ljava/util/Optional;"⟩ : MethodName)) hown (mvT hZ (hw _ (List.mem_of_getElem? (i := 35) rfl))) (mvT hZ (hw _ (List.mem_of_getElem? (i := 36) rfl))) (mvT hZ (hw _ (List.mem_of_getElem? (i := 25) rfl))) (mvT hZ (hw _ (List.mem_of_getElem? (i := 37) rfl))) (by decide) (backOf (W := 0) (r_of l Z a0 hw [] s_V s_T s_N s_E cl_V T1.heap n0 O1 G0 s_T) hZ (hw _ (List.mem_of_getElem? (i := 37) rfl)) (hw _ (List.mem_of_getElem? (i := 25) rfl)) (by decide) (by decide)) (g := (mkF m 30 #[.val (.int (1 : Int32)), .val (.ref t1), .val (.int (2 : Int32)), .val (.int (0 : Int32)), .val (.ref s_T)] [(.ref s_T)])) rfl (by rw [hml]; rfl) (argsL := [(.ref s_T)]) (rest := []) (lenOf pd_3 rfl) rfl (by show 2 * 0 + _ ≤ _; exact Nat.le_of_eq rfl) (hb hby d1_30) (fun _ _ => ⟨rfl, e4, (by decide : 1 + 1 ≤ _), (by decide : 2 + 1 ≤ _)⟩)
  dsimp only [Pt.U, Pt.locs, Pt.cells, Pt.slots] at X5 l5 y5 z5 st5 hQ5
  subst l5 y5 z5
  obtain ⟨t5, rfl, N5q, Kq5, gt5, Et5, Fv5⟩ := hQ5
  have N5 := Fr.app N1 N5q
  have ne_t1_t5 : t1 ≠ t5 := Nat.ne_of_lt (Nat.lt_of_lt_of_le Vt1.lt gt5)
  have ne_s_V_t5 : s_V ≠ t5 := Nat.ne_of_lt (Nat.lt_of_lt_of_le (E_V.ext O1.2).lt gt5)
  have ne_s_T_t5 : s_T ≠ t5 := Nat.ne_of_lt (Nat.lt_of_lt_of_le (E_T.ext O1.2).lt gt5)
  have ne_s_N_t5 : s_N ≠ t5 := Nat.ne_of_lt (Nat.lt_of_lt_of_le (E_N.ext O1.2).lt gt5)
  have ne_s_E_t5 : s_E ≠ t5 := Nat.ne_of_lt (Nat.lt_of_lt_of_le (E_E.ext O1.2).lt gt5)
  have g_t5 : n0 ≤ t5 := Nat.le_trans (O1.1 ▸ O1.2.1) gt5
  have sz_t5 : h0.size ≤ t5 := Nat.le_trans K1.1 gt5
  have f6 := Vt1.keep Kq5 (fun q => nomatch q)
  have O5 := O1.keep Kq5 all0
  have K5 : Keep h0 T5.heap [] := K1.trans Kq5 all0
  obtain ⟨fs, hr, hrun, hended, hW, hsame⟩ := X5.leave (v := some (.ref t5)) (fun h => by rw [Bd.returns] at h; cases h)
  refine ⟨_, _, pre0 _ ?_, hrun, hended, _, _, rfl, ?_, ⟨_, rfl⟩, hW, hsame.mono (by decide) (by decide)⟩
  · show Steps p.tables e below (s₁.setTop (mkF m 0 #[.val (.int (1 : Int32)), .unset, .unset, .unset, .unset] [])) _
    refine st1 _ ?_
    show Steps p.tables e below (T1.setTop (mkF m 3 #[.val (.int (1 : Int32)), .unset, .unset, .unset, .unset] [(.ref t1)])) _
    refine XS.astoreN X1.here hx rfl (hb hby d1_3) rfl rfl (l' := #[.val (.int (1 : Int32)), .val (.ref t1), .unset, .unset, .unset]) rfl ?_
    show Steps p.tables e below (T1.setTop (mkF m 4 #[.val (.int (1 : Int32)), .val (.ref t1), .unset, .unset, .unset] [])) _
    refine XS.aloadN X1.here hx rfl (hb hby d1_4) rfl rfl ?_
    show Steps p.tables e below (T1.setTop (mkF m 5 #[.val (.int (1 : Int32)), .val (.ref t1), .unset, .unset, .unset] [(.ref t1)])) _
    refine X1.arraylength hx Ar2.1 (State.isArrayOf_alike hZ.alike Ar2.2.1) (g := (mkF m 5 #[.val (.int (1 : Int32)), .val (.ref t1), .unset, .unset, .unset] [(.ref t1)])) rfl rfl (hb hby d1_5) _ ?_
    rw [len_of S2 Nn2]
    show Steps p.tables e below (T1.setTop (mkF m 6 #[.val (.int (1 : Int32)), .val (.ref t1), .unset, .unset, .unset] [(.int (2 : Int32))])) _
    refine XS.istoreN X1.here hx rfl (hb hby d1_6) rfl (l' := #[.val (.int (1 : Int32)), .val (.ref t1), .val (.int (2 : Int32)), .unset, .unset]) rfl ?_
    show Steps p.tables e below (T1.setTop (mkF m 7 #[.val (.int (1 : Int32)), .val (.ref t1), .val (.int (2 : Int32)), .unset, .unset] [])) _
    refine XS.iconst X1.here hx rfl (hb hby d1_7) ?_
    show Steps p.tables e below (T1.setTop (mkF m 8 #[.val (.int (1 : Int32)), .val (.ref t1), .val (.int (2 : Int32)), .unset, .unset] [(.int (0 : Int32))])) _
    refine XS.istoreN X1.here hx rfl (hb hby d1_8) rfl (l' := #[.val (.int (1 : Int32)), .val (.ref t1), .val (.int (2 : Int32)), .val (.int (0 : Int32)), .unset]) rfl ?_
    show Steps p.tables e below (T1.setTop (mkF m 9 #[.val (.int (1 : Int32)), .val (.ref t1), .val (.int (2 : Int32)), .val (.int (0 : Int32)), .unset] [])) _
    refine XS.iloadN X1.here hx rfl (hb hby d1_9) rfl ?_
    show Steps p.tables e below (T1.setTop (mkF m 10 #[.val (.int (1 : Int32)), .val (.ref t1), .val (.int (2 : Int32)), .val (.int (0 : Int32)), .unset] [(.int (0 : Int32))])) _
    refine XS.iloadN X1.here hx rfl (hb hby d1_10) rfl ?_
    show Steps p.tables e below (T1.setTop (mkF m 11 #[.val (.int (1 : Int32)), .val (.ref t1), .val (.int (2 : Int32)), .val (.int (0 : Int32)), .unset] [(.int (2 : Int32)), (.int (0 : Int32))])) _
    refine XS.icmpNo X1.here hx rfl (hb hby d1_11) rfl (tlt (by decide : (0 : Int32) < (2 : Int32))).2.1 ?_
    show Steps p.tables e below (T1.setTop (mkF m 14 #[.val (.int (1 : Int32)), .val (.ref t1), .val (.int (2 : Int32)), .val (.int (0 : Int32)), .unset] [])) _
    refine XS.aloadN X1.here hx rfl (hb hby d1_14) rfl rfl ?_
    show Steps p.tables e below (T1.setTop (mkF m 15 #[.val (.int (1 : Int32)), .val (.ref t1), .val (.int (2 : Int32)), .val (.int (0 : Int32)), .unset] [(.ref t1)])) _
    refine XS.iloadN X1.here hx rfl (hb hby d1_15) rfl ?_
    show Steps p.tables e below (T1.setTop (mkF m 16 #[.val (.int (1 : Int32)), .val (.ref t1), .val (.int (2 : Int32)), .val (.int (0 : Int32)), .unset] [(.int (0 : Int32)), (.ref t1)])) _
    refine X1.aaload hx (j := (0 : Int32)) (v := (.ref s_T)) Ar3.1 (State.isArrayOf_alike hZ.alike Ar3.2.1) rfl Ar3.2.2 hin3 hat3 (g := (mkF m 16 #[.val (.int (1 : Int32)), .val (.ref t1), .val (.int (2 : Int32)), .val (.int (0 : Int32)), .unset] [(.int (0 : Int32)), (.ref t1)])) rfl rfl (hb hby d1_16) _ ?_
    show Steps p.tables e below (T1.setTop (mkF m 17 #[.val (.int (1 : Int32)), .val (.ref t1), .val (.int (2 : Int32)), .val (.int (0 : Int32)), .unset] [(.ref s_T)])) _
    refine XS.astore X1.here hx rfl (hb hby d1_17) rfl rfl (l' := #[.val (.int (1 : Int32)), .val (.ref t1), .val (.int (2 : Int32)), .val (.int (0 : Int32)), .val (.ref s_T)]) rfl ?_
    show Steps p.tables e below (T1.setTop (mkF m 19 #[.val (.int (1 : Int32)), .val (.ref t1), .val (.int (2 : Int32)), .val (.int (0 : Int32)), .val (.ref s_T)] [])) _
    refine XS.aload X1.here hx rfl (hb hby d1_19) rfl rfl ?_
    show Steps p.tables e below (T1.setTop (mkF m 21 #[.val (.int (1 : Int32)), .val (.ref t1), .val (.int (2 : Int32)), .val (.int (0 : Int32)), .val (.ref s_T)] [(.ref s_T)])) _
    refine st4 _ ?_
    show Steps p.tables e below (T4.setTop (mkF m 24 #[.val (.int (1 : Int32)), .val (.ref t1), .val (.int (2 : Int32)), .val (.int (0 : Int32)), .val (.ref s_T)] [(.int (1 : Int32))])) _
    refine XS.iloadN X4.here hx rfl (hb hby d1_24) rfl ?_
    show Steps p.tables e below (T4.setTop (mkF m 25 #[.val (.int (1 : Int32)), .val (.ref t1), .val (.int (2 : Int32)), .val (.int (0 : Int32)), .val (.ref s_T)] [(.int (1 : Int32)), (.int (1 : Int32))])) _
    refine XS.icmpNo X4.here hx rfl (hb hby d1_25) rfl (teq (by decide : (1 : Int32) = (1 : Int32))).2 ?_
    show Steps p.tables e below (T4.setTop (mkF m 28 #[.val (.int (1 : Int32)), .val (.ref t1), .val (.int (2 : Int32)), .val (.int (0 : Int32)), .val (.ref s_T)] [])) _
    refine XS.aload X4.here hx rfl (hb hby d1_28) rfl rfl ?_
    show Steps p.tables e below (T4.setTop (mkF m 30 #[.val (.int (1 : Int32)), .val (.ref t1), .val (.int (2 : Int32)), .val (.int (0 : Int32)), .val (.ref s_T)] [(.ref s_T)])) _
    refine st5 _ ?_
    show Steps p.tables e below (T5.setTop (mkF m 33 #[.val (.int (1 : Int32)), .val (.ref t1), .val (.int (2 : Int32)), .val (.int (0 : Int32)), .val (.ref s_T)] [(.ref t5)])) _
    exact retOut X5 hx Bd.returns rfl (Or.inr (Or.inr (Or.inr (Or.inr ⟨rfl, rfl, rfl⟩)))) (hb hby d1_33) hr
  · show own_Qo Z s_T h0 n0 _ T5.heap _
    exact ⟨t5, rfl, N5, K5, sz_t5, Et5, Fv5⟩
theorem d1_34 : decode prog_41_method_5_code 34 = .ok (.iinc 3 1, 3) := by decide +kernel
theorem d1_37 : decode prog_41_method_5_code 37 = .ok (.goto (-28), 3) := by decide +kernel
set_option maxRecDepth 65536 in
set_option maxHeartbeats 40000000 in
theorem r_by7 (l : Launch) (Z : State) (a0 : Array Value) (hw : ∀ d ∈ tables_1, d.before a0 Z = true) (ws : List Jvm.Cond) (s_V s_T s_N s_E : Addr) (cl_V : Cell) (h0 : Heap) (n0 : Nat) (O0 : Old Z n0 h0) (G : own_Ctx Z Z.heap s_V s_T s_N s_E cl_V)   :
    MetFree l (⟨"com/example/rubrique/rubrique/render/Area", "byNumber", "(I)Ljava/util/Optional;"⟩ : MethodName) (head1 (Jvm.Cond.code (⟨"com/example/rubrique/rubrique/render/Area", "byNumber", "(I)Ljava/util/Optional;"⟩ : MethodName) prog_41_method_5_code 5 (some (.object "java/util/Optional")) :: ws) ({ frames := 3, cells := 2, slots := 3, locals := 38 } : Room)) (fun a U => a = #[(.int (7 : Int32))] ∧ Z.Warmed39 U.vm ∧ U.heap = h0) (fun _ _ _ _ _ => True) (fun _ U o U' => ∃ v L, o = .returned v ∧ own_Qo Z s_N h0 n0 v U'.heap L ∧ FrameEnd U o U' L ({ frames := 3, cells := 2, slots := 3, locals := 38 } : Room).cells ({ frames := 3, cells := 2, slots := 3, locals := 38 } : Room).slots) := by
  have G0 := G
  obtain ⟨S_V, E_V, A_V, FC_V, L_V, Hs_V, Gf_V, S_T, E_T, F_T, S_N, E_N, F_N, S_E, E_E, F_E⟩ := G
  refine MetFree.of_bodySF (plainFor_of_name pn_0) hisR ?_
  intro p e s m args below meth c s₁ Bd hml0 hP hK
  obtain ⟨rfl, hZ, hh⟩ := hP
  have hx := Bd.exec
  have hby := Bd.bytes
  have hml : c.maxLocals = 5 := hml0
  have hown : s.vm.findClass "com/example/rubrique/rubrique/render/Area" = some m.cls := findClass_of_methodNamed Bd.named
  have hnm := (name_of_methodNamed Bd.named Bd.method).1
  have X0 : Stand p l e ({ frames := 3, cells := 2, slots := 3, locals := 38 } : Room) s m #[(.int (7 : Int32))] below meth c s₁ [] 0 0 := Stand.of_body Bd
  have e0 : s₁.heap = h0 := by rw [← hh, Bd.state]; rfl
  have N0 := Fr.nil n0
  have pre0 : ∀ t, Steps p.tables e below (s₁.setTop (mkF m 0 #[.val (.int (7 : Int32)), .unset, .unset, .unset, .unset] [])) t → Steps p.tables e below (s₁.setTop (entryFrame m #[(.int (7 : Int32))] 5)) t := fun t k => castTop (ef_1_5 m (7 : Int32)) k
  obtain ⟨_, _, ⟨T1, L1, k1, n1⟩, -, X1, ⟨Lc1, hQ1, l1, y1, z1⟩, st1⟩ := Jvm.LawKit.callS X0 hx (y := (⟨"com/example/rubrique/rubrique/render/Area", "values", "()[Lcom/example/rubrique/rubrique/render/Area;"⟩ : MethodName)) hown (mvT hZ (hw _ (List.mem_of_getElem? (i := 4) rfl))) (mvT hZ (hw _ (List.mem_of_getElem? (i := 5) rfl))) (mvT hZ (hw _ (List.mem_of_getElem? (i := 2) rfl))) (mvT hZ (hw _ (List.mem_of_getElem? (i := 6) rfl))) (by decide) (backOf (W := 0) (r_vals l Z a0 hw [] s_V s_T s_N s_E cl_V h0 n0 O0 G0) hZ (hw _ (List.mem_of_getElem? (i := 6) rfl)) (hw _ (List.mem_of_getElem? (i := 2) rfl)) (by decide) (by decide)) (g := (mkF m 0 #[.val (.int (7 : Int32)), .unset, .unset, .unset, .unset] [])) rfl (by rw [hml]; rfl) (argsL := []) (rest := []) (lenOf pd_2 rfl) rfl (by show 2 * 0 + _ ≤ _; exact Nat.le_of_eq rfl) (hb hby d1_0) (fun _ _ => ⟨rfl, e0, (by decide : 0 + 1 ≤ _), (by decide : 0 + 2 ≤ _)⟩)
  dsimp only [Pt.U, Pt.locs, Pt.cells, Pt.slots] at X1 l1 y1 z1 st1 hQ1
  subst l1 y1 z1
  obtain ⟨t1, rfl, N1q, Kq1, gt1, Vt1⟩ := hQ1
  have N1 := Fr.app N0 N1q
  have ne_s_V_t1 : s_V ≠ t1 := Nat.ne_of_lt (Nat.lt_of_lt_of_le (E_V.ext O0.2).lt gt1)
  have ne_s_T_t1 : s_T ≠ t1 := Nat.ne_of_lt (Nat.lt_of_lt_of_le (E_T.ext O0.2).lt gt1)
  have ne_s_N_t1 : s_N ≠ t1 := Nat.ne_of_lt (Nat.lt_of_lt_of_le (E_N.ext O0.2).lt gt1)
  have ne_s_E_t1 : s_E ≠ t1 := Nat.ne_of_lt (Nat.lt_of_lt_of_le (E_E.ext O0.2).lt gt1)
  have g_t1 : n0 ≤ t1 := Nat.le_trans (O0.1 ▸ O0.2.1) gt1
  have sz_t1 : h0.size ≤ t1 := Nat.le_trans (Keep.refl h0 []).1 gt1
  have O1 := O0.keep Kq1 all0
  have K1 : Keep h0 T1.heap [] := (Keep.refl h0 []).trans Kq1 all0
  have vc2 := Vt1
  obtain ⟨cl2, Ar2, q2, S2, Nn2, Hs2, Gf2⟩ := vc2
  have vc3 := Vt1
  obtain ⟨cl3, Ar3, q3, S3, Nn3, Hs3, Gf3⟩ := vc3
  have hin3 : ¬ ((0 : Int32) < 0 ∨ cl3.slots.size ≤ ((0 : Int32)).toNatClampNeg) := inb_of S3 ⟨by decide, by decide⟩
  have hat3 : cl3.slots[((0 : Int32)).toNatClampNeg]? = some (.ref s_T) := Has.at Hs3 hin3 rfl
  obtain ⟨T4, X4, e4, st4⟩ := getF X1 hx hZ hown (host := "") (Or.inl (hw _ (List.mem_of_getElem? (i := 21) rfl))) Via.refl rfl (F_T.ext O1.2) (g := (mkF m 21 #[.val (.int (7 : Int32)), .val (.ref t1), .val (.int (2 : Int32)), .val (.int (0 : Int32)), .val (.ref s_T)] [(.ref s_T)])) rfl rfl (hb hby d1_21)
  have vc5 := Vt1
  obtain ⟨cl5, Ar5, q5, S5, Nn5, Hs5, Gf5⟩ := vc5
  have hin5 : ¬ (((0 : Int32) + (1 : Int32)) < 0 ∨ cl5.slots.size ≤ (((0 : Int32) + (1 : Int32))).toNatClampNeg) := inb_of S5 ⟨by decide, by decide⟩
  have hat5 : cl5.slots[(((0 : Int32) + (1 : Int32))).toNatClampNeg]? = some (.ref s_N) := Has.at Hs5 hin5 rfl
  obtain ⟨T6, X6, e6, st6⟩ := getF X4 hx hZ hown (host := "") (Or.inl (hw _ (List.mem_of_getElem? (i := 21) rfl))) Via.refl e4 (F_N.ext O1.2) (g := (mkF m 21 #[.val (.int (7 : Int32)), .val (.ref t1), .val (.int (2 : Int32)), .val (.int ((0 : Int32) + (1 : Int32))), .val (.ref s_N)] [(.ref s_N)])) rfl rfl (hb hby d1_21)
  obtain ⟨_, _, ⟨T7, L7, k7, n7⟩, -, X7, ⟨Lc7, hQ7, l7, y7, z7⟩, st7⟩ := Jvm.LawKit.callS X6 hx (y := (⟨"java/util/Optional", "of", "(Ljava/lang/Object;)Ljava/util/Optional;"⟩ : MethodName)) hown (mvT hZ (hw _ (List.mem_of_getElem? (i := 35) rfl))) (mvT hZ (hw _ (List.mem_of_getElem? (i := 36) rfl))) (mvT hZ (hw _ (List.mem_of_getElem? (i := 25) rfl))) (mvT hZ (hw _ (List.mem_of_getElem? (i := 37) rfl))) (by decide) (backOf (W := 0) (r_of l Z a0 hw [] s_V s_T s_N s_E cl_V T1.heap n0 O1 G0 s_N) hZ (hw _ (List.mem_of_getElem? (i := 37) rfl)) (hw _ (List.mem_of_getElem? (i := 25) rfl)) (by decide) (by decide)) (g := (mkF m 30 #[.val (.int (7 : Int32)), .val (.ref t1), .val (.int (2 : Int32)), .val (.int ((0 : Int32) + (1 : Int32))), .val (.ref s_N)] [(.ref s_N)])) rfl (by rw [hml]; rfl) (argsL := [(.ref s_N)]) (rest := []) (lenOf pd_3 rfl) rfl (by show 2 * 0 + _ ≤ _; exact Nat.le_of_eq rfl) (hb hby d1_30) (fun _ _ => ⟨rfl, e6, (by decide : 1 + 1 ≤ _), (by decide : 2 + 1 ≤ _)⟩)
  dsimp only [Pt.U, Pt.locs, Pt.cells, Pt.slots] at X7 l7 y7 z7 st7 hQ7
  subst l7 y7 z7
  obtain ⟨t7, rfl, N7q, Kq7, gt7, Et7, Fv7⟩ := hQ7
  have N7 := Fr.app N1 N7q
  have ne_t1_t7 : t1 ≠ t7 := Nat.ne_of_lt (Nat.lt_of_lt_of_le Vt1.lt gt7)
  have ne_s_V_t7 : s_V ≠ t7 := Nat.ne_of_lt (Nat.lt_of_lt_of_le (E_V.ext O1.2).lt gt7)
  have ne_s_T_t7 : s_T ≠ t7 := Nat.ne_of_lt (Nat.lt_of_lt_of_le (E_T.ext O1.2).lt gt7)
  have ne_s_N_t7 : s_N ≠ t7 := Nat.ne_of_lt (Nat.lt_of_lt_of_le (E_N.ext O1.2).lt gt7)
  have ne_s_E_t7 : s_E ≠ t7 := Nat.ne_of_lt (Nat.lt_of_lt_of_le (E_E.ext O1.2).lt gt7)
  have g_t7 : n0 ≤ t7 := Nat.le_trans (O1.1 ▸ O1.2.1) gt7
  have sz_t7 : h0.size ≤ t7 := Nat.le_trans K1.1 gt7
  have f8 := Vt1.keep Kq7 (fun q => nomatch q)
  have O7 := O1.keep Kq7 all0
  have K7 : Keep h0 T7.heap [] := K1.trans Kq7 all0
  obtain ⟨fs, hr, hrun, hended, hW, hsame⟩ := X7.leave (v := some (.ref t7)) (fun h => by rw [Bd.returns] at h; cases h)
  refine ⟨_, _, pre0 _ ?_, hrun, hended, _, _, rfl, ?_, ⟨_, rfl⟩, hW, hsame.mono (by decide) (by decide)⟩
  · show Steps p.tables e below (s₁.setTop (mkF m 0 #[.val (.int (7 : Int32)), .unset, .unset, .unset, .unset] [])) _
    refine st1 _ ?_
    show Steps p.tables e below (T1.setTop (mkF m 3 #[.val (.int (7 : Int32)), .unset, .unset, .unset, .unset] [(.ref t1)])) _
    refine XS.astoreN X1.here hx rfl (hb hby d1_3) rfl rfl (l' := #[.val (.int (7 : Int32)), .val (.ref t1), .unset, .unset, .unset]) rfl ?_
    show Steps p.tables e below (T1.setTop (mkF m 4 #[.val (.int (7 : Int32)), .val (.ref t1), .unset, .unset, .unset] [])) _
    refine XS.aloadN X1.here hx rfl (hb hby d1_4) rfl rfl ?_
    show Steps p.tables e below (T1.setTop (mkF m 5 #[.val (.int (7 : Int32)), .val (.ref t1), .unset, .unset, .unset] [(.ref t1)])) _
    refine X1.arraylength hx Ar2.1 (State.isArrayOf_alike hZ.alike Ar2.2.1) (g := (mkF m 5 #[.val (.int (7 : Int32)), .val (.ref t1), .unset, .unset, .unset] [(.ref t1)])) rfl rfl (hb hby d1_5) _ ?_
    rw [len_of S2 Nn2]
    show Steps p.tables e below (T1.setTop (mkF m 6 #[.val (.int (7 : Int32)), .val (.ref t1), .unset, .unset, .unset] [(.int (2 : Int32))])) _
    refine XS.istoreN X1.here hx rfl (hb hby d1_6) rfl (l' := #[.val (.int (7 : Int32)), .val (.ref t1), .val (.int (2 : Int32)), .unset, .unset]) rfl ?_
    show Steps p.tables e below (T1.setTop (mkF m 7 #[.val (.int (7 : Int32)), .val (.ref t1), .val (.int (2 : Int32)), .unset, .unset] [])) _
    refine XS.iconst X1.here hx rfl (hb hby d1_7) ?_
    show Steps p.tables e below (T1.setTop (mkF m 8 #[.val (.int (7 : Int32)), .val (.ref t1), .val (.int (2 : Int32)), .unset, .unset] [(.int (0 : Int32))])) _
    refine XS.istoreN X1.here hx rfl (hb hby d1_8) rfl (l' := #[.val (.int (7 : Int32)), .val (.ref t1), .val (.int (2 : Int32)), .val (.int (0 : Int32)), .unset]) rfl ?_
    show Steps p.tables e below (T1.setTop (mkF m 9 #[.val (.int (7 : Int32)), .val (.ref t1), .val (.int (2 : Int32)), .val (.int (0 : Int32)), .unset] [])) _
    refine XS.iloadN X1.here hx rfl (hb hby d1_9) rfl ?_
    show Steps p.tables e below (T1.setTop (mkF m 10 #[.val (.int (7 : Int32)), .val (.ref t1), .val (.int (2 : Int32)), .val (.int (0 : Int32)), .unset] [(.int (0 : Int32))])) _
    refine XS.iloadN X1.here hx rfl (hb hby d1_10) rfl ?_
    show Steps p.tables e below (T1.setTop (mkF m 11 #[.val (.int (7 : Int32)), .val (.ref t1), .val (.int (2 : Int32)), .val (.int (0 : Int32)), .unset] [(.int (2 : Int32)), (.int (0 : Int32))])) _
    refine XS.icmpNo X1.here hx rfl (hb hby d1_11) rfl (tlt (by decide : (0 : Int32) < (2 : Int32))).2.1 ?_
    show Steps p.tables e below (T1.setTop (mkF m 14 #[.val (.int (7 : Int32)), .val (.ref t1), .val (.int (2 : Int32)), .val (.int (0 : Int32)), .unset] [])) _
    refine XS.aloadN X1.here hx rfl (hb hby d1_14) rfl rfl ?_
    show Steps p.tables e below (T1.setTop (mkF m 15 #[.val (.int (7 : Int32)), .val (.ref t1), .val (.int (2 : Int32)), .val (.int (0 : Int32)), .unset] [(.ref t1)])) _
    refine XS.iloadN X1.here hx rfl (hb hby d1_15) rfl ?_
    show Steps p.tables e below (T1.setTop (mkF m 16 #[.val (.int (7 : Int32)), .val (.ref t1), .val (.int (2 : Int32)), .val (.int (0 : Int32)), .unset] [(.int (0 : Int32)), (.ref t1)])) _
    refine X1.aaload hx (j := (0 : Int32)) (v := (.ref s_T)) Ar3.1 (State.isArrayOf_alike hZ.alike Ar3.2.1) rfl Ar3.2.2 hin3 hat3 (g := (mkF m 16 #[.val (.int (7 : Int32)), .val (.ref t1), .val (.int (2 : Int32)), .val (.int (0 : Int32)), .unset] [(.int (0 : Int32)), (.ref t1)])) rfl rfl (hb hby d1_16) _ ?_
    show Steps p.tables e below (T1.setTop (mkF m 17 #[.val (.int (7 : Int32)), .val (.ref t1), .val (.int (2 : Int32)), .val (.int (0 : Int32)), .unset] [(.ref s_T)])) _
    refine XS.astore X1.here hx rfl (hb hby d1_17) rfl rfl (l' := #[.val (.int (7 : Int32)), .val (.ref t1), .val (.int (2 : Int32)), .val (.int (0 : Int32)), .val (.ref s_T)]) rfl ?_
    show Steps p.tables e below (T1.setTop (mkF m 19 #[.val (.int (7 : Int32)), .val (.ref t1), .val (.int (2 : Int32)), .val (.int (0 : Int32)), .val (.ref s_T)] [])) _
    refine XS.aload X1.here hx rfl (hb hby d1_19) rfl rfl ?_
    show Steps p.tables e below (T1.setTop (mkF m 21 #[.val (.int (7 : Int32)), .val (.ref t1), .val (.int (2 : Int32)), .val (.int (0 : Int32)), .val (.ref s_T)] [(.ref s_T)])) _
    refine st4 _ ?_
    show Steps p.tables e below (T4.setTop (mkF m 24 #[.val (.int (7 : Int32)), .val (.ref t1), .val (.int (2 : Int32)), .val (.int (0 : Int32)), .val (.ref s_T)] [(.int (1 : Int32))])) _
    refine XS.iloadN X4.here hx rfl (hb hby d1_24) rfl ?_
    show Steps p.tables e below (T4.setTop (mkF m 25 #[.val (.int (7 : Int32)), .val (.ref t1), .val (.int (2 : Int32)), .val (.int (0 : Int32)), .val (.ref s_T)] [(.int (7 : Int32)), (.int (1 : Int32))])) _
    refine XS.icmpYes X4.here hx rfl (pc0 := 25) (pc' := 34) rfl (hb hby d1_25) rfl (feq (by decide : ¬ ((1 : Int32) = (7 : Int32)))).2 (by decide) (by decide) ?_
    show Steps p.tables e below (T4.setTop (mkF m 34 #[.val (.int (7 : Int32)), .val (.ref t1), .val (.int (2 : Int32)), .val (.int (0 : Int32)), .val (.ref s_T)] [])) _
    refine XS.iinc X4.here hx rfl (hb hby d1_34) rfl (l' := #[.val (.int (7 : Int32)), .val (.ref t1), .val (.int (2 : Int32)), .val (.int ((0 : Int32) + (1 : Int32))), .val (.ref s_T)]) rfl ?_
    show Steps p.tables e below (T4.setTop (mkF m 37 #[.val (.int (7 : Int32)), .val (.ref t1), .val (.int (2 : Int32)), .val (.int ((0 : Int32) + (1 : Int32))), .val (.ref s_T)] [])) _
    refine XS.goto X4.here hx rfl (pc0 := 37) (pc' := 9) rfl (hb hby d1_37) (by decide) (by decide) ?_
    show Steps p.tables e below (T4.setTop (mkF m 9 #[.val (.int (7 : Int32)), .val (.ref t1), .val (.int (2 : Int32)), .val (.int ((0 : Int32) + (1 : Int32))), .val (.ref s_T)] [])) _
    refine XS.iloadN X4.here hx rfl (hb hby d1_9) rfl ?_
    show Steps p.tables e below (T4.setTop (mkF m 10 #[.val (.int (7 : Int32)), .val (.ref t1), .val (.int (2 : Int32)), .val (.int ((0 : Int32) + (1 : Int32))), .val (.ref s_T)] [(.int ((0 : Int32) + (1 : Int32)))])) _
    refine XS.iloadN X4.here hx rfl (hb hby d1_10) rfl ?_
    show Steps p.tables e below (T4.setTop (mkF m 11 #[.val (.int (7 : Int32)), .val (.ref t1), .val (.int (2 : Int32)), .val (.int ((0 : Int32) + (1 : Int32))), .val (.ref s_T)] [(.int (2 : Int32)), (.int ((0 : Int32) + (1 : Int32)))])) _
    refine XS.icmpNo X4.here hx rfl (hb hby d1_11) rfl (tlt (by decide : ((0 : Int32) + (1 : Int32)) < (2 : Int32))).2.1 ?_
    show Steps p.tables e below (T4.setTop (mkF m 14 #[.val (.int (7 : Int32)), .val (.ref t1), .val (.int (2 : Int32)), .val (.int ((0 : Int32) + (1 : Int32))), .val (.ref s_T)] [])) _
    refine XS.aloadN X4.here hx rfl (hb hby d1_14) rfl rfl ?_
    show Steps p.tables e below (T4.setTop (mkF m 15 #[.val (.int (7 : Int32)), .val (.ref t1), .val (.int (2 : Int32)), .val (.int ((0 : Int32) + (1 : Int32))), .val (.ref s_T)] [(.ref t1)])) _
    refine XS.iloadN X4.here hx rfl (hb hby d1_15) rfl ?_
    show Steps p.tables e below (T4.setTop (mkF m 16 #[.val (.int (7 : Int32)), .val (.ref t1), .val (.int (2 : Int32)), .val (.int ((0 : Int32) + (1 : Int32))), .val (.ref s_T)] [(.int ((0 : Int32) + (1 : Int32))), (.ref t1)])) _
    refine X4.aaload hx (j := ((0 : Int32) + (1 : Int32))) (v := (.ref s_N)) (by rw [e4]; exact Ar5.1) (State.isArrayOf_alike hZ.alike Ar5.2.1) rfl Ar5.2.2 hin5 hat5 (g := (mkF m 16 #[.val (.int (7 : Int32)), .val (.ref t1), .val (.int (2 : Int32)), .val (.int ((0 : Int32) + (1 : Int32))), .val (.ref s_T)] [(.int ((0 : Int32) + (1 : Int32))), (.ref t1)])) rfl rfl (hb hby d1_16) _ ?_
    show Steps p.tables e below (T4.setTop (mkF m 17 #[.val (.int (7 : Int32)), .val (.ref t1), .val (.int (2 : Int32)), .val (.int ((0 : Int32) + (1 : Int32))), .val (.ref s_T)] [(.ref s_N)])) _
    refine XS.astore X4.here hx rfl (hb hby d1_17) rfl rfl (l' := #[.val (.int (7 : Int32)), .val (.ref t1), .val (.int (2 : Int32)), .val (.int ((0 : Int32) + (1 : Int32))), .val (.ref s_N)]) rfl ?_
    show Steps p.tables e below (T4.setTop (mkF m 19 #[.val (.int (7 : Int32)), .val (.ref t1), .val (.int (2 : Int32)), .val (.int ((0 : Int32) + (1 : Int32))), .val (.ref s_N)] [])) _
    refine XS.aload X4.here hx rfl (hb hby d1_19) rfl rfl ?_
    show Steps p.tables e below (T4.setTop (mkF m 21 #[.val (.int (7 : Int32)), .val (.ref t1), .val (.int (2 : Int32)), .val (.int ((0 : Int32) + (1 : Int32))), .val (.ref s_N)] [(.ref s_N)])) _
    refine st6 _ ?_
    show Steps p.tables e below (T6.setTop (mkF m 24 #[.val (.int (7 : Int32)), .val (.ref t1), .val (.int (2 : Int32)), .val (.int ((0 : Int32) + (1 : Int32))), .val (.ref s_N)] [(.int (7 : Int32))])) _
    refine XS.iloadN X6.here hx rfl (hb hby d1_24) rfl ?_
    show Steps p.tables e below (T6.setTop (mkF m 25 #[.val (.int (7 : Int32)), .val (.ref t1), .val (.int (2 : Int32)), .val (.int ((0 : Int32) + (1 : Int32))), .val (.ref s_N)] [(.int (7 : Int32)), (.int (7 : Int32))])) _
    refine XS.icmpNo X6.here hx rfl (hb hby d1_25) rfl (teq (by decide : (7 : Int32) = (7 : Int32))).2 ?_
    show Steps p.tables e below (T6.setTop (mkF m 28 #[.val (.int (7 : Int32)), .val (.ref t1), .val (.int (2 : Int32)), .val (.int ((0 : Int32) + (1 : Int32))), .val (.ref s_N)] [])) _
    refine XS.aload X6.here hx rfl (hb hby d1_28) rfl rfl ?_
    show Steps p.tables e below (T6.setTop (mkF m 30 #[.val (.int (7 : Int32)), .val (.ref t1), .val (.int (2 : Int32)), .val (.int ((0 : Int32) + (1 : Int32))), .val (.ref s_N)] [(.ref s_N)])) _
    refine st7 _ ?_
    show Steps p.tables e below (T7.setTop (mkF m 33 #[.val (.int (7 : Int32)), .val (.ref t1), .val (.int (2 : Int32)), .val (.int ((0 : Int32) + (1 : Int32))), .val (.ref s_N)] [(.ref t7)])) _
    exact retOut X7 hx Bd.returns rfl (Or.inr (Or.inr (Or.inr (Or.inr ⟨rfl, rfl, rfl⟩)))) (hb hby d1_33) hr
  · show own_Qo Z s_N h0 n0 _ T7.heap _
    exact ⟨t7, rfl, N7, K7, sz_t7, Et7, Fv7⟩
theorem d1_40 : decode prog_41_method_5_code 40 = .ok (.invokestatic 47, 3) := by decide +kernel
theorem pd_4 : parseMethodDescriptor "()Ljava/util/Optional;" = some ⟨[], some (.object "java/util/Optional")⟩ := by decide +kernel
theorem d1_43 : decode prog_41_method_5_code 43 = .ok (.areturn, 1) := by decide +kernel
set_option maxRecDepth 65536 in
set_option maxHeartbeats 40000000 in
theorem r_byN (l : Launch) (Z : State) (a0 : Array Value) (hw : ∀ d ∈ tables_1, d.before a0 Z = true) (ws : List Jvm.Cond) (s_V s_T s_N s_E : Addr) (cl_V : Cell) (h0 : Heap) (n0 : Nat) (O0 : Old Z n0 h0) (G : own_Ctx Z Z.heap s_V s_T s_N s_E cl_V) (p1 : Int32) (h1 : ¬ (p1 = (1 : Int32))) (h7 : ¬ (p1 = (7 : Int32))) :
    MetFree l (⟨"com/example/rubrique/rubrique/render/Area", "byNumber", "(I)Ljava/util/Optional;"⟩ : MethodName) (head1 (Jvm.Cond.code (⟨"com/example/rubrique/rubrique/render/Area", "byNumber", "(I)Ljava/util/Optional;"⟩ : MethodName) prog_41_method_5_code 5 (some (.object "java/util/Optional")) :: ws) ({ frames := 2, cells := 1, slots := 2, locals := 25 } : Room)) (fun a U => a = #[(.int p1)] ∧ Z.Warmed39 U.vm ∧ U.heap = h0) (fun _ _ _ _ _ => True) (fun _ U o U' => ∃ v L, o = .returned v ∧ own_Qk (some (.ref s_E)) h0 n0 v U'.heap L ∧ FrameEnd U o U' L ({ frames := 2, cells := 1, slots := 2, locals := 25 } : Room).cells ({ frames := 2, cells := 1, slots := 2, locals := 25 } : Room).slots) := by
  have G0 := G
  obtain ⟨S_V, E_V, A_V, FC_V, L_V, Hs_V, Gf_V, S_T, E_T, F_T, S_N, E_N, F_N, S_E, E_E, F_E⟩ := G
  refine MetFree.of_bodySF (plainFor_of_name pn_0) hisR ?_
  intro p e s m args below meth c s₁ Bd hml0 hP hK
  obtain ⟨rfl, hZ, hh⟩ := hP
  have hx := Bd.exec
  have hby := Bd.bytes
  have hml : c.maxLocals = 5 := hml0
  have hown : s.vm.findClass "com/example/rubrique/rubrique/render/Area" = some m.cls := findClass_of_methodNamed Bd.named
  have hnm := (name_of_methodNamed Bd.named Bd.method).1
  have X0 : Stand p l e ({ frames := 2, cells := 1, slots := 2, locals := 25 } : Room) s m #[(.int p1)] below meth c s₁ [] 0 0 := Stand.of_body Bd
  have e0 : s₁.heap = h0 := by rw [← hh, Bd.state]; rfl
  have N0 := Fr.nil n0
  have pre0 : ∀ t, Steps p.tables e below (s₁.setTop (mkF m 0 #[.val (.int p1), .unset, .unset, .unset, .unset] [])) t → Steps p.tables e below (s₁.setTop (entryFrame m #[(.int p1)] 5)) t := fun t k => castTop (ef_1_5 m p1) k
  obtain ⟨_, _, ⟨T1, L1, k1, n1⟩, -, X1, ⟨Lc1, hQ1, l1, y1, z1⟩, st1⟩ := Jvm.LawKit.callS X0 hx (y := (⟨"com/example/rubrique/rubrique/render/Area", "values", "()[Lcom/example/rubrique/rubrique/render/Area;"⟩ : MethodName)) hown (mvT hZ (hw _ (List.mem_of_getElem? (i := 4) rfl))) (mvT hZ (hw _ (List.mem_of_getElem? (i := 5) rfl))) (mvT hZ (hw _ (List.mem_of_getElem? (i := 2) rfl))) (mvT hZ (hw _ (List.mem_of_getElem? (i := 6) rfl))) (by decide) (backOf (W := 0) (r_vals l Z a0 hw [] s_V s_T s_N s_E cl_V h0 n0 O0 G0) hZ (hw _ (List.mem_of_getElem? (i := 6) rfl)) (hw _ (List.mem_of_getElem? (i := 2) rfl)) (by decide) (by decide)) (g := (mkF m 0 #[.val (.int p1), .unset, .unset, .unset, .unset] [])) rfl (by rw [hml]; rfl) (argsL := []) (rest := []) (lenOf pd_2 rfl) rfl (by show 2 * 0 + _ ≤ _; exact Nat.le_of_eq rfl) (hb hby d1_0) (fun _ _ => ⟨rfl, e0, (by decide : 0 + 1 ≤ _), (by decide : 0 + 2 ≤ _)⟩)
  dsimp only [Pt.U, Pt.locs, Pt.cells, Pt.slots] at X1 l1 y1 z1 st1 hQ1
  subst l1 y1 z1
  obtain ⟨t1, rfl, N1q, Kq1, gt1, Vt1⟩ := hQ1
  have N1 := Fr.app N0 N1q
  have ne_s_V_t1 : s_V ≠ t1 := Nat.ne_of_lt (Nat.lt_of_lt_of_le (E_V.ext O0.2).lt gt1)
  have ne_s_T_t1 : s_T ≠ t1 := Nat.ne_of_lt (Nat.lt_of_lt_of_le (E_T.ext O0.2).lt gt1)
  have ne_s_N_t1 : s_N ≠ t1 := Nat.ne_of_lt (Nat.lt_of_lt_of_le (E_N.ext O0.2).lt gt1)
  have ne_s_E_t1 : s_E ≠ t1 := Nat.ne_of_lt (Nat.lt_of_lt_of_le (E_E.ext O0.2).lt gt1)
  have g_t1 : n0 ≤ t1 := Nat.le_trans (O0.1 ▸ O0.2.1) gt1
  have sz_t1 : h0.size ≤ t1 := Nat.le_trans (Keep.refl h0 []).1 gt1
  have O1 := O0.keep Kq1 all0
  have K1 : Keep h0 T1.heap [] := (Keep.refl h0 []).trans Kq1 all0
  have vc2 := Vt1
  obtain ⟨cl2, Ar2, q2, S2, Nn2, Hs2, Gf2⟩ := vc2
  have vc3 := Vt1
  obtain ⟨cl3, Ar3, q3, S3, Nn3, Hs3, Gf3⟩ := vc3
  have hin3 : ¬ ((0 : Int32) < 0 ∨ cl3.slots.size ≤ ((0 : Int32)).toNatClampNeg) := inb_of S3 ⟨by decide, by decide⟩
  have hat3 : cl3.slots[((0 : Int32)).toNatClampNeg]? = some (.ref s_T) := Has.at Hs3 hin3 rfl
  obtain ⟨T4, X4, e4, st4⟩ := getF X1 hx hZ hown (host := "") (Or.inl (hw _ (List.mem_of_getElem? (i := 21) rfl))) Via.refl rfl (F_T.ext O1.2) (g := (mkF m 21 #[.val (.int p1), .val (.ref t1), .val (.int (2 : Int32)), .val (.int (0 : Int32)), .val (.ref s_T)] [(.ref s_T)])) rfl rfl (hb hby d1_21)
  have vc5 := Vt1
  obtain ⟨cl5, Ar5, q5, S5, Nn5, Hs5, Gf5⟩ := vc5
  have hin5 : ¬ (((0 : Int32) + (1 : Int32)) < 0 ∨ cl5.slots.size ≤ (((0 : Int32) + (1 : Int32))).toNatClampNeg) := inb_of S5 ⟨by decide, by decide⟩
  have hat5 : cl5.slots[(((0 : Int32) + (1 : Int32))).toNatClampNeg]? = some (.ref s_N) := Has.at Hs5 hin5 rfl
  obtain ⟨T6, X6, e6, st6⟩ := getF X4 hx hZ hown (host := "") (Or.inl (hw _ (List.mem_of_getElem? (i := 21) rfl))) Via.refl e4 (F_N.ext O1.2) (g := (mkF m 21 #[.val (.int p1), .val (.ref t1), .val (.int (2 : Int32)), .val (.int ((0 : Int32) + (1 : Int32))), .val (.ref s_N)] [(.ref s_N)])) rfl rfl (hb hby d1_21)
  obtain ⟨_, _, ⟨T7, L7, k7, n7⟩, -, X7, ⟨Lc7, hQ7, l7, y7, z7⟩, st7⟩ := Jvm.LawKit.callS X6 hx (y := (⟨"java/util/Optional", "empty", "()Ljava/util/Optional;"⟩ : MethodName)) hown (mvT hZ (hw _ (List.mem_of_getElem? (i := 23) rfl))) (mvT hZ (hw _ (List.mem_of_getElem? (i := 24) rfl))) (mvT hZ (hw _ (List.mem_of_getElem? (i := 25) rfl))) (mvT hZ (hw _ (List.mem_of_getElem? (i := 26) rfl))) (by decide) (backOf (W := 0) (r_emp l Z a0 hw [] s_V s_T s_N s_E cl_V T1.heap n0 O1 G0) hZ (hw _ (List.mem_of_getElem? (i := 26) rfl)) (hw _ (List.mem_of_getElem? (i := 25) rfl)) (by decide) (by decide)) (g := (mkF m 40 #[.val (.int p1), .val (.ref t1), .val (.int (2 : Int32)), .val (.int (((0 : Int32) + (1 : Int32)) + (1 : Int32))), .val (.ref s_N)] [])) rfl (by rw [hml]; rfl) (argsL := []) (rest := []) (lenOf pd_4 rfl) rfl (by show 2 * 0 + _ ≤ _; exact Nat.le_of_eq rfl) (hb hby d1_40) (fun _ _ => ⟨rfl, e6, (by decide : 1 + 0 ≤ _), (by decide : 2 + 0 ≤ _)⟩)
  dsimp only [Pt.U, Pt.locs, Pt.cells, Pt.slots] at X7 l7 y7 z7 st7 hQ7
  subst l7 y7 z7
  obtain ⟨rfl, N7q, e7⟩ := hQ7
  have N7 := Fr.app N1 N7q
  obtain ⟨fs, hr, hrun, hended, hW, hsame⟩ := X7.leave (v := some (.ref s_E)) (fun h => by rw [Bd.returns] at h; cases h)
  refine ⟨_, _, pre0 _ ?_, hrun, hended, _, _, rfl, ?_, ⟨_, rfl⟩, hW, hsame.mono (by decide) (by decide)⟩
  · show Steps p.tables e below (s₁.setTop (mkF m 0 #[.val (.int p1), .unset, .unset, .unset, .unset] [])) _
    refine st1 _ ?_
    show Steps p.tables e below (T1.setTop (mkF m 3 #[.val (.int p1), .unset, .unset, .unset, .unset] [(.ref t1)])) _
    refine XS.astoreN X1.here hx rfl (hb hby d1_3) rfl rfl (l' := #[.val (.int p1), .val (.ref t1), .unset, .unset, .unset]) rfl ?_
    show Steps p.tables e below (T1.setTop (mkF m 4 #[.val (.int p1), .val (.ref t1), .unset, .unset, .unset] [])) _
    refine XS.aloadN X1.here hx rfl (hb hby d1_4) rfl rfl ?_
    show Steps p.tables e below (T1.setTop (mkF m 5 #[.val (.int p1), .val (.ref t1), .unset, .unset, .unset] [(.ref t1)])) _
    refine X1.arraylength hx Ar2.1 (State.isArrayOf_alike hZ.alike Ar2.2.1) (g := (mkF m 5 #[.val (.int p1), .val (.ref t1), .unset, .unset, .unset] [(.ref t1)])) rfl rfl (hb hby d1_5) _ ?_
    rw [len_of S2 Nn2]
    show Steps p.tables e below (T1.setTop (mkF m 6 #[.val (.int p1), .val (.ref t1), .unset, .unset, .unset] [(.int (2 : Int32))])) _
    refine XS.istoreN X1.here hx rfl (hb hby d1_6) rfl (l' := #[.val (.int p1), .val (.ref t1), .val (.int (2 : Int32)), .unset, .unset]) rfl ?_
    show Steps p.tables e below (T1.setTop (mkF m 7 #[.val (.int p1), .val (.ref t1), .val (.int (2 : Int32)), .unset, .unset] [])) _
    refine XS.iconst X1.here hx rfl (hb hby d1_7) ?_
    show Steps p.tables e below (T1.setTop (mkF m 8 #[.val (.int p1), .val (.ref t1), .val (.int (2 : Int32)), .unset, .unset] [(.int (0 : Int32))])) _
    refine XS.istoreN X1.here hx rfl (hb hby d1_8) rfl (l' := #[.val (.int p1), .val (.ref t1), .val (.int (2 : Int32)), .val (.int (0 : Int32)), .unset]) rfl ?_
    show Steps p.tables e below (T1.setTop (mkF m 9 #[.val (.int p1), .val (.ref t1), .val (.int (2 : Int32)), .val (.int (0 : Int32)), .unset] [])) _
    refine XS.iloadN X1.here hx rfl (hb hby d1_9) rfl ?_
    show Steps p.tables e below (T1.setTop (mkF m 10 #[.val (.int p1), .val (.ref t1), .val (.int (2 : Int32)), .val (.int (0 : Int32)), .unset] [(.int (0 : Int32))])) _
    refine XS.iloadN X1.here hx rfl (hb hby d1_10) rfl ?_
    show Steps p.tables e below (T1.setTop (mkF m 11 #[.val (.int p1), .val (.ref t1), .val (.int (2 : Int32)), .val (.int (0 : Int32)), .unset] [(.int (2 : Int32)), (.int (0 : Int32))])) _
    refine XS.icmpNo X1.here hx rfl (hb hby d1_11) rfl (tlt (by decide : (0 : Int32) < (2 : Int32))).2.1 ?_
    show Steps p.tables e below (T1.setTop (mkF m 14 #[.val (.int p1), .val (.ref t1), .val (.int (2 : Int32)), .val (.int (0 : Int32)), .unset] [])) _
    refine XS.aloadN X1.here hx rfl (hb hby d1_14) rfl rfl ?_
    show Steps p.tables e below (T1.setTop (mkF m 15 #[.val (.int p1), .val (.ref t1), .val (.int (2 : Int32)), .val (.int (0 : Int32)), .unset] [(.ref t1)])) _
    refine XS.iloadN X1.here hx rfl (hb hby d1_15) rfl ?_
    show Steps p.tables e below (T1.setTop (mkF m 16 #[.val (.int p1), .val (.ref t1), .val (.int (2 : Int32)), .val (.int (0 : Int32)), .unset] [(.int (0 : Int32)), (.ref t1)])) _
    refine X1.aaload hx (j := (0 : Int32)) (v := (.ref s_T)) Ar3.1 (State.isArrayOf_alike hZ.alike Ar3.2.1) rfl Ar3.2.2 hin3 hat3 (g := (mkF m 16 #[.val (.int p1), .val (.ref t1), .val (.int (2 : Int32)), .val (.int (0 : Int32)), .unset] [(.int (0 : Int32)), (.ref t1)])) rfl rfl (hb hby d1_16) _ ?_
    show Steps p.tables e below (T1.setTop (mkF m 17 #[.val (.int p1), .val (.ref t1), .val (.int (2 : Int32)), .val (.int (0 : Int32)), .unset] [(.ref s_T)])) _
    refine XS.astore X1.here hx rfl (hb hby d1_17) rfl rfl (l' := #[.val (.int p1), .val (.ref t1), .val (.int (2 : Int32)), .val (.int (0 : Int32)), .val (.ref s_T)]) rfl ?_
    show Steps p.tables e below (T1.setTop (mkF m 19 #[.val (.int p1), .val (.ref t1), .val (.int (2 : Int32)), .val (.int (0 : Int32)), .val (.ref s_T)] [])) _
    refine XS.aload X1.here hx rfl (hb hby d1_19) rfl rfl ?_
    show Steps p.tables e below (T1.setTop (mkF m 21 #[.val (.int p1), .val (.ref t1), .val (.int (2 : Int32)), .val (.int (0 : Int32)), .val (.ref s_T)] [(.ref s_T)])) _
    refine st4 _ ?_
    show Steps p.tables e below (T4.setTop (mkF m 24 #[.val (.int p1), .val (.ref t1), .val (.int (2 : Int32)), .val (.int (0 : Int32)), .val (.ref s_T)] [(.int (1 : Int32))])) _
    refine XS.iloadN X4.here hx rfl (hb hby d1_24) rfl ?_
    show Steps p.tables e below (T4.setTop (mkF m 25 #[.val (.int p1), .val (.ref t1), .val (.int (2 : Int32)), .val (.int (0 : Int32)), .val (.ref s_T)] [(.int p1), (.int (1 : Int32))])) _
    refine XS.icmpYes X4.here hx rfl (pc0 := 25) (pc' := 34) rfl (hb hby d1_25) rfl (feq ((fun q => h1 q.symm) : ¬ ((1 : Int32) = p1))).2 (by decide) (by decide) ?_
    show Steps p.tables e below (T4.setTop (mkF m 34 #[.val (.int p1), .val (.ref t1), .val (.int (2 : Int32)), .val (.int (0 : Int32)), .val (.ref s_T)] [])) _
    refine XS.iinc X4.here hx rfl (hb hby d1_34) rfl (l' := #[.val (.int p1), .val (.ref t1), .val (.int (2 : Int32)), .val (.int ((0 : Int32) + (1 : Int32))), .val (.ref s_T)]) rfl ?_
    show Steps p.tables e below (T4.setTop (mkF m 37 #[.val (.int p1), .val (.ref t1), .val (.int (2 : Int32)), .val (.int ((0 : Int32) + (1 : Int32))), .val (.ref s_T)] [])) _
    refine XS.goto X4.here hx rfl (pc0 := 37) (pc' := 9) rfl (hb hby d1_37) (by decide) (by decide) ?_
    show Steps p.tables e below (T4.setTop (mkF m 9 #[.val (.int p1), .val (.ref t1), .val (.int (2 : Int32)), .val (.int ((0 : Int32) + (1 : Int32))), .val (.ref s_T)] [])) _
    refine XS.iloadN X4.here hx rfl (hb hby d1_9) rfl ?_
    show Steps p.tables e below (T4.setTop (mkF m 10 #[.val (.int p1), .val (.ref t1), .val (.int (2 : Int32)), .val (.int ((0 : Int32) + (1 : Int32))), .val (.ref s_T)] [(.int ((0 : Int32) + (1 : Int32)))])) _
    refine XS.iloadN X4.here hx rfl (hb hby d1_10) rfl ?_
    show Steps p.tables e below (T4.setTop (mkF m 11 #[.val (.int p1), .val (.ref t1), .val (.int (2 : Int32)), .val (.int ((0 : Int32) + (1 : Int32))), .val (.ref s_T)] [(.int (2 : Int32)), (.int ((0 : Int32) + (1 : Int32)))])) _
    refine XS.icmpNo X4.here hx rfl (hb hby d1_11) rfl (tlt (by decide : ((0 : Int32) + (1 : Int32)) < (2 : Int32))).2.1 ?_
    show Steps p.tables e below (T4.setTop (mkF m 14 #[.val (.int p1), .val (.ref t1), .val (.int (2 : Int32)), .val (.int ((0 : Int32) + (1 : Int32))), .val (.ref s_T)] [])) _
    refine XS.aloadN X4.here hx rfl (hb hby d1_14) rfl rfl ?_
    show Steps p.tables e below (T4.setTop (mkF m 15 #[.val (.int p1), .val (.ref t1), .val (.int (2 : Int32)), .val (.int ((0 : Int32) + (1 : Int32))), .val (.ref s_T)] [(.ref t1)])) _
    refine XS.iloadN X4.here hx rfl (hb hby d1_15) rfl ?_
    show Steps p.tables e below (T4.setTop (mkF m 16 #[.val (.int p1), .val (.ref t1), .val (.int (2 : Int32)), .val (.int ((0 : Int32) + (1 : Int32))), .val (.ref s_T)] [(.int ((0 : Int32) + (1 : Int32))), (.ref t1)])) _
    refine X4.aaload hx (j := ((0 : Int32) + (1 : Int32))) (v := (.ref s_N)) (by rw [e4]; exact Ar5.1) (State.isArrayOf_alike hZ.alike Ar5.2.1) rfl Ar5.2.2 hin5 hat5 (g := (mkF m 16 #[.val (.int p1), .val (.ref t1), .val (.int (2 : Int32)), .val (.int ((0 : Int32) + (1 : Int32))), .val (.ref s_T)] [(.int ((0 : Int32) + (1 : Int32))), (.ref t1)])) rfl rfl (hb hby d1_16) _ ?_
    show Steps p.tables e below (T4.setTop (mkF m 17 #[.val (.int p1), .val (.ref t1), .val (.int (2 : Int32)), .val (.int ((0 : Int32) + (1 : Int32))), .val (.ref s_T)] [(.ref s_N)])) _
    refine XS.astore X4.here hx rfl (hb hby d1_17) rfl rfl (l' := #[.val (.int p1), .val (.ref t1), .val (.int (2 : Int32)), .val (.int ((0 : Int32) + (1 : Int32))), .val (.ref s_N)]) rfl ?_
    show Steps p.tables e below (T4.setTop (mkF m 19 #[.val (.int p1), .val (.ref t1), .val (.int (2 : Int32)), .val (.int ((0 : Int32) + (1 : Int32))), .val (.ref s_N)] [])) _
    refine XS.aload X4.here hx rfl (hb hby d1_19) rfl rfl ?_
    show Steps p.tables e below (T4.setTop (mkF m 21 #[.val (.int p1), .val (.ref t1), .val (.int (2 : Int32)), .val (.int ((0 : Int32) + (1 : Int32))), .val (.ref s_N)] [(.ref s_N)])) _
    refine st6 _ ?_
    show Steps p.tables e below (T6.setTop (mkF m 24 #[.val (.int p1), .val (.ref t1), .val (.int (2 : Int32)), .val (.int ((0 : Int32) + (1 : Int32))), .val (.ref s_N)] [(.int (7 : Int32))])) _
    refine XS.iloadN X6.here hx rfl (hb hby d1_24) rfl ?_
    show Steps p.tables e below (T6.setTop (mkF m 25 #[.val (.int p1), .val (.ref t1), .val (.int (2 : Int32)), .val (.int ((0 : Int32) + (1 : Int32))), .val (.ref s_N)] [(.int p1), (.int (7 : Int32))])) _
    refine XS.icmpYes X6.here hx rfl (pc0 := 25) (pc' := 34) rfl (hb hby d1_25) rfl (feq ((fun q => h7 q.symm) : ¬ ((7 : Int32) = p1))).2 (by decide) (by decide) ?_
    show Steps p.tables e below (T6.setTop (mkF m 34 #[.val (.int p1), .val (.ref t1), .val (.int (2 : Int32)), .val (.int ((0 : Int32) + (1 : Int32))), .val (.ref s_N)] [])) _
    refine XS.iinc X6.here hx rfl (hb hby d1_34) rfl (l' := #[.val (.int p1), .val (.ref t1), .val (.int (2 : Int32)), .val (.int (((0 : Int32) + (1 : Int32)) + (1 : Int32))), .val (.ref s_N)]) rfl ?_
    show Steps p.tables e below (T6.setTop (mkF m 37 #[.val (.int p1), .val (.ref t1), .val (.int (2 : Int32)), .val (.int (((0 : Int32) + (1 : Int32)) + (1 : Int32))), .val (.ref s_N)] [])) _
    refine XS.goto X6.here hx rfl (pc0 := 37) (pc' := 9) rfl (hb hby d1_37) (by decide) (by decide) ?_
    show Steps p.tables e below (T6.setTop (mkF m 9 #[.val (.int p1), .val (.ref t1), .val (.int (2 : Int32)), .val (.int (((0 : Int32) + (1 : Int32)) + (1 : Int32))), .val (.ref s_N)] [])) _
    refine XS.iloadN X6.here hx rfl (hb hby d1_9) rfl ?_
    show Steps p.tables e below (T6.setTop (mkF m 10 #[.val (.int p1), .val (.ref t1), .val (.int (2 : Int32)), .val (.int (((0 : Int32) + (1 : Int32)) + (1 : Int32))), .val (.ref s_N)] [(.int (((0 : Int32) + (1 : Int32)) + (1 : Int32)))])) _
    refine XS.iloadN X6.here hx rfl (hb hby d1_10) rfl ?_
    show Steps p.tables e below (T6.setTop (mkF m 11 #[.val (.int p1), .val (.ref t1), .val (.int (2 : Int32)), .val (.int (((0 : Int32) + (1 : Int32)) + (1 : Int32))), .val (.ref s_N)] [(.int (2 : Int32)), (.int (((0 : Int32) + (1 : Int32)) + (1 : Int32)))])) _
    refine XS.icmpYes X6.here hx rfl (pc0 := 11) (pc' := 40) rfl (hb hby d1_11) rfl (flt (by decide : ¬ ((((0 : Int32) + (1 : Int32)) + (1 : Int32)) < (2 : Int32)))).2.1 (by decide) (by decide) ?_
    show Steps p.tables e below (T6.setTop (mkF m 40 #[.val (.int p1), .val (.ref t1), .val (.int (2 : Int32)), .val (.int (((0 : Int32) + (1 : Int32)) + (1 : Int32))), .val (.ref s_N)] [])) _
    refine st7 _ ?_
    show Steps p.tables e below (T7.setTop (mkF m 43 #[.val (.int p1), .val (.ref t1), .val (.int (2 : Int32)), .val (.int (((0 : Int32) + (1 : Int32)) + (1 : Int32))), .val (.ref s_N)] [(.ref s_E)])) _
    exact retOut X7 hx Bd.returns rfl (Or.inr (Or.inr (Or.inr (Or.inr ⟨rfl, rfl, rfl⟩)))) (hb hby d1_43) hr
  · show own_Qk (some (.ref s_E)) h0 n0 _ T7.heap _
    rw [e7]
    exact ⟨rfl, N7, K1⟩
theorem d4_0 : decode jdk_32_method_15_code 0 = .ok (.aload_n 0, 1) := by decide +kernel
theorem d4_1 : decode jdk_32_method_15_code 1 = .ok (.getfield 13, 3) := by decide +kernel
theorem d4_4 : decode jdk_32_method_15_code 4 = .ok (.ifnull 10, 3) := by decide +kernel
theorem d4_14 : decode jdk_32_method_15_code 14 = .ok (.aload_n 1, 1) := by decide +kernel
theorem d4_15 : decode jdk_32_method_15_code 15 = .ok (.areturn, 1) := by decide +kernel
theorem ef_4_6 (m : MethodId) (x0 : Addr) : entryFrame m #[(.ref x0), .null] 2 = mkF m 0 #[.val (.ref x0), .val .null] [] := by first | (simp [entryFrame, mkF, argsToLocals, Value.category]; done) | rfl
set_option maxRecDepth 65536 in
set_option maxHeartbeats 40000000 in
theorem r_orE (l : Launch) (Z : State) (a0 : Array Value) (hw : ∀ d ∈ tables_1, d.before a0 Z = true) (ws : List Jvm.Cond) (s_V s_T s_N s_E : Addr) (cl_V : Cell) (h0 : Heap) (n0 : Nat) (O0 : Old Z n0 h0) (G : own_Ctx Z Z.heap s_V s_T s_N s_E cl_V)   :
    MetFree l (⟨"java/util/Optional", "orElse", "(Ljava/lang/Object;)Ljava/lang/Object;"⟩ : MethodName) (head1 (Jvm.Cond.code (⟨"java/util/Optional", "orElse", "(Ljava/lang/Object;)Ljava/lang/Object;"⟩ : MethodName) jdk_32_method_15_code 2 (some (.object "java/lang/Object")) :: ws) ({ frames := 0, cells := 0, slots := 0, locals := 0 } : Room)) (fun a U => a = #[(.ref s_E), .null] ∧ Z.Warmed39 U.vm ∧ U.heap = h0) (fun _ _ _ _ _ => True) (fun _ U o U' => ∃ v L, o = .returned v ∧ own_Q (some .null) h0 n0 v U'.heap L ∧ FrameEnd U o U' L ({ frames := 0, cells := 0, slots := 0, locals := 0 } : Room).cells ({ frames := 0, cells := 0, slots := 0, locals := 0 } : Room).slots) := by
  have G0 := G
  obtain ⟨S_V, E_V, A_V, FC_V, L_V, Hs_V, Gf_V, S_T, E_T, F_T, S_N, E_N, F_N, S_E, E_E, F_E⟩ := G
  refine MetFree.of_bodySF (plainFor_of_name pn_1) hisR ?_
  intro p e s m args below meth c s₁ Bd hml0 hP hK
  obtain ⟨rfl, hZ, hh⟩ := hP
  have hx := Bd.exec
  have hby := Bd.bytes
  have hml : c.maxLocals = 2 := hml0
  have hown : s.vm.findClass "java/util/Optional" = some m.cls := findClass_of_methodNamed Bd.named
  have hnm := (name_of_methodNamed Bd.named Bd.method).1
  have X0 : Stand p l e ({ frames := 0, cells := 0, slots := 0, locals := 0 } : Room) s m #[(.ref s_E), .null] below meth c s₁ [] 0 0 := Stand.of_body Bd
  have e0 : s₁.heap = h0 := by rw [← hh, Bd.state]; rfl
  have N0 := Fr.nil n0
  have pre0 : ∀ t, Steps p.tables e below (s₁.setTop (mkF m 0 #[.val (.ref s_E), .val .null] [])) t → Steps p.tables e below (s₁.setTop (entryFrame m #[(.ref s_E), .null] 2)) t := fun t k => castTop (ef_4_6 m s_E) k
  obtain ⟨T1, X1, e1, st1⟩ := getF X0 hx hZ hown (host := "") (Or.inl (hw _ (List.mem_of_getElem? (i := 33) rfl))) Via.refl e0 (F_E.ext O0.2) (g := (mkF m 1 #[.val (.ref s_E), .val .null] [(.ref s_E)])) rfl rfl (hb hby d4_1)
  obtain ⟨fs, hr, hrun, hended, hW, hsame⟩ := X1.leave (v := some .null) (fun h => by rw [Bd.returns] at h; cases h)
  refine ⟨_, _, pre0 _ ?_, hrun, hended, _, _, rfl, ?_, ⟨_, rfl⟩, hW, hsame.mono (by decide) (by decide)⟩
  · show Steps p.tables e below (s₁.setTop (mkF m 0 #[.val (.ref s_E), .val .null] [])) _
    refine XS.aloadN X0.here hx rfl (hb hby d4_0) rfl rfl ?_
    show Steps p.tables e below (s₁.setTop (mkF m 1 #[.val (.ref s_E), .val .null] [(.ref s_E)])) _
    refine st1 _ ?_
    show Steps p.tables e below (T1.setTop (mkF m 4 #[.val (.ref s_E), .val .null] [.null])) _
    refine XS.ifnullYes X1.here hx rfl (pc0 := 4) (pc' := 14) rfl (hb hby d4_4) rfl (by decide) (by decide) ?_
    show Steps p.tables e below (T1.setTop (mkF m 14 #[.val (.ref s_E), .val .null] [])) _
    refine XS.aloadN X1.here hx rfl (hb hby d4_14) rfl rfl ?_
    show Steps p.tables e below (T1.setTop (mkF m 15 #[.val (.ref s_E), .val .null] [.null])) _
    exact retOut X1 hx Bd.returns rfl (Or.inr (Or.inr (Or.inr (Or.inr ⟨rfl, rfl, rfl⟩)))) (hb hby d4_15) hr
  · show own_Q (some .null) h0 n0 _ T1.heap _
    rw [e1]
    exact ⟨rfl, N0, rfl⟩
theorem d4_7 : decode jdk_32_method_15_code 7 = .ok (.aload_n 0, 1) := by decide +kernel
theorem d4_8 : decode jdk_32_method_15_code 8 = .ok (.getfield 13, 3) := by decide +kernel
theorem d4_11 : decode jdk_32_method_15_code 11 = .ok (.goto 4, 3) := by decide +kernel
set_option maxRecDepth 65536 in
set_option maxHeartbeats 40000000 in
theorem r_orV (l : Launch) (Z : State) (a0 : Array Value) (hw : ∀ d ∈ tables_1, d.before a0 Z = true) (ws : List Jvm.Cond) (s_V s_T s_N s_E : Addr) (cl_V : Cell) (h0 : Heap) (n0 : Nat) (O0 : Old Z n0 h0) (G : own_Ctx Z Z.heap s_V s_T s_N s_E cl_V) (a1 a2 : Addr) (Fv : Fld Z h0 a1 "java/util/Optional" "value" "Ljava/lang/Object;" (.ref a2)) :
    MetFree l (⟨"java/util/Optional", "orElse", "(Ljava/lang/Object;)Ljava/lang/Object;"⟩ : MethodName) (head1 (Jvm.Cond.code (⟨"java/util/Optional", "orElse", "(Ljava/lang/Object;)Ljava/lang/Object;"⟩ : MethodName) jdk_32_method_15_code 2 (some (.object "java/lang/Object")) :: ws) ({ frames := 0, cells := 0, slots := 0, locals := 0 } : Room)) (fun a U => a = #[(.ref a1), .null] ∧ Z.Warmed39 U.vm ∧ U.heap = h0) (fun _ _ _ _ _ => True) (fun _ U o U' => ∃ v L, o = .returned v ∧ own_Q (some (.ref a2)) h0 n0 v U'.heap L ∧ FrameEnd U o U' L ({ frames := 0, cells := 0, slots := 0, locals := 0 } : Room).cells ({ frames := 0, cells := 0, slots := 0, locals := 0 } : Room).slots) := by
  have G0 := G
  obtain ⟨S_V, E_V, A_V, FC_V, L_V, Hs_V, Gf_V, S_T, E_T, F_T, S_N, E_N, F_N, S_E, E_E, F_E⟩ := G
  refine MetFree.of_bodySF (plainFor_of_name pn_1) hisR ?_
  intro p e s m args below meth c s₁ Bd hml0 hP hK
  obtain ⟨rfl, hZ, hh⟩ := hP
  have hx := Bd.exec
  have hby := Bd.bytes
  have hml : c.maxLocals = 2 := hml0
  have hown : s.vm.findClass "java/util/Optional" = some m.cls := findClass_of_methodNamed Bd.named
  have hnm := (name_of_methodNamed Bd.named Bd.method).1
  have X0 : Stand p l e ({ frames := 0, cells := 0, slots := 0, locals := 0 } : Room) s m #[(.ref a1), .null] below meth c s₁ [] 0 0 := Stand.of_body Bd
  have e0 : s₁.heap = h0 := by rw [← hh, Bd.state]; rfl
  have N0 := Fr.nil n0
  have pre0 : ∀ t, Steps p.tables e below (s₁.setTop (mkF m 0 #[.val (.ref a1), .val .null] [])) t → Steps p.tables e below (s₁.setTop (entryFrame m #[(.ref a1), .null] 2)) t := fun t k => castTop (ef_4_6 m a1) k
  obtain ⟨T1, X1, e1, st1⟩ := getF X0 hx hZ hown (host := "") (Or.inl (hw _ (List.mem_of_getElem? (i := 33) rfl))) Via.refl e0 Fv (g := (mkF m 1 #[.val (.ref a1), .val .null] [(.ref a1)])) rfl rfl (hb hby d4_1)
  obtain ⟨T2, X2, e2, st2⟩ := getF X1 hx hZ hown (host := "") (Or.inl (hw _ (List.mem_of_getElem? (i := 33) rfl))) Via.refl e1 Fv (g := (mkF m 8 #[.val (.ref a1), .val .null] [(.ref a1)])) rfl rfl (hb hby d4_8)
  obtain ⟨fs, hr, hrun, hended, hW, hsame⟩ := X2.leave (v := some (.ref a2)) (fun h => by rw [Bd.returns] at h; cases h)
  refine ⟨_, _, pre0 _ ?_, hrun, hended, _, _, rfl, ?_, ⟨_, rfl⟩, hW, hsame.mono (by decide) (by decide)⟩
  · show Steps p.tables e below (s₁.setTop (mkF m 0 #[.val (.ref a1), .val .null] [])) _
    refine XS.aloadN X0.here hx rfl (hb hby d4_0) rfl rfl ?_
    show Steps p.tables e below (s₁.setTop (mkF m 1 #[.val (.ref a1), .val .null] [(.ref a1)])) _
    refine st1 _ ?_
    show Steps p.tables e below (T1.setTop (mkF m 4 #[.val (.ref a1), .val .null] [(.ref a2)])) _
    refine XS.ifnullNo X1.here hx rfl (hb hby d4_4) rfl ?_
    show Steps p.tables e below (T1.setTop (mkF m 7 #[.val (.ref a1), .val .null] [])) _
    refine XS.aloadN X1.here hx rfl (hb hby d4_7) rfl rfl ?_
    show Steps p.tables e below (T1.setTop (mkF m 8 #[.val (.ref a1), .val .null] [(.ref a1)])) _
    refine st2 _ ?_
    show Steps p.tables e below (T2.setTop (mkF m 11 #[.val (.ref a1), .val .null] [(.ref a2)])) _
    refine XS.goto X2.here hx rfl (pc0 := 11) (pc' := 15) rfl (hb hby d4_11) (by decide) (by decide) ?_
    show Steps p.tables e below (T2.setTop (mkF m 15 #[.val (.ref a1), .val .null] [(.ref a2)])) _
    exact retOut X2 hx Bd.returns rfl (Or.inr (Or.inr (Or.inr (Or.inr ⟨rfl, rfl, rfl⟩)))) (hb hby d4_15) hr
  · show own_Q (some (.ref a2)) h0 n0 _ T2.heap _
    rw [e2]
    exact ⟨rfl, N0, rfl⟩
theorem d9_0 : decode prog_41_method_4_code 0 = .ok (.aload_n 0, 1) := by decide +kernel
theorem d9_1 : decode prog_41_method_4_code 1 = .ok (.getfield 29, 3) := by decide +kernel
theorem d9_4 : decode prog_41_method_4_code 4 = .ok (.ireturn, 1) := by decide +kernel
theorem ef_9_7 (m : MethodId) (x0 : Addr) : entryFrame m #[(.ref x0)] 1 = mkF m 0 #[.val (.ref x0)] [] := by first | (simp [entryFrame, mkF, argsToLocals, Value.category]; done) | rfl
set_option maxRecDepth 65536 in
set_option maxHeartbeats 40000000 in
theorem r_numT (l : Launch) (Z : State) (a0 : Array Value) (hw : ∀ d ∈ tables_1, d.before a0 Z = true) (ws : List Jvm.Cond) (s_V s_T s_N s_E : Addr) (cl_V : Cell) (h0 : Heap) (n0 : Nat) (O0 : Old Z n0 h0) (G : own_Ctx Z Z.heap s_V s_T s_N s_E cl_V)   :
    MetFree l (⟨"com/example/rubrique/rubrique/render/Area", "number", "()I"⟩ : MethodName) (head1 (Jvm.Cond.code (⟨"com/example/rubrique/rubrique/render/Area", "number", "()I"⟩ : MethodName) prog_41_method_4_code 1 (some .int) :: ws) ({ frames := 0, cells := 0, slots := 0, locals := 0 } : Room)) (fun a U => a = #[(.ref s_T)] ∧ Z.Warmed39 U.vm ∧ U.heap = h0) (fun _ _ _ _ _ => True) (fun _ U o U' => ∃ v L, o = .returned v ∧ own_Q (some (.int (1 : Int32))) h0 n0 v U'.heap L ∧ FrameEnd U o U' L ({ frames := 0, cells := 0, slots := 0, locals := 0 } : Room).cells ({ frames := 0, cells := 0, slots := 0, locals := 0 } : Room).slots) := by
  have G0 := G
  obtain ⟨S_V, E_V, A_V, FC_V, L_V, Hs_V, Gf_V, S_T, E_T, F_T, S_N, E_N, F_N, S_E, E_E, F_E⟩ := G
  refine MetFree.of_bodySF (plainFor_of_name pn_0) hisR ?_
  intro p e s m args below meth c s₁ Bd hml0 hP hK
  obtain ⟨rfl, hZ, hh⟩ := hP
  have hx := Bd.exec
  have hby := Bd.bytes
  have hml : c.maxLocals = 1 := hml0
  have hown : s.vm.findClass "com/example/rubrique/rubrique/render/Area" = some m.cls := findClass_of_methodNamed Bd.named
  have hnm := (name_of_methodNamed Bd.named Bd.method).1
  have X0 : Stand p l e ({ frames := 0, cells := 0, slots := 0, locals := 0 } : Room) s m #[(.ref s_T)] below meth c s₁ [] 0 0 := Stand.of_body Bd
  have e0 : s₁.heap = h0 := by rw [← hh, Bd.state]; rfl
  have N0 := Fr.nil n0
  have pre0 : ∀ t, Steps p.tables e below (s₁.setTop (mkF m 0 #[.val (.ref s_T)] [])) t → Steps p.tables e below (s₁.setTop (entryFrame m #[(.ref s_T)] 1)) t := fun t k => castTop (ef_9_7 m s_T) k
  obtain ⟨T1, X1, e1, st1⟩ := getF X0 hx hZ hown (host := "") (Or.inl (hw _ (List.mem_of_getElem? (i := 21) rfl))) Via.refl e0 (F_T.ext O0.2) (g := (mkF m 1 #[.val (.ref s_T)] [(.ref s_T)])) rfl rfl (hb hby d9_1)
  obtain ⟨fs, hr, hrun, hended, hW, hsame⟩ := X1.leave (v := some (.int (1 : Int32))) (fun h => by rw [Bd.returns] at h; cases h)
  refine ⟨_, _, pre0 _ ?_, hrun, hended, _, _, rfl, ?_, ⟨_, rfl⟩, hW, hsame.mono (by decide) (by decide)⟩
  · show Steps p.tables e below (s₁.setTop (mkF m 0 #[.val (.ref s_T)] [])) _
    refine XS.aloadN X0.here hx rfl (hb hby d9_0) rfl rfl ?_
    show Steps p.tables e below (s₁.setTop (mkF m 1 #[.val (.ref s_T)] [(.ref s_T)])) _
    refine st1 _ ?_
    show Steps p.tables e below (T1.setTop (mkF m 4 #[.val (.ref s_T)] [(.int (1 : Int32))])) _
    exact retI X1 hx Bd.returns (hb hby d9_4) hr
  · show own_Q (some (.int (1 : Int32))) h0 n0 _ T1.heap _
    rw [e1]
    exact ⟨rfl, N0, rfl⟩
set_option maxRecDepth 65536 in
set_option maxHeartbeats 40000000 in
theorem r_numN (l : Launch) (Z : State) (a0 : Array Value) (hw : ∀ d ∈ tables_1, d.before a0 Z = true) (ws : List Jvm.Cond) (s_V s_T s_N s_E : Addr) (cl_V : Cell) (h0 : Heap) (n0 : Nat) (O0 : Old Z n0 h0) (G : own_Ctx Z Z.heap s_V s_T s_N s_E cl_V)   :
    MetFree l (⟨"com/example/rubrique/rubrique/render/Area", "number", "()I"⟩ : MethodName) (head1 (Jvm.Cond.code (⟨"com/example/rubrique/rubrique/render/Area", "number", "()I"⟩ : MethodName) prog_41_method_4_code 1 (some .int) :: ws) ({ frames := 0, cells := 0, slots := 0, locals := 0 } : Room)) (fun a U => a = #[(.ref s_N)] ∧ Z.Warmed39 U.vm ∧ U.heap = h0) (fun _ _ _ _ _ => True) (fun _ U o U' => ∃ v L, o = .returned v ∧ own_Q (some (.int (7 : Int32))) h0 n0 v U'.heap L ∧ FrameEnd U o U' L ({ frames := 0, cells := 0, slots := 0, locals := 0 } : Room).cells ({ frames := 0, cells := 0, slots := 0, locals := 0 } : Room).slots) := by
  have G0 := G
  obtain ⟨S_V, E_V, A_V, FC_V, L_V, Hs_V, Gf_V, S_T, E_T, F_T, S_N, E_N, F_N, S_E, E_E, F_E⟩ := G
  refine MetFree.of_bodySF (plainFor_of_name pn_0) hisR ?_
  intro p e s m args below meth c s₁ Bd hml0 hP hK
  obtain ⟨rfl, hZ, hh⟩ := hP
  have hx := Bd.exec
  have hby := Bd.bytes
  have hml : c.maxLocals = 1 := hml0
  have hown : s.vm.findClass "com/example/rubrique/rubrique/render/Area" = some m.cls := findClass_of_methodNamed Bd.named
  have hnm := (name_of_methodNamed Bd.named Bd.method).1
  have X0 : Stand p l e ({ frames := 0, cells := 0, slots := 0, locals := 0 } : Room) s m #[(.ref s_N)] below meth c s₁ [] 0 0 := Stand.of_body Bd
  have e0 : s₁.heap = h0 := by rw [← hh, Bd.state]; rfl
  have N0 := Fr.nil n0
  have pre0 : ∀ t, Steps p.tables e below (s₁.setTop (mkF m 0 #[.val (.ref s_N)] [])) t → Steps p.tables e below (s₁.setTop (entryFrame m #[(.ref s_N)] 1)) t := fun t k => castTop (ef_9_7 m s_N) k
  obtain ⟨T1, X1, e1, st1⟩ := getF X0 hx hZ hown (host := "") (Or.inl (hw _ (List.mem_of_getElem? (i := 21) rfl))) Via.refl e0 (F_N.ext O0.2) (g := (mkF m 1 #[.val (.ref s_N)] [(.ref s_N)])) rfl rfl (hb hby d9_1)
  obtain ⟨fs, hr, hrun, hended, hW, hsame⟩ := X1.leave (v := some (.int (7 : Int32))) (fun h => by rw [Bd.returns] at h; cases h)
  refine ⟨_, _, pre0 _ ?_, hrun, hended, _, _, rfl, ?_, ⟨_, rfl⟩, hW, hsame.mono (by decide) (by decide)⟩
  · show Steps p.tables e below (s₁.setTop (mkF m 0 #[.val (.ref s_N)] [])) _
    refine XS.aloadN X0.here hx rfl (hb hby d9_0) rfl rfl ?_
    show Steps p.tables e below (s₁.setTop (mkF m 1 #[.val (.ref s_N)] [(.ref s_N)])) _
    refine st1 _ ?_
    show Steps p.tables e below (T1.setTop (mkF m 4 #[.val (.ref s_N)] [(.int (7 : Int32))])) _
    exact retI X1 hx Bd.returns (hb hby d9_4) hr
  · show own_Q (some (.int (7 : Int32))) h0 n0 _ T1.heap _
    rw [e1]
    exact ⟨rfl, N0, rfl⟩
theorem own_and (p : Int32) : p &&& (3 : Int32) = (0 : Int32) ∨ p &&& (3 : Int32) = (1 : Int32) ∨ p &&& (3 : Int32) = (2 : Int32) ∨ p &&& (3 : Int32) = (3 : Int32) := by
  have h1 := c_and p (3 : Int32) (by decide)
  have h2 : ((3 : Int32)).toInt = 3 := rfl
  have h3 : (p &&& (3 : Int32)).toInt = 0 ∨ (p &&& (3 : Int32)).toInt = 1 ∨ (p &&& (3 : Int32)).toInt = 2 ∨ (p &&& (3 : Int32)).toInt = 3 := by omega
  rcases h3 with h | h | h | h
  · exact Or.inl (Int32.toInt_inj.mp (h.trans rfl))
  · exact Or.inr (Or.inl (Int32.toInt_inj.mp (h.trans rfl)))
  · exact Or.inr (Or.inr (Or.inl (Int32.toInt_inj.mp (h.trans rfl))))
  · exact Or.inr (Or.inr (Or.inr ((Int32.toInt_inj.mp (h.trans rfl)))))
theorem pd_5 : parseMethodDescriptor "(I)Ljava/util/Optional;" = some ⟨[.int], some (.object "java/util/Optional")⟩ := by decide +kernel
theorem pd_6 : parseMethodDescriptor "()I" = some ⟨[], some .int⟩ := by decide +kernel
theorem ef_0_8 (m : MethodId) (x0 : Int32) (x1 : Int32) : entryFrame m #[(.int x0), (.int x1)] maxLocals = mkF m 0 #[.val (.int x0), .val (.int x1), .unset, .unset, .unset, .unset] [] := by first | (simp [entryFrame, mkF, argsToLocals, Value.category, maxLocals]; done) | rfl
theorem pn_3 : plainName "com/example/rubrique/rubrique/render/AreaByNumberPinLaw" = true := by first | (simp [plainName, overriddenIn]; done) | decide +kernel
set_option maxRecDepth 65536 in
set_option maxHeartbeats 40000000 in
theorem r_law_0 (l : Launch) (Z : State) (a0 : Array Value) (hw : ∀ d ∈ tables_1, d.before a0 Z = true) (ws : List Jvm.Cond) (s_V s_T s_N s_E : Addr) (cl_V : Cell) (h0 : Heap) (n0 : Nat) (O0 : Old Z n0 h0) (G : own_Ctx Z Z.heap s_V s_T s_N s_E cl_V) (p1 p2 : Int32) (hk : p2 &&& (3 : Int32) = (0 : Int32)) :
    MetFree l x (head1 (Jvm.Cond.code x code maxLocals ret :: ws) room_1) (fun a U => a = #[(.int p1), (.int p2)] ∧ Z.Warmed39 U.vm ∧ U.heap = h0) (fun _ _ _ _ _ => True) (fun _ U o U' => ∃ v L, o = .returned v ∧ own_Qk (some (.int (1 : Int32))) h0 n0 v U'.heap L ∧ FrameEnd U o U' L 16 128) := by
  have G0 := G
  obtain ⟨S_V, E_V, A_V, FC_V, L_V, Hs_V, Gf_V, S_T, E_T, F_T, S_N, E_N, F_N, S_E, E_E, F_E⟩ := G
  refine MetFree.of_bodySF (plainFor_of_name pn_3) hisR ?_
  intro p e s m args below meth c s₁ Bd hml0 hP hK
  obtain ⟨rfl, hZ, hh⟩ := hP
  have hx := Bd.exec
  have hby := Bd.bytes
  have hml : c.maxLocals = 6 := hml0
  have hown : s.vm.findClass "com/example/rubrique/rubrique/render/AreaByNumberPinLaw" = some m.cls := findClass_of_methodNamed Bd.named
  have hnm := (name_of_methodNamed Bd.named Bd.method).1
  have X0 : Stand p l e room_1 s m #[(.int p1), (.int p2)] below meth c s₁ [] 0 0 := Stand.of_body Bd
  have e0 : s₁.heap = h0 := by rw [← hh, Bd.state]; rfl
  have N0 := Fr.nil n0
  have pre0 : ∀ t, Steps p.tables e below (s₁.setTop (mkF m 0 #[.val (.int p1), .val (.int p2), .unset, .unset, .unset, .unset] [])) t → Steps p.tables e below (s₁.setTop (entryFrame m #[(.int p1), (.int p2)] maxLocals)) t := fun t k => castTop (ef_0_8 m p1 p2) k
  obtain ⟨_, _, ⟨T1, L1, k1, n1⟩, -, X1, ⟨Lc1, hQ1, l1, y1, z1⟩, st1⟩ := Jvm.LawKit.callS X0 hx (y := (⟨"com/example/rubrique/rubrique/render/Area", "byNumber", "(I)Ljava/util/Optional;"⟩ : MethodName)) hown (mvT hZ (hw _ (List.mem_of_getElem? (i := 0) rfl))) (mvT hZ (hw _ (List.mem_of_getElem? (i := 1) rfl))) (mvT hZ (hw _ (List.mem_of_getElem? (i := 2) rfl))) (mvT hZ (hw _ (List.mem_of_getElem? (i := 3) rfl))) (by decide) (backOf (W := 0) (r_by1 l Z a0 hw [] s_V s_T s_N s_E cl_V h0 n0 O0 G0) hZ (hw _ (List.mem_of_getElem? (i := 3) rfl)) (hw _ (List.mem_of_getElem? (i := 2) rfl)) (by decide) (by decide)) (g := (mkF m 25 #[.val (.int p1), .val (.int p2), .val (.int (0 : Int32)), .val (.int (1 : Int32)), .unset, .unset] [(.int (1 : Int32))])) rfl (by rw [hml]; rfl) (argsL := [(.int (1 : Int32))]) (rest := []) (lenOf pd_5 rfl) rfl (by show 2 * 0 + _ ≤ _; exact Nat.le_of_eq rfl) (hb hby at_25) (fun _ _ => ⟨rfl, e0, (by decide : 0 + 2 ≤ _), (by decide : 0 + 3 ≤ _)⟩)
  dsimp only [Pt.U, Pt.locs, Pt.cells, Pt.slots] at X1 l1 y1 z1 st1 hQ1
  subst l1 y1 z1
  obtain ⟨t1, rfl, N1q, Kq1, gt1, Et1, Fv1⟩ := hQ1
  have N1 := Fr.app N0 N1q
  have ne_s_V_t1 : s_V ≠ t1 := Nat.ne_of_lt (Nat.lt_of_lt_of_le (E_V.ext O0.2).lt gt1)
  have ne_s_T_t1 : s_T ≠ t1 := Nat.ne_of_lt (Nat.lt_of_lt_of_le (E_T.ext O0.2).lt gt1)
  have ne_s_N_t1 : s_N ≠ t1 := Nat.ne_of_lt (Nat.lt_of_lt_of_le (E_N.ext O0.2).lt gt1)
  have ne_s_E_t1 : s_E ≠ t1 := Nat.ne_of_lt (Nat.lt_of_lt_of_le (E_E.ext O0.2).lt gt1)
  have g_t1 : n0 ≤ t1 := Nat.le_trans (O0.1 ▸ O0.2.1) gt1
  have sz_t1 : h0.size ≤ t1 := Nat.le_trans (Keep.refl h0 []).1 gt1
  have O1 := O0.keep Kq1 all0
  have K1 : Keep h0 T1.heap [] := (Keep.refl h0 []).trans Kq1 all0
  obtain ⟨cq2, kq2, q2a, q2b, q2c⟩ := isOf hZ rfl Et1
  obtain ⟨_, _, ⟨T2, L2, k2, n2⟩, -, X2, ⟨Lc2, hQ2, l2, y2, z2⟩, st2⟩ := X1.virtualBack hx (y := (⟨"java/util/Optional", "orElse", "(Ljava/lang/Object;)Ljava/lang/Object;"⟩ : MethodName)) (z := (⟨"java/util/Optional", "orElse", "(Ljava/lang/Object;)Ljava/lang/Object;"⟩ : MethodName)) hown (mvT hZ (hw _ (List.mem_of_getElem? (i := 28) rfl))) (mvT hZ (hw _ (List.mem_of_getElem? (i := 29) rfl))) (notFace_of_selects (args := #[]) (mvT hZ (hw _ (List.mem_of_getElem? (i := 31) rfl)))) (mvT hZ (hw _ (List.mem_of_getElem? (i := 31) rfl))) (mvT hZ (hw _ (List.mem_of_getElem? (i := 30) rfl))) (by decide) (backOf (W := 0) (r_orV l Z a0 hw [] s_V s_T s_N s_E cl_V T1.heap n0 O1 G0 t1 s_T Fv1) hZ (hw _ (List.mem_of_getElem? (i := 32) rfl)) (hw _ (List.mem_of_getElem? (i := 25) rfl)) (by decide) (by decide)) q2a q2c (g := (mkF m 29 #[.val (.int p1), .val (.int p2), .val (.int (0 : Int32)), .val (.int (1 : Int32)), .unset, .unset] [.null, (.ref t1)])) rfl (by rw [hml]; rfl) (Steps.refl _) (argsL := [.null]) (rest := []) (lenOf pd_0 rfl) rfl (by show 2 * 0 + _ ≤ _; exact Nat.le_of_eq rfl) (hb hby at_29) (fun _ _ => ⟨rfl, rfl, (by decide : 2 + 0 ≤ _), (by decide : 3 + 0 ≤ _)⟩)
  dsimp only [Pt.U, Pt.locs, Pt.cells, Pt.slots] at X2 l2 y2 z2 st2 hQ2
  subst l2 y2 z2
  obtain ⟨rfl, N2q, e2⟩ := hQ2
  have N2 := Fr.app N1 N2q
  obtain ⟨T3, X3, e3, st3⟩ := castY X2 hx hZ hown (hw _ (List.mem_of_getElem? (i := 51) rfl)) e2 (Ins.self (E_T.ext O1.2)) (g := (mkF m 32 #[.val (.int p1), .val (.int p2), .val (.int (0 : Int32)), .val (.int (1 : Int32)), .unset, .unset] [(.ref s_T)])) rfl rfl (hb hby at_32)
  obtain ⟨T4, X4, e4, st4⟩ := getS2 X3 hx hZ hown (host := "") (Or.inl (hw _ (List.mem_of_getElem? (i := 59) rfl))) Via.refl e3 (S_T.ext O1.2) (g := (mkF m 42 #[.val (.int p1), .val (.int p2), .val (.int (0 : Int32)), .val (.int (1 : Int32)), .val (.ref s_T), .unset] [])) rfl (hb hby at_42)
  obtain ⟨cq5, kq5, q5a, q5b, q5c⟩ := isOf hZ e4 (E_T.ext O1.2)
  obtain ⟨_, _, ⟨T5, L5, k5, n5⟩, -, X5, ⟨Lc5, hQ5, l5, y5, z5⟩, st5⟩ := X4.virtualBack hx (y := (⟨"com/example/rubrique/rubrique/render/Area", "number", "()I"⟩ : MethodName)) (z := (⟨"com/example/rubrique/rubrique/render/Area", "number", "()I"⟩ : MethodName)) hown (mvT hZ (hw _ (List.mem_of_getElem? (i := 54) rfl))) (mvT hZ (hw _ (List.mem_of_getElem? (i := 55) rfl))) (notFace_of_selects (args := #[]) (mvT hZ (hw _ (List.mem_of_getElem? (i := 57) rfl)))) (mvT hZ (hw _ (List.mem_of_getElem? (i := 57) rfl))) (mvT hZ (hw _ (List.mem_of_getElem? (i := 56) rfl))) (by decide) (backOf (W := 0) (r_numT l Z a0 hw [] s_V s_T s_N s_E cl_V T1.heap n0 O1 G0) hZ (hw _ (List.mem_of_getElem? (i := 58) rfl)) (hw _ (List.mem_of_getElem? (i := 2) rfl)) (by decide) (by decide)) q5a q5c (g := (mkF m 79 #[.val (.int p1), .val (.int p2), .val (.int (0 : Int32)), .val (.int (1 : Int32)), .val (.ref s_T), .val (.ref s_T)] [(.ref s_T)])) rfl (by rw [hml]; rfl) (Steps.refl _) (argsL := []) (rest := []) (lenOf pd_6 rfl) rfl (by show 2 * 0 + _ ≤ _; exact Nat.le_of_eq rfl) (hb hby at_79) (fun _ _ => ⟨rfl, e4, (by decide : 2 + 0 ≤ _), (by decide : 3 + 0 ≤ _)⟩)
  dsimp only [Pt.U, Pt.locs, Pt.cells, Pt.slots] at X5 l5 y5 z5 st5 hQ5
  subst l5 y5 z5
  obtain ⟨rfl, N5q, e5⟩ := hQ5
  have N5 := Fr.app N2 N5q
  obtain ⟨fs, hr, hrun, hended, hW, hsame⟩ := X5.leave (v := some (.int (1 : Int32))) (fun h => by rw [Bd.returns] at h; cases h)
  refine ⟨_, _, pre0 _ ?_, hrun, hended, _, _, rfl, ?_, ⟨_, rfl⟩, hW, hsame.mono (by decide) (by decide)⟩
  · show Steps p.tables e below (s₁.setTop (mkF m 0 #[.val (.int p1), .val (.int p2), .unset, .unset, .unset, .unset] [])) _
    refine XS.iloadN X0.here hx rfl (hb hby at_0) rfl ?_
    show Steps p.tables e below (s₁.setTop (mkF m 1 #[.val (.int p1), .val (.int p2), .unset, .unset, .unset, .unset] [(.int p2)])) _
    refine XS.iconst X0.here hx rfl (hb hby at_1) ?_
    show Steps p.tables e below (s₁.setTop (mkF m 2 #[.val (.int p1), .val (.int p2), .unset, .unset, .unset, .unset] [(.int (3 : Int32)), (.int p2)])) _
    refine XS.iand X0.here hx rfl (hb hby at_2) rfl ?_
    show Steps p.tables e below (s₁.setTop (mkF m 3 #[.val (.int p1), .val (.int p2), .unset, .unset, .unset, .unset] [(.int (p2 &&& (3 : Int32)))])) _
    rw [hk]
    show Steps p.tables e below (s₁.setTop (mkF m 3 #[.val (.int p1), .val (.int p2), .unset, .unset, .unset, .unset] [(.int (0 : Int32))])) _
    refine XS.istoreN X0.here hx rfl (hb hby at_3) rfl (l' := #[.val (.int p1), .val (.int p2), .val (.int (0 : Int32)), .unset, .unset, .unset]) rfl ?_
    show Steps p.tables e below (s₁.setTop (mkF m 4 #[.val (.int p1), .val (.int p2), .val (.int (0 : Int32)), .unset, .unset, .unset] [])) _
    refine XS.iloadN X0.here hx rfl (hb hby at_4) rfl ?_
    show Steps p.tables e below (s₁.setTop (mkF m 5 #[.val (.int p1), .val (.int p2), .val (.int (0 : Int32)), .unset, .unset, .unset] [(.int (0 : Int32))])) _
    refine XS.ifNo X0.here hx rfl (hb hby at_5) rfl ((if0 _ _).trans (teq (by decide : (0 : Int32) = (0 : Int32))).2) ?_
    show Steps p.tables e below (s₁.setTop (mkF m 8 #[.val (.int p1), .val (.int p2), .val (.int (0 : Int32)), .unset, .unset, .unset] [])) _
    refine XS.iconst X0.here hx rfl (hb hby at_8) ?_
    show Steps p.tables e below (s₁.setTop (mkF m 9 #[.val (.int p1), .val (.int p2), .val (.int (0 : Int32)), .unset, .unset, .unset] [(.int (1 : Int32))])) _
    refine XS.goto X0.here hx rfl (pc0 := 9) (pc' := 23) rfl (hb hby at_9) (by decide) (by decide) ?_
    show Steps p.tables e below (s₁.setTop (mkF m 23 #[.val (.int p1), .val (.int p2), .val (.int (0 : Int32)), .unset, .unset, .unset] [(.int (1 : Int32))])) _
    refine XS.istoreN X0.here hx rfl (hb hby at_23) rfl (l' := #[.val (.int p1), .val (.int p2), .val (.int (0 : Int32)), .val (.int (1 : Int32)), .unset, .unset]) rfl ?_
    show Steps p.tables e below (s₁.setTop (mkF m 24 #[.val (.int p1), .val (.int p2), .val (.int (0 : Int32)), .val (.int (1 : Int32)), .unset, .unset] [])) _
    refine XS.iloadN X0.here hx rfl (hb hby at_24) rfl ?_
    show Steps p.tables e below (s₁.setTop (mkF m 25 #[.val (.int p1), .val (.int p2), .val (.int (0 : Int32)), .val (.int (1 : Int32)), .unset, .unset] [(.int (1 : Int32))])) _
    refine st1 _ ?_
    show Steps p.tables e below (T1.setTop (mkF m 28 #[.val (.int p1), .val (.int p2), .val (.int (0 : Int32)), .val (.int (1 : Int32)), .unset, .unset] [(.ref t1)])) _
    refine XS.aconstNull X1.here hx rfl (hb hby at_28) ?_
    show Steps p.tables e below (T1.setTop (mkF m 29 #[.val (.int p1), .val (.int p2), .val (.int (0 : Int32)), .val (.int (1 : Int32)), .unset, .unset] [.null, (.ref t1)])) _
    refine st2.trans ?_
    show Steps p.tables e below (T2.setTop (mkF m 32 #[.val (.int p1), .val (.int p2), .val (.int (0 : Int32)), .val (.int (1 : Int32)), .unset, .unset] [(.ref s_T)])) _
    refine st3 _ ?_
    show Steps p.tables e below (T3.setTop (mkF m 35 #[.val (.int p1), .val (.int p2), .val (.int (0 : Int32)), .val (.int (1 : Int32)), .unset, .unset] [(.ref s_T)])) _
    refine XS.astore X3.here hx rfl (hb hby at_35) rfl rfl (l' := #[.val (.int p1), .val (.int p2), .val (.int (0 : Int32)), .val (.int (1 : Int32)), .val (.ref s_T), .unset]) rfl ?_
    show Steps p.tables e below (T3.setTop (mkF m 37 #[.val (.int p1), .val (.int p2), .val (.int (0 : Int32)), .val (.int (1 : Int32)), .val (.ref s_T), .unset] [])) _
    refine XS.iloadN X3.here hx rfl (hb hby at_37) rfl ?_
    show Steps p.tables e below (T3.setTop (mkF m 38 #[.val (.int p1), .val (.int p2), .val (.int (0 : Int32)), .val (.int (1 : Int32)), .val (.ref s_T), .unset] [(.int (1 : Int32))])) _
    refine XS.iconst X3.here hx rfl (hb hby at_38) ?_
    show Steps p.tables e below (T3.setTop (mkF m 39 #[.val (.int p1), .val (.int p2), .val (.int (0 : Int32)), .val (.int (1 : Int32)), .val (.ref s_T), .unset] [(.int (1 : Int32)), (.int (1 : Int32))])) _
    refine XS.icmpNo X3.here hx rfl (hb hby at_39) rfl (teq (by decide : (1 : Int32) = (1 : Int32))).2 ?_
    show Steps p.tables e below (T3.setTop (mkF m 42 #[.val (.int p1), .val (.int p2), .val (.int (0 : Int32)), .val (.int (1 : Int32)), .val (.ref s_T), .unset] [])) _
    refine st4 _ ?_
    show Steps p.tables e below (T4.setTop (mkF m 45 #[.val (.int p1), .val (.int p2), .val (.int (0 : Int32)), .val (.int (1 : Int32)), .val (.ref s_T), .unset] [(.ref s_T)])) _
    refine XS.goto X4.here hx rfl (pc0 := 45) (pc' := 61) rfl (hb hby at_45) (by decide) (by decide) ?_
    show Steps p.tables e below (T4.setTop (mkF m 61 #[.val (.int p1), .val (.int p2), .val (.int (0 : Int32)), .val (.int (1 : Int32)), .val (.ref s_T), .unset] [(.ref s_T)])) _
    refine XS.astore X4.here hx rfl (hb hby at_61) rfl rfl (l' := #[.val (.int p1), .val (.int p2), .val (.int (0 : Int32)), .val (.int (1 : Int32)), .val (.ref s_T), .val (.ref s_T)]) rfl ?_
    show Steps p.tables e below (T4.setTop (mkF m 63 #[.val (.int p1), .val (.int p2), .val (.int (0 : Int32)), .val (.int (1 : Int32)), .val (.ref s_T), .val (.ref s_T)] [])) _
    refine XS.aload X4.here hx rfl (hb hby at_63) rfl rfl ?_
    show Steps p.tables e below (T4.setTop (mkF m 65 #[.val (.int p1), .val (.int p2), .val (.int (0 : Int32)), .val (.int (1 : Int32)), .val (.ref s_T), .val (.ref s_T)] [(.ref s_T)])) _
    refine XS.aload X4.here hx rfl (hb hby at_65) rfl rfl ?_
    show Steps p.tables e below (T4.setTop (mkF m 67 #[.val (.int p1), .val (.int p2), .val (.int (0 : Int32)), .val (.int (1 : Int32)), .val (.ref s_T), .val (.ref s_T)] [(.ref s_T), (.ref s_T)])) _
    refine Jvm.RoadKit.acmp (g := (mkF m 67 #[.val (.int p1), .val (.int p2), .val (.int (0 : Int32)), .val (.int (1 : Int32)), .val (.ref s_T), .val (.ref s_T)] [(.ref s_T), (.ref s_T)])) X4 hx rfl rfl rfl (pc0 := 67) (pc' := 72) (same := true) rfl (hb hby at_67) rfl (decide_eq_true rfl) (by decide) (by decide) ?_
    show Steps p.tables e below (T4.setTop (mkF m 72 #[.val (.int p1), .val (.int p2), .val (.int (0 : Int32)), .val (.int (1 : Int32)), .val (.ref s_T), .val (.ref s_T)] [])) _
    refine XS.aload X4.here hx rfl (hb hby at_72) rfl rfl ?_
    show Steps p.tables e below (T4.setTop (mkF m 74 #[.val (.int p1), .val (.int p2), .val (.int (0 : Int32)), .val (.int (1 : Int32)), .val (.ref s_T), .val (.ref s_T)] [(.ref s_T)])) _
    refine XS.ifnullNo X4.here hx rfl (hb hby at_74) rfl ?_
    show Steps p.tables e below (T4.setTop (mkF m 77 #[.val (.int p1), .val (.int p2), .val (.int (0 : Int32)), .val (.int (1 : Int32)), .val (.ref s_T), .val (.ref s_T)] [])) _
    refine XS.aload X4.here hx rfl (hb hby at_77) rfl rfl ?_
    show Steps p.tables e below (T4.setTop (mkF m 79 #[.val (.int p1), .val (.int p2), .val (.int (0 : Int32)), .val (.int (1 : Int32)), .val (.ref s_T), .val (.ref s_T)] [(.ref s_T)])) _
    refine st5.trans ?_
    show Steps p.tables e below (T5.setTop (mkF m 82 #[.val (.int p1), .val (.int p2), .val (.int (0 : Int32)), .val (.int (1 : Int32)), .val (.ref s_T), .val (.ref s_T)] [(.int (1 : Int32))])) _
    refine XS.iloadN X5.here hx rfl (hb hby at_82) rfl ?_
    show Steps p.tables e below (T5.setTop (mkF m 83 #[.val (.int p1), .val (.int p2), .val (.int (0 : Int32)), .val (.int (1 : Int32)), .val (.ref s_T), .val (.ref s_T)] [(.int (1 : Int32)), (.int (1 : Int32))])) _
    refine XS.icmpNo X5.here hx rfl (hb hby at_83) rfl (teq (by decide : (1 : Int32) = (1 : Int32))).2 ?_
    show Steps p.tables e below (T5.setTop (mkF m 86 #[.val (.int p1), .val (.int p2), .val (.int (0 : Int32)), .val (.int (1 : Int32)), .val (.ref s_T), .val (.ref s_T)] [])) _
    refine XS.iconst X5.here hx rfl (hb hby at_86) ?_
    show Steps p.tables e below (T5.setTop (mkF m 87 #[.val (.int p1), .val (.int p2), .val (.int (0 : Int32)), .val (.int (1 : Int32)), .val (.ref s_T), .val (.ref s_T)] [(.int (1 : Int32))])) _
    refine XS.goto X5.here hx rfl (pc0 := 87) (pc' := 91) rfl (hb hby at_87) (by decide) (by decide) ?_
    show Steps p.tables e below (T5.setTop (mkF m 91 #[.val (.int p1), .val (.int p2), .val (.int (0 : Int32)), .val (.int (1 : Int32)), .val (.ref s_T), .val (.ref s_T)] [(.int (1 : Int32))])) _
    exact retN X5 hx (t := .boolean) Bd.returns (by simp) (hb hby at_91) hr
  · show own_Qk (some (.int (1 : Int32))) h0 n0 _ T5.heap _
    rw [e5]
    exact ⟨rfl, N5, K1⟩
set_option maxRecDepth 65536 in
set_option maxHeartbeats 40000000 in
theorem r_law_1 (l : Launch) (Z : State) (a0 : Array Value) (hw : ∀ d ∈ tables_1, d.before a0 Z = true) (ws : List Jvm.Cond) (s_V s_T s_N s_E : Addr) (cl_V : Cell) (h0 : Heap) (n0 : Nat) (O0 : Old Z n0 h0) (G : own_Ctx Z Z.heap s_V s_T s_N s_E cl_V) (p1 p2 : Int32) (hk : p2 &&& (3 : Int32) = (1 : Int32)) :
    MetFree l x (head1 (Jvm.Cond.code x code maxLocals ret :: ws) room_1) (fun a U => a = #[(.int p1), (.int p2)] ∧ Z.Warmed39 U.vm ∧ U.heap = h0) (fun _ _ _ _ _ => True) (fun _ U o U' => ∃ v L, o = .returned v ∧ own_Qk (some (.int (1 : Int32))) h0 n0 v U'.heap L ∧ FrameEnd U o U' L 16 128) := by
  have G0 := G
  obtain ⟨S_V, E_V, A_V, FC_V, L_V, Hs_V, Gf_V, S_T, E_T, F_T, S_N, E_N, F_N, S_E, E_E, F_E⟩ := G
  refine MetFree.of_bodySF (plainFor_of_name pn_3) hisR ?_
  intro p e s m args below meth c s₁ Bd hml0 hP hK
  obtain ⟨rfl, hZ, hh⟩ := hP
  have hx := Bd.exec
  have hby := Bd.bytes
  have hml : c.maxLocals = 6 := hml0
  have hown : s.vm.findClass "com/example/rubrique/rubrique/render/AreaByNumberPinLaw" = some m.cls := findClass_of_methodNamed Bd.named
  have hnm := (name_of_methodNamed Bd.named Bd.method).1
  have X0 : Stand p l e room_1 s m #[(.int p1), (.int p2)] below meth c s₁ [] 0 0 := Stand.of_body Bd
  have e0 : s₁.heap = h0 := by rw [← hh, Bd.state]; rfl
  have N0 := Fr.nil n0
  have pre0 : ∀ t, Steps p.tables e below (s₁.setTop (mkF m 0 #[.val (.int p1), .val (.int p2), .unset, .unset, .unset, .unset] [])) t → Steps p.tables e below (s₁.setTop (entryFrame m #[(.int p1), (.int p2)] maxLocals)) t := fun t k => castTop (ef_0_8 m p1 p2) k
  obtain ⟨_, _, ⟨T1, L1, k1, n1⟩, -, X1, ⟨Lc1, hQ1, l1, y1, z1⟩, st1⟩ := Jvm.LawKit.callS X0 hx (y := (⟨"com/example/rubrique/rubrique/render/Area", "byNumber", "(I)Ljava/util/Optional;"⟩ : MethodName)) hown (mvT hZ (hw _ (List.mem_of_getElem? (i := 0) rfl))) (mvT hZ (hw _ (List.mem_of_getElem? (i := 1) rfl))) (mvT hZ (hw _ (List.mem_of_getElem? (i := 2) rfl))) (mvT hZ (hw _ (List.mem_of_getElem? (i := 3) rfl))) (by decide) (backOf (W := 0) (r_by7 l Z a0 hw [] s_V s_T s_N s_E cl_V h0 n0 O0 G0) hZ (hw _ (List.mem_of_getElem? (i := 3) rfl)) (hw _ (List.mem_of_getElem? (i := 2) rfl)) (by decide) (by decide)) (g := (mkF m 25 #[.val (.int p1), .val (.int p2), .val (.int (1 : Int32)), .val (.int (7 : Int32)), .unset, .unset] [(.int (7 : Int32))])) rfl (by rw [hml]; rfl) (argsL := [(.int (7 : Int32))]) (rest := []) (lenOf pd_5 rfl) rfl (by show 2 * 0 + _ ≤ _; exact Nat.le_of_eq rfl) (hb hby at_25) (fun _ _ => ⟨rfl, e0, (by decide : 0 + 2 ≤ _), (by decide : 0 + 3 ≤ _)⟩)
  dsimp only [Pt.U, Pt.locs, Pt.cells, Pt.slots] at X1 l1 y1 z1 st1 hQ1
  subst l1 y1 z1
  obtain ⟨t1, rfl, N1q, Kq1, gt1, Et1, Fv1⟩ := hQ1
  have N1 := Fr.app N0 N1q
  have ne_s_V_t1 : s_V ≠ t1 := Nat.ne_of_lt (Nat.lt_of_lt_of_le (E_V.ext O0.2).lt gt1)
  have ne_s_T_t1 : s_T ≠ t1 := Nat.ne_of_lt (Nat.lt_of_lt_of_le (E_T.ext O0.2).lt gt1)
  have ne_s_N_t1 : s_N ≠ t1 := Nat.ne_of_lt (Nat.lt_of_lt_of_le (E_N.ext O0.2).lt gt1)
  have ne_s_E_t1 : s_E ≠ t1 := Nat.ne_of_lt (Nat.lt_of_lt_of_le (E_E.ext O0.2).lt gt1)
  have g_t1 : n0 ≤ t1 := Nat.le_trans (O0.1 ▸ O0.2.1) gt1
  have sz_t1 : h0.size ≤ t1 := Nat.le_trans (Keep.refl h0 []).1 gt1
  have O1 := O0.keep Kq1 all0
  have K1 : Keep h0 T1.heap [] := (Keep.refl h0 []).trans Kq1 all0
  obtain ⟨cq2, kq2, q2a, q2b, q2c⟩ := isOf hZ rfl Et1
  obtain ⟨_, _, ⟨T2, L2, k2, n2⟩, -, X2, ⟨Lc2, hQ2, l2, y2, z2⟩, st2⟩ := X1.virtualBack hx (y := (⟨"java/util/Optional", "orElse", "(Ljava/lang/Object;)Ljava/lang/Object;"⟩ : MethodName)) (z := (⟨"java/util/Optional", "orElse", "(Ljava/lang/Object;)Ljava/lang/Object;"⟩ : MethodName)) hown (mvT hZ (hw _ (List.mem_of_getElem? (i := 28) rfl))) (mvT hZ (hw _ (List.mem_of_getElem? (i := 29) rfl))) (notFace_of_selects (args := #[]) (mvT hZ (hw _ (List.mem_of_getElem? (i := 31) rfl)))) (mvT hZ (hw _ (List.mem_of_getElem? (i := 31) rfl))) (mvT hZ (hw _ (List.mem_of_getElem? (i := 30) rfl))) (by decide) (backOf (W := 0) (r_orV l Z a0 hw [] s_V s_T s_N s_E cl_V T1.heap n0 O1 G0 t1 s_N Fv1) hZ (hw _ (List.mem_of_getElem? (i := 32) rfl)) (hw _ (List.mem_of_getElem? (i := 25) rfl)) (by decide) (by decide)) q2a q2c (g := (mkF m 29 #[.val (.int p1), .val (.int p2), .val (.int (1 : Int32)), .val (.int (7 : Int32)), .unset, .unset] [.null, (.ref t1)])) rfl (by rw [hml]; rfl) (Steps.refl _) (argsL := [.null]) (rest := []) (lenOf pd_0 rfl) rfl (by show 2 * 0 + _ ≤ _; exact Nat.le_of_eq rfl) (hb hby at_29) (fun _ _ => ⟨rfl, rfl, (by decide : 2 + 0 ≤ _), (by decide : 3 + 0 ≤ _)⟩)
  dsimp only [Pt.U, Pt.locs, Pt.cells, Pt.slots] at X2 l2 y2 z2 st2 hQ2
  subst l2 y2 z2
  obtain ⟨rfl, N2q, e2⟩ := hQ2
  have N2 := Fr.app N1 N2q
  obtain ⟨T3, X3, e3, st3⟩ := castY X2 hx hZ hown (hw _ (List.mem_of_getElem? (i := 51) rfl)) e2 (Ins.self (E_N.ext O1.2)) (g := (mkF m 32 #[.val (.int p1), .val (.int p2), .val (.int (1 : Int32)), .val (.int (7 : Int32)), .unset, .unset] [(.ref s_N)])) rfl rfl (hb hby at_32)
  obtain ⟨T4, X4, e4, st4⟩ := getS2 X3 hx hZ hown (host := "") (Or.inl (hw _ (List.mem_of_getElem? (i := 53) rfl))) Via.refl e3 (S_N.ext O1.2) (g := (mkF m 54 #[.val (.int p1), .val (.int p2), .val (.int (1 : Int32)), .val (.int (7 : Int32)), .val (.ref s_N), .unset] [])) rfl (hb hby at_54)
  obtain ⟨cq5, kq5, q5a, q5b, q5c⟩ := isOf hZ e4 (E_N.ext O1.2)
  obtain ⟨_, _, ⟨T5, L5, k5, n5⟩, -, X5, ⟨Lc5, hQ5, l5, y5, z5⟩, st5⟩ := X4.virtualBack hx (y := (⟨"com/example/rubrique/rubrique/render/Area", "number", "()I"⟩ : MethodName)) (z := (⟨"com/example/rubrique/rubrique/render/Area", "number", "()I"⟩ : MethodName)) hown (mvT hZ (hw _ (List.mem_of_getElem? (i := 54) rfl))) (mvT hZ (hw _ (List.mem_of_getElem? (i := 55) rfl))) (notFace_of_selects (args := #[]) (mvT hZ (hw _ (List.mem_of_getElem? (i := 57) rfl)))) (mvT hZ (hw _ (List.mem_of_getElem? (i := 57) rfl))) (mvT hZ (hw _ (List.mem_of_getElem? (i := 56) rfl))) (by decide) (backOf (W := 0) (r_numN l Z a0 hw [] s_V s_T s_N s_E cl_V T1.heap n0 O1 G0) hZ (hw _ (List.mem_of_getElem? (i := 58) rfl)) (hw _ (List.mem_of_getElem? (i := 2) rfl)) (by decide) (by decide)) q5a q5c (g := (mkF m 79 #[.val (.int p1), .val (.int p2), .val (.int (1 : Int32)), .val (.int (7 : Int32)), .val (.ref s_N), .val (.ref s_N)] [(.ref s_N)])) rfl (by rw [hml]; rfl) (Steps.refl _) (argsL := []) (rest := []) (lenOf pd_6 rfl) rfl (by show 2 * 0 + _ ≤ _; exact Nat.le_of_eq rfl) (hb hby at_79) (fun _ _ => ⟨rfl, e4, (by decide : 2 + 0 ≤ _), (by decide : 3 + 0 ≤ _)⟩)
  dsimp only [Pt.U, Pt.locs, Pt.cells, Pt.slots] at X5 l5 y5 z5 st5 hQ5
  subst l5 y5 z5
  obtain ⟨rfl, N5q, e5⟩ := hQ5
  have N5 := Fr.app N2 N5q
  obtain ⟨fs, hr, hrun, hended, hW, hsame⟩ := X5.leave (v := some (.int (1 : Int32))) (fun h => by rw [Bd.returns] at h; cases h)
  refine ⟨_, _, pre0 _ ?_, hrun, hended, _, _, rfl, ?_, ⟨_, rfl⟩, hW, hsame.mono (by decide) (by decide)⟩
  · show Steps p.tables e below (s₁.setTop (mkF m 0 #[.val (.int p1), .val (.int p2), .unset, .unset, .unset, .unset] [])) _
    refine XS.iloadN X0.here hx rfl (hb hby at_0) rfl ?_
    show Steps p.tables e below (s₁.setTop (mkF m 1 #[.val (.int p1), .val (.int p2), .unset, .unset, .unset, .unset] [(.int p2)])) _
    refine XS.iconst X0.here hx rfl (hb hby at_1) ?_
    show Steps p.tables e below (s₁.setTop (mkF m 2 #[.val (.int p1), .val (.int p2), .unset, .unset, .unset, .unset] [(.int (3 : Int32)), (.int p2)])) _
    refine XS.iand X0.here hx rfl (hb hby at_2) rfl ?_
    show Steps p.tables e below (s₁.setTop (mkF m 3 #[.val (.int p1), .val (.int p2), .unset, .unset, .unset, .unset] [(.int (p2 &&& (3 : Int32)))])) _
    rw [hk]
    show Steps p.tables e below (s₁.setTop (mkF m 3 #[.val (.int p1), .val (.int p2), .unset, .unset, .unset, .unset] [(.int (1 : Int32))])) _
    refine XS.istoreN X0.here hx rfl (hb hby at_3) rfl (l' := #[.val (.int p1), .val (.int p2), .val (.int (1 : Int32)), .unset, .unset, .unset]) rfl ?_
    show Steps p.tables e below (s₁.setTop (mkF m 4 #[.val (.int p1), .val (.int p2), .val (.int (1 : Int32)), .unset, .unset, .unset] [])) _
    refine XS.iloadN X0.here hx rfl (hb hby at_4) rfl ?_
    show Steps p.tables e below (s₁.setTop (mkF m 5 #[.val (.int p1), .val (.int p2), .val (.int (1 : Int32)), .unset, .unset, .unset] [(.int (1 : Int32))])) _
    refine XS.ifYes X0.here hx rfl (pc0 := 5) (pc' := 12) rfl (hb hby at_5) rfl ((if0 _ _).trans (feq (by decide : ¬ ((1 : Int32) = (0 : Int32)))).2) (by decide) (by decide) ?_
    show Steps p.tables e below (s₁.setTop (mkF m 12 #[.val (.int p1), .val (.int p2), .val (.int (1 : Int32)), .unset, .unset, .unset] [])) _
    refine XS.iloadN X0.here hx rfl (hb hby at_12) rfl ?_
    show Steps p.tables e below (s₁.setTop (mkF m 13 #[.val (.int p1), .val (.int p2), .val (.int (1 : Int32)), .unset, .unset, .unset] [(.int (1 : Int32))])) _
    refine XS.iconst X0.here hx rfl (hb hby at_13) ?_
    show Steps p.tables e below (s₁.setTop (mkF m 14 #[.val (.int p1), .val (.int p2), .val (.int (1 : Int32)), .unset, .unset, .unset] [(.int (1 : Int32)), (.int (1 : Int32))])) _
    refine XS.icmpNo X0.here hx rfl (hb hby at_14) rfl (teq (by decide : (1 : Int32) = (1 : Int32))).2 ?_
    show Steps p.tables e below (s₁.setTop (mkF m 17 #[.val (.int p1), .val (.int p2), .val (.int (1 : Int32)), .unset, .unset, .unset] [])) _
    refine XS.bipush X0.here hx rfl (hb hby at_17) ?_
    show Steps p.tables e below (s₁.setTop (mkF m 19 #[.val (.int p1), .val (.int p2), .val (.int (1 : Int32)), .unset, .unset, .unset] [(.int (7 : Int32))])) _
    refine XS.goto X0.here hx rfl (pc0 := 19) (pc' := 23) rfl (hb hby at_19) (by decide) (by decide) ?_
    show Steps p.tables e below (s₁.setTop (mkF m 23 #[.val (.int p1), .val (.int p2), .val (.int (1 : Int32)), .unset, .unset, .unset] [(.int (7 : Int32))])) _
    refine XS.istoreN X0.here hx rfl (hb hby at_23) rfl (l' := #[.val (.int p1), .val (.int p2), .val (.int (1 : Int32)), .val (.int (7 : Int32)), .unset, .unset]) rfl ?_
    show Steps p.tables e below (s₁.setTop (mkF m 24 #[.val (.int p1), .val (.int p2), .val (.int (1 : Int32)), .val (.int (7 : Int32)), .unset, .unset] [])) _
    refine XS.iloadN X0.here hx rfl (hb hby at_24) rfl ?_
    show Steps p.tables e below (s₁.setTop (mkF m 25 #[.val (.int p1), .val (.int p2), .val (.int (1 : Int32)), .val (.int (7 : Int32)), .unset, .unset] [(.int (7 : Int32))])) _
    refine st1 _ ?_
    show Steps p.tables e below (T1.setTop (mkF m 28 #[.val (.int p1), .val (.int p2), .val (.int (1 : Int32)), .val (.int (7 : Int32)), .unset, .unset] [(.ref t1)])) _
    refine XS.aconstNull X1.here hx rfl (hb hby at_28) ?_
    show Steps p.tables e below (T1.setTop (mkF m 29 #[.val (.int p1), .val (.int p2), .val (.int (1 : Int32)), .val (.int (7 : Int32)), .unset, .unset] [.null, (.ref t1)])) _
    refine st2.trans ?_
    show Steps p.tables e below (T2.setTop (mkF m 32 #[.val (.int p1), .val (.int p2), .val (.int (1 : Int32)), .val (.int (7 : Int32)), .unset, .unset] [(.ref s_N)])) _
    refine st3 _ ?_
    show Steps p.tables e below (T3.setTop (mkF m 35 #[.val (.int p1), .val (.int p2), .val (.int (1 : Int32)), .val (.int (7 : Int32)), .unset, .unset] [(.ref s_N)])) _
    refine XS.astore X3.here hx rfl (hb hby at_35) rfl rfl (l' := #[.val (.int p1), .val (.int p2), .val (.int (1 : Int32)), .val (.int (7 : Int32)), .val (.ref s_N), .unset]) rfl ?_
    show Steps p.tables e below (T3.setTop (mkF m 37 #[.val (.int p1), .val (.int p2), .val (.int (1 : Int32)), .val (.int (7 : Int32)), .val (.ref s_N), .unset] [])) _
    refine XS.iloadN X3.here hx rfl (hb hby at_37) rfl ?_
    show Steps p.tables e below (T3.setTop (mkF m 38 #[.val (.int p1), .val (.int p2), .val (.int (1 : Int32)), .val (.int (7 : Int32)), .val (.ref s_N), .unset] [(.int (7 : Int32))])) _
    refine XS.iconst X3.here hx rfl (hb hby at_38) ?_
    show Steps p.tables e below (T3.setTop (mkF m 39 #[.val (.int p1), .val (.int p2), .val (.int (1 : Int32)), .val (.int (7 : Int32)), .val (.ref s_N), .unset] [(.int (1 : Int32)), (.int (7 : Int32))])) _
    refine XS.icmpYes X3.here hx rfl (pc0 := 39) (pc' := 48) rfl (hb hby at_39) rfl (feq (by decide : ¬ ((7 : Int32) = (1 : Int32)))).2 (by decide) (by decide) ?_
    show Steps p.tables e below (T3.setTop (mkF m 48 #[.val (.int p1), .val (.int p2), .val (.int (1 : Int32)), .val (.int (7 : Int32)), .val (.ref s_N), .unset] [])) _
    refine XS.iloadN X3.here hx rfl (hb hby at_48) rfl ?_
    show Steps p.tables e below (T3.setTop (mkF m 49 #[.val (.int p1), .val (.int p2), .val (.int (1 : Int32)), .val (.int (7 : Int32)), .val (.ref s_N), .unset] [(.int (7 : Int32))])) _
    refine XS.bipush X3.here hx rfl (hb hby at_49) ?_
    show Steps p.tables e below (T3.setTop (mkF m 51 #[.val (.int p1), .val (.int p2), .val (.int (1 : Int32)), .val (.int (7 : Int32)), .val (.ref s_N), .unset] [(.int (7 : Int32)), (.int (7 : Int32))])) _
    refine XS.icmpNo X3.here hx rfl (hb hby at_51) rfl (teq (by decide : (7 : Int32) = (7 : Int32))).2 ?_
    show Steps p.tables e below (T3.setTop (mkF m 54 #[.val (.int p1), .val (.int p2), .val (.int (1 : Int32)), .val (.int (7 : Int32)), .val (.ref s_N), .unset] [])) _
    refine st4 _ ?_
    show Steps p.tables e below (T4.setTop (mkF m 57 #[.val (.int p1), .val (.int p2), .val (.int (1 : Int32)), .val (.int (7 : Int32)), .val (.ref s_N), .unset] [(.ref s_N)])) _
    refine XS.goto X4.here hx rfl (pc0 := 57) (pc' := 61) rfl (hb hby at_57) (by decide) (by decide) ?_
    show Steps p.tables e below (T4.setTop (mkF m 61 #[.val (.int p1), .val (.int p2), .val (.int (1 : Int32)), .val (.int (7 : Int32)), .val (.ref s_N), .unset] [(.ref s_N)])) _
    refine XS.astore X4.here hx rfl (hb hby at_61) rfl rfl (l' := #[.val (.int p1), .val (.int p2), .val (.int (1 : Int32)), .val (.int (7 : Int32)), .val (.ref s_N), .val (.ref s_N)]) rfl ?_
    show Steps p.tables e below (T4.setTop (mkF m 63 #[.val (.int p1), .val (.int p2), .val (.int (1 : Int32)), .val (.int (7 : Int32)), .val (.ref s_N), .val (.ref s_N)] [])) _
    refine XS.aload X4.here hx rfl (hb hby at_63) rfl rfl ?_
    show Steps p.tables e below (T4.setTop (mkF m 65 #[.val (.int p1), .val (.int p2), .val (.int (1 : Int32)), .val (.int (7 : Int32)), .val (.ref s_N), .val (.ref s_N)] [(.ref s_N)])) _
    refine XS.aload X4.here hx rfl (hb hby at_65) rfl rfl ?_
    show Steps p.tables e below (T4.setTop (mkF m 67 #[.val (.int p1), .val (.int p2), .val (.int (1 : Int32)), .val (.int (7 : Int32)), .val (.ref s_N), .val (.ref s_N)] [(.ref s_N), (.ref s_N)])) _
    refine Jvm.RoadKit.acmp (g := (mkF m 67 #[.val (.int p1), .val (.int p2), .val (.int (1 : Int32)), .val (.int (7 : Int32)), .val (.ref s_N), .val (.ref s_N)] [(.ref s_N), (.ref s_N)])) X4 hx rfl rfl rfl (pc0 := 67) (pc' := 72) (same := true) rfl (hb hby at_67) rfl (decide_eq_true rfl) (by decide) (by decide) ?_
    show Steps p.tables e below (T4.setTop (mkF m 72 #[.val (.int p1), .val (.int p2), .val (.int (1 : Int32)), .val (.int (7 : Int32)), .val (.ref s_N), .val (.ref s_N)] [])) _
    refine XS.aload X4.here hx rfl (hb hby at_72) rfl rfl ?_
    show Steps p.tables e below (T4.setTop (mkF m 74 #[.val (.int p1), .val (.int p2), .val (.int (1 : Int32)), .val (.int (7 : Int32)), .val (.ref s_N), .val (.ref s_N)] [(.ref s_N)])) _
    refine XS.ifnullNo X4.here hx rfl (hb hby at_74) rfl ?_
    show Steps p.tables e below (T4.setTop (mkF m 77 #[.val (.int p1), .val (.int p2), .val (.int (1 : Int32)), .val (.int (7 : Int32)), .val (.ref s_N), .val (.ref s_N)] [])) _
    refine XS.aload X4.here hx rfl (hb hby at_77) rfl rfl ?_
    show Steps p.tables e below (T4.setTop (mkF m 79 #[.val (.int p1), .val (.int p2), .val (.int (1 : Int32)), .val (.int (7 : Int32)), .val (.ref s_N), .val (.ref s_N)] [(.ref s_N)])) _
    refine st5.trans ?_
    show Steps p.tables e below (T5.setTop (mkF m 82 #[.val (.int p1), .val (.int p2), .val (.int (1 : Int32)), .val (.int (7 : Int32)), .val (.ref s_N), .val (.ref s_N)] [(.int (7 : Int32))])) _
    refine XS.iloadN X5.here hx rfl (hb hby at_82) rfl ?_
    show Steps p.tables e below (T5.setTop (mkF m 83 #[.val (.int p1), .val (.int p2), .val (.int (1 : Int32)), .val (.int (7 : Int32)), .val (.ref s_N), .val (.ref s_N)] [(.int (7 : Int32)), (.int (7 : Int32))])) _
    refine XS.icmpNo X5.here hx rfl (hb hby at_83) rfl (teq (by decide : (7 : Int32) = (7 : Int32))).2 ?_
    show Steps p.tables e below (T5.setTop (mkF m 86 #[.val (.int p1), .val (.int p2), .val (.int (1 : Int32)), .val (.int (7 : Int32)), .val (.ref s_N), .val (.ref s_N)] [])) _
    refine XS.iconst X5.here hx rfl (hb hby at_86) ?_
    show Steps p.tables e below (T5.setTop (mkF m 87 #[.val (.int p1), .val (.int p2), .val (.int (1 : Int32)), .val (.int (7 : Int32)), .val (.ref s_N), .val (.ref s_N)] [(.int (1 : Int32))])) _
    refine XS.goto X5.here hx rfl (pc0 := 87) (pc' := 91) rfl (hb hby at_87) (by decide) (by decide) ?_
    show Steps p.tables e below (T5.setTop (mkF m 91 #[.val (.int p1), .val (.int p2), .val (.int (1 : Int32)), .val (.int (7 : Int32)), .val (.ref s_N), .val (.ref s_N)] [(.int (1 : Int32))])) _
    exact retN X5 hx (t := .boolean) Bd.returns (by simp) (hb hby at_91) hr
  · show own_Qk (some (.int (1 : Int32))) h0 n0 _ T5.heap _
    rw [e5]
    exact ⟨rfl, N5, K1⟩
set_option maxRecDepth 65536 in
set_option maxHeartbeats 40000000 in
theorem r_law_2_1 (l : Launch) (Z : State) (a0 : Array Value) (hw : ∀ d ∈ tables_1, d.before a0 Z = true) (ws : List Jvm.Cond) (s_V s_T s_N s_E : Addr) (cl_V : Cell) (h0 : Heap) (n0 : Nat) (O0 : Old Z n0 h0) (G : own_Ctx Z Z.heap s_V s_T s_N s_E cl_V) (p2 : Int32) (hk : p2 &&& (3 : Int32) = (2 : Int32)) :
    MetFree l x (head1 (Jvm.Cond.code x code maxLocals ret :: ws) room_1) (fun a U => a = #[(.int (1 : Int32)), (.int p2)] ∧ Z.Warmed39 U.vm ∧ U.heap = h0) (fun _ _ _ _ _ => True) (fun _ U o U' => ∃ v L, o = .returned v ∧ own_Qk (some (.int (1 : Int32))) h0 n0 v U'.heap L ∧ FrameEnd U o U' L 16 128) := by
  have G0 := G
  obtain ⟨S_V, E_V, A_V, FC_V, L_V, Hs_V, Gf_V, S_T, E_T, F_T, S_N, E_N, F_N, S_E, E_E, F_E⟩ := G
  refine MetFree.of_bodySF (plainFor_of_name pn_3) hisR ?_
  intro p e s m args below meth c s₁ Bd hml0 hP hK
  obtain ⟨rfl, hZ, hh⟩ := hP
  have hx := Bd.exec
  have hby := Bd.bytes
  have hml : c.maxLocals = 6 := hml0
  have hown : s.vm.findClass "com/example/rubrique/rubrique/render/AreaByNumberPinLaw" = some m.cls := findClass_of_methodNamed Bd.named
  have hnm := (name_of_methodNamed Bd.named Bd.method).1
  have X0 : Stand p l e room_1 s m #[(.int (1 : Int32)), (.int p2)] below meth c s₁ [] 0 0 := Stand.of_body Bd
  have e0 : s₁.heap = h0 := by rw [← hh, Bd.state]; rfl
  have N0 := Fr.nil n0
  have pre0 : ∀ t, Steps p.tables e below (s₁.setTop (mkF m 0 #[.val (.int (1 : Int32)), .val (.int p2), .unset, .unset, .unset, .unset] [])) t → Steps p.tables e below (s₁.setTop (entryFrame m #[(.int (1 : Int32)), (.int p2)] maxLocals)) t := fun t k => castTop (ef_0_8 m (1 : Int32) p2) k
  obtain ⟨_, _, ⟨T1, L1, k1, n1⟩, -, X1, ⟨Lc1, hQ1, l1, y1, z1⟩, st1⟩ := Jvm.LawKit.callS X0 hx (y := (⟨"com/example/rubrique/rubrique/render/Area", "byNumber", "(I)Ljava/util/Optional;"⟩ : MethodName)) hown (mvT hZ (hw _ (List.mem_of_getElem? (i := 0) rfl))) (mvT hZ (hw _ (List.mem_of_getElem? (i := 1) rfl))) (mvT hZ (hw _ (List.mem_of_getElem? (i := 2) rfl))) (mvT hZ (hw _ (List.mem_of_getElem? (i := 3) rfl))) (by decide) (backOf (W := 0) (r_by1 l Z a0 hw [] s_V s_T s_N s_E cl_V h0 n0 O0 G0) hZ (hw _ (List.mem_of_getElem? (i := 3) rfl)) (hw _ (List.mem_of_getElem? (i := 2) rfl)) (by decide) (by decide)) (g := (mkF m 25 #[.val (.int (1 : Int32)), .val (.int p2), .val (.int (2 : Int32)), .val (.int (1 : Int32)), .unset, .unset] [(.int (1 : Int32))])) rfl (by rw [hml]; rfl) (argsL := [(.int (1 : Int32))]) (rest := []) (lenOf pd_5 rfl) rfl (by show 2 * 0 + _ ≤ _; exact Nat.le_of_eq rfl) (hb hby at_25) (fun _ _ => ⟨rfl, e0, (by decide : 0 + 2 ≤ _), (by decide : 0 + 3 ≤ _)⟩)
  dsimp only [Pt.U, Pt.locs, Pt.cells, Pt.slots] at X1 l1 y1 z1 st1 hQ1
  subst l1 y1 z1
  obtain ⟨t1, rfl, N1q, Kq1, gt1, Et1, Fv1⟩ := hQ1
  have N1 := Fr.app N0 N1q
  have ne_s_V_t1 : s_V ≠ t1 := Nat.ne_of_lt (Nat.lt_of_lt_of_le (E_V.ext O0.2).lt gt1)
  have ne_s_T_t1 : s_T ≠ t1 := Nat.ne_of_lt (Nat.lt_of_lt_of_le (E_T.ext O0.2).lt gt1)
  have ne_s_N_t1 : s_N ≠ t1 := Nat.ne_of_lt (Nat.lt_of_lt_of_le (E_N.ext O0.2).lt gt1)
  have ne_s_E_t1 : s_E ≠ t1 := Nat.ne_of_lt (Nat.lt_of_lt_of_le (E_E.ext O0.2).lt gt1)
  have g_t1 : n0 ≤ t1 := Nat.le_trans (O0.1 ▸ O0.2.1) gt1
  have sz_t1 : h0.size ≤ t1 := Nat.le_trans (Keep.refl h0 []).1 gt1
  have O1 := O0.keep Kq1 all0
  have K1 : Keep h0 T1.heap [] := (Keep.refl h0 []).trans Kq1 all0
  obtain ⟨cq2, kq2, q2a, q2b, q2c⟩ := isOf hZ rfl Et1
  obtain ⟨_, _, ⟨T2, L2, k2, n2⟩, -, X2, ⟨Lc2, hQ2, l2, y2, z2⟩, st2⟩ := X1.virtualBack hx (y := (⟨"java/util/Optional", "orElse", "(Ljava/lang/Object;)Ljava/lang/Object;"⟩ : MethodName)) (z := (⟨"java/util/Optional", "orElse", "(Ljava/lang/Object;)Ljava/lang/Object;"⟩ : MethodName)) hown (mvT hZ (hw _ (List.mem_of_getElem? (i := 28) rfl))) (mvT hZ (hw _ (List.mem_of_getElem? (i := 29) rfl))) (notFace_of_selects (args := #[]) (mvT hZ (hw _ (List.mem_of_getElem? (i := 31) rfl)))) (mvT hZ (hw _ (List.mem_of_getElem? (i := 31) rfl))) (mvT hZ (hw _ (List.mem_of_getElem? (i := 30) rfl))) (by decide) (backOf (W := 0) (r_orV l Z a0 hw [] s_V s_T s_N s_E cl_V T1.heap n0 O1 G0 t1 s_T Fv1) hZ (hw _ (List.mem_of_getElem? (i := 32) rfl)) (hw _ (List.mem_of_getElem? (i := 25) rfl)) (by decide) (by decide)) q2a q2c (g := (mkF m 29 #[.val (.int (1 : Int32)), .val (.int p2), .val (.int (2 : Int32)), .val (.int (1 : Int32)), .unset, .unset] [.null, (.ref t1)])) rfl (by rw [hml]; rfl) (Steps.refl _) (argsL := [.null]) (rest := []) (lenOf pd_0 rfl) rfl (by show 2 * 0 + _ ≤ _; exact Nat.le_of_eq rfl) (hb hby at_29) (fun _ _ => ⟨rfl, rfl, (by decide : 2 + 0 ≤ _), (by decide : 3 + 0 ≤ _)⟩)
  dsimp only [Pt.U, Pt.locs, Pt.cells, Pt.slots] at X2 l2 y2 z2 st2 hQ2
  subst l2 y2 z2
  obtain ⟨rfl, N2q, e2⟩ := hQ2
  have N2 := Fr.app N1 N2q
  obtain ⟨T3, X3, e3, st3⟩ := castY X2 hx hZ hown (hw _ (List.mem_of_getElem? (i := 51) rfl)) e2 (Ins.self (E_T.ext O1.2)) (g := (mkF m 32 #[.val (.int (1 : Int32)), .val (.int p2), .val (.int (2 : Int32)), .val (.int (1 : Int32)), .unset, .unset] [(.ref s_T)])) rfl rfl (hb hby at_32)
  obtain ⟨T4, X4, e4, st4⟩ := getS2 X3 hx hZ hown (host := "") (Or.inl (hw _ (List.mem_of_getElem? (i := 59) rfl))) Via.refl e3 (S_T.ext O1.2) (g := (mkF m 42 #[.val (.int (1 : Int32)), .val (.int p2), .val (.int (2 : Int32)), .val (.int (1 : Int32)), .val (.ref s_T), .unset] [])) rfl (hb hby at_42)
  obtain ⟨cq5, kq5, q5a, q5b, q5c⟩ := isOf hZ e4 (E_T.ext O1.2)
  obtain ⟨_, _, ⟨T5, L5, k5, n5⟩, -, X5, ⟨Lc5, hQ5, l5, y5, z5⟩, st5⟩ := X4.virtualBack hx (y := (⟨"com/example/rubrique/rubrique/render/Area", "number", "()I"⟩ : MethodName)) (z := (⟨"com/example/rubrique/rubrique/render/Area", "number", "()I"⟩ : MethodName)) hown (mvT hZ (hw _ (List.mem_of_getElem? (i := 54) rfl))) (mvT hZ (hw _ (List.mem_of_getElem? (i := 55) rfl))) (notFace_of_selects (args := #[]) (mvT hZ (hw _ (List.mem_of_getElem? (i := 57) rfl)))) (mvT hZ (hw _ (List.mem_of_getElem? (i := 57) rfl))) (mvT hZ (hw _ (List.mem_of_getElem? (i := 56) rfl))) (by decide) (backOf (W := 0) (r_numT l Z a0 hw [] s_V s_T s_N s_E cl_V T1.heap n0 O1 G0) hZ (hw _ (List.mem_of_getElem? (i := 58) rfl)) (hw _ (List.mem_of_getElem? (i := 2) rfl)) (by decide) (by decide)) q5a q5c (g := (mkF m 79 #[.val (.int (1 : Int32)), .val (.int p2), .val (.int (2 : Int32)), .val (.int (1 : Int32)), .val (.ref s_T), .val (.ref s_T)] [(.ref s_T)])) rfl (by rw [hml]; rfl) (Steps.refl _) (argsL := []) (rest := []) (lenOf pd_6 rfl) rfl (by show 2 * 0 + _ ≤ _; exact Nat.le_of_eq rfl) (hb hby at_79) (fun _ _ => ⟨rfl, e4, (by decide : 2 + 0 ≤ _), (by decide : 3 + 0 ≤ _)⟩)
  dsimp only [Pt.U, Pt.locs, Pt.cells, Pt.slots] at X5 l5 y5 z5 st5 hQ5
  subst l5 y5 z5
  obtain ⟨rfl, N5q, e5⟩ := hQ5
  have N5 := Fr.app N2 N5q
  obtain ⟨fs, hr, hrun, hended, hW, hsame⟩ := X5.leave (v := some (.int (1 : Int32))) (fun h => by rw [Bd.returns] at h; cases h)
  refine ⟨_, _, pre0 _ ?_, hrun, hended, _, _, rfl, ?_, ⟨_, rfl⟩, hW, hsame.mono (by decide) (by decide)⟩
  · show Steps p.tables e below (s₁.setTop (mkF m 0 #[.val (.int (1 : Int32)), .val (.int p2), .unset, .unset, .unset, .unset] [])) _
    refine XS.iloadN X0.here hx rfl (hb hby at_0) rfl ?_
    show Steps p.tables e below (s₁.setTop (mkF m 1 #[.val (.int (1 : Int32)), .val (.int p2), .unset, .unset, .unset, .unset] [(.int p2)])) _
    refine XS.iconst X0.here hx rfl (hb hby at_1) ?_
    show Steps p.tables e below (s₁.setTop (mkF m 2 #[.val (.int (1 : Int32)), .val (.int p2), .unset, .unset, .unset, .unset] [(.int (3 : Int32)), (.int p2)])) _
    refine XS.iand X0.here hx rfl (hb hby at_2) rfl ?_
    show Steps p.tables e below (s₁.setTop (mkF m 3 #[.val (.int (1 : Int32)), .val (.int p2), .unset, .unset, .unset, .unset] [(.int (p2 &&& (3 : Int32)))])) _
    rw [hk]
    show Steps p.tables e below (s₁.setTop (mkF m 3 #[.val (.int (1 : Int32)), .val (.int p2), .unset, .unset, .unset, .unset] [(.int (2 : Int32))])) _
    refine XS.istoreN X0.here hx rfl (hb hby at_3) rfl (l' := #[.val (.int (1 : Int32)), .val (.int p2), .val (.int (2 : Int32)), .unset, .unset, .unset]) rfl ?_
    show Steps p.tables e below (s₁.setTop (mkF m 4 #[.val (.int (1 : Int32)), .val (.int p2), .val (.int (2 : Int32)), .unset, .unset, .unset] [])) _
    refine XS.iloadN X0.here hx rfl (hb hby at_4) rfl ?_
    show Steps p.tables e below (s₁.setTop (mkF m 5 #[.val (.int (1 : Int32)), .val (.int p2), .val (.int (2 : Int32)), .unset, .unset, .unset] [(.int (2 : Int32))])) _
    refine XS.ifYes X0.here hx rfl (pc0 := 5) (pc' := 12) rfl (hb hby at_5) rfl ((if0 _ _).trans (feq (by decide : ¬ ((2 : Int32) = (0 : Int32)))).2) (by decide) (by decide) ?_
    show Steps p.tables e below (s₁.setTop (mkF m 12 #[.val (.int (1 : Int32)), .val (.int p2), .val (.int (2 : Int32)), .unset, .unset, .unset] [])) _
    refine XS.iloadN X0.here hx rfl (hb hby at_12) rfl ?_
    show Steps p.tables e below (s₁.setTop (mkF m 13 #[.val (.int (1 : Int32)), .val (.int p2), .val (.int (2 : Int32)), .unset, .unset, .unset] [(.int (2 : Int32))])) _
    refine XS.iconst X0.here hx rfl (hb hby at_13) ?_
    show Steps p.tables e below (s₁.setTop (mkF m 14 #[.val (.int (1 : Int32)), .val (.int p2), .val (.int (2 : Int32)), .unset, .unset, .unset] [(.int (1 : Int32)), (.int (2 : Int32))])) _
    refine XS.icmpYes X0.here hx rfl (pc0 := 14) (pc' := 22) rfl (hb hby at_14) rfl (feq (by decide : ¬ ((2 : Int32) = (1 : Int32)))).2 (by decide) (by decide) ?_
    show Steps p.tables e below (s₁.setTop (mkF m 22 #[.val (.int (1 : Int32)), .val (.int p2), .val (.int (2 : Int32)), .unset, .unset, .unset] [])) _
    refine XS.iloadN X0.here hx rfl (hb hby at_22) rfl ?_
    show Steps p.tables e below (s₁.setTop (mkF m 23 #[.val (.int (1 : Int32)), .val (.int p2), .val (.int (2 : Int32)), .unset, .unset, .unset] [(.int (1 : Int32))])) _
    refine XS.istoreN X0.here hx rfl (hb hby at_23) rfl (l' := #[.val (.int (1 : Int32)), .val (.int p2), .val (.int (2 : Int32)), .val (.int (1 : Int32)), .unset, .unset]) rfl ?_
    show Steps p.tables e below (s₁.setTop (mkF m 24 #[.val (.int (1 : Int32)), .val (.int p2), .val (.int (2 : Int32)), .val (.int (1 : Int32)), .unset, .unset] [])) _
    refine XS.iloadN X0.here hx rfl (hb hby at_24) rfl ?_
    show Steps p.tables e below (s₁.setTop (mkF m 25 #[.val (.int (1 : Int32)), .val (.int p2), .val (.int (2 : Int32)), .val (.int (1 : Int32)), .unset, .unset] [(.int (1 : Int32))])) _
    refine st1 _ ?_
    show Steps p.tables e below (T1.setTop (mkF m 28 #[.val (.int (1 : Int32)), .val (.int p2), .val (.int (2 : Int32)), .val (.int (1 : Int32)), .unset, .unset] [(.ref t1)])) _
    refine XS.aconstNull X1.here hx rfl (hb hby at_28) ?_
    show Steps p.tables e below (T1.setTop (mkF m 29 #[.val (.int (1 : Int32)), .val (.int p2), .val (.int (2 : Int32)), .val (.int (1 : Int32)), .unset, .unset] [.null, (.ref t1)])) _
    refine st2.trans ?_
    show Steps p.tables e below (T2.setTop (mkF m 32 #[.val (.int (1 : Int32)), .val (.int p2), .val (.int (2 : Int32)), .val (.int (1 : Int32)), .unset, .unset] [(.ref s_T)])) _
    refine st3 _ ?_
    show Steps p.tables e below (T3.setTop (mkF m 35 #[.val (.int (1 : Int32)), .val (.int p2), .val (.int (2 : Int32)), .val (.int (1 : Int32)), .unset, .unset] [(.ref s_T)])) _
    refine XS.astore X3.here hx rfl (hb hby at_35) rfl rfl (l' := #[.val (.int (1 : Int32)), .val (.int p2), .val (.int (2 : Int32)), .val (.int (1 : Int32)), .val (.ref s_T), .unset]) rfl ?_
    show Steps p.tables e below (T3.setTop (mkF m 37 #[.val (.int (1 : Int32)), .val (.int p2), .val (.int (2 : Int32)), .val (.int (1 : Int32)), .val (.ref s_T), .unset] [])) _
    refine XS.iloadN X3.here hx rfl (hb hby at_37) rfl ?_
    show Steps p.tables e below (T3.setTop (mkF m 38 #[.val (.int (1 : Int32)), .val (.int p2), .val (.int (2 : Int32)), .val (.int (1 : Int32)), .val (.ref s_T), .unset] [(.int (1 : Int32))])) _
    refine XS.iconst X3.here hx rfl (hb hby at_38) ?_
    show Steps p.tables e below (T3.setTop (mkF m 39 #[.val (.int (1 : Int32)), .val (.int p2), .val (.int (2 : Int32)), .val (.int (1 : Int32)), .val (.ref s_T), .unset] [(.int (1 : Int32)), (.int (1 : Int32))])) _
    refine XS.icmpNo X3.here hx rfl (hb hby at_39) rfl (teq (by decide : (1 : Int32) = (1 : Int32))).2 ?_
    show Steps p.tables e below (T3.setTop (mkF m 42 #[.val (.int (1 : Int32)), .val (.int p2), .val (.int (2 : Int32)), .val (.int (1 : Int32)), .val (.ref s_T), .unset] [])) _
    refine st4 _ ?_
    show Steps p.tables e below (T4.setTop (mkF m 45 #[.val (.int (1 : Int32)), .val (.int p2), .val (.int (2 : Int32)), .val (.int (1 : Int32)), .val (.ref s_T), .unset] [(.ref s_T)])) _
    refine XS.goto X4.here hx rfl (pc0 := 45) (pc' := 61) rfl (hb hby at_45) (by decide) (by decide) ?_
    show Steps p.tables e below (T4.setTop (mkF m 61 #[.val (.int (1 : Int32)), .val (.int p2), .val (.int (2 : Int32)), .val (.int (1 : Int32)), .val (.ref s_T), .unset] [(.ref s_T)])) _
    refine XS.astore X4.here hx rfl (hb hby at_61) rfl rfl (l' := #[.val (.int (1 : Int32)), .val (.int p2), .val (.int (2 : Int32)), .val (.int (1 : Int32)), .val (.ref s_T), .val (.ref s_T)]) rfl ?_
    show Steps p.tables e below (T4.setTop (mkF m 63 #[.val (.int (1 : Int32)), .val (.int p2), .val (.int (2 : Int32)), .val (.int (1 : Int32)), .val (.ref s_T), .val (.ref s_T)] [])) _
    refine XS.aload X4.here hx rfl (hb hby at_63) rfl rfl ?_
    show Steps p.tables e below (T4.setTop (mkF m 65 #[.val (.int (1 : Int32)), .val (.int p2), .val (.int (2 : Int32)), .val (.int (1 : Int32)), .val (.ref s_T), .val (.ref s_T)] [(.ref s_T)])) _
    refine XS.aload X4.here hx rfl (hb hby at_65) rfl rfl ?_
    show Steps p.tables e below (T4.setTop (mkF m 67 #[.val (.int (1 : Int32)), .val (.int p2), .val (.int (2 : Int32)), .val (.int (1 : Int32)), .val (.ref s_T), .val (.ref s_T)] [(.ref s_T), (.ref s_T)])) _
    refine Jvm.RoadKit.acmp (g := (mkF m 67 #[.val (.int (1 : Int32)), .val (.int p2), .val (.int (2 : Int32)), .val (.int (1 : Int32)), .val (.ref s_T), .val (.ref s_T)] [(.ref s_T), (.ref s_T)])) X4 hx rfl rfl rfl (pc0 := 67) (pc' := 72) (same := true) rfl (hb hby at_67) rfl (decide_eq_true rfl) (by decide) (by decide) ?_
    show Steps p.tables e below (T4.setTop (mkF m 72 #[.val (.int (1 : Int32)), .val (.int p2), .val (.int (2 : Int32)), .val (.int (1 : Int32)), .val (.ref s_T), .val (.ref s_T)] [])) _
    refine XS.aload X4.here hx rfl (hb hby at_72) rfl rfl ?_
    show Steps p.tables e below (T4.setTop (mkF m 74 #[.val (.int (1 : Int32)), .val (.int p2), .val (.int (2 : Int32)), .val (.int (1 : Int32)), .val (.ref s_T), .val (.ref s_T)] [(.ref s_T)])) _
    refine XS.ifnullNo X4.here hx rfl (hb hby at_74) rfl ?_
    show Steps p.tables e below (T4.setTop (mkF m 77 #[.val (.int (1 : Int32)), .val (.int p2), .val (.int (2 : Int32)), .val (.int (1 : Int32)), .val (.ref s_T), .val (.ref s_T)] [])) _
    refine XS.aload X4.here hx rfl (hb hby at_77) rfl rfl ?_
    show Steps p.tables e below (T4.setTop (mkF m 79 #[.val (.int (1 : Int32)), .val (.int p2), .val (.int (2 : Int32)), .val (.int (1 : Int32)), .val (.ref s_T), .val (.ref s_T)] [(.ref s_T)])) _
    refine st5.trans ?_
    show Steps p.tables e below (T5.setTop (mkF m 82 #[.val (.int (1 : Int32)), .val (.int p2), .val (.int (2 : Int32)), .val (.int (1 : Int32)), .val (.ref s_T), .val (.ref s_T)] [(.int (1 : Int32))])) _
    refine XS.iloadN X5.here hx rfl (hb hby at_82) rfl ?_
    show Steps p.tables e below (T5.setTop (mkF m 83 #[.val (.int (1 : Int32)), .val (.int p2), .val (.int (2 : Int32)), .val (.int (1 : Int32)), .val (.ref s_T), .val (.ref s_T)] [(.int (1 : Int32)), (.int (1 : Int32))])) _
    refine XS.icmpNo X5.here hx rfl (hb hby at_83) rfl (teq (by decide : (1 : Int32) = (1 : Int32))).2 ?_
    show Steps p.tables e below (T5.setTop (mkF m 86 #[.val (.int (1 : Int32)), .val (.int p2), .val (.int (2 : Int32)), .val (.int (1 : Int32)), .val (.ref s_T), .val (.ref s_T)] [])) _
    refine XS.iconst X5.here hx rfl (hb hby at_86) ?_
    show Steps p.tables e below (T5.setTop (mkF m 87 #[.val (.int (1 : Int32)), .val (.int p2), .val (.int (2 : Int32)), .val (.int (1 : Int32)), .val (.ref s_T), .val (.ref s_T)] [(.int (1 : Int32))])) _
    refine XS.goto X5.here hx rfl (pc0 := 87) (pc' := 91) rfl (hb hby at_87) (by decide) (by decide) ?_
    show Steps p.tables e below (T5.setTop (mkF m 91 #[.val (.int (1 : Int32)), .val (.int p2), .val (.int (2 : Int32)), .val (.int (1 : Int32)), .val (.ref s_T), .val (.ref s_T)] [(.int (1 : Int32))])) _
    exact retN X5 hx (t := .boolean) Bd.returns (by simp) (hb hby at_91) hr
  · show own_Qk (some (.int (1 : Int32))) h0 n0 _ T5.heap _
    rw [e5]
    exact ⟨rfl, N5, K1⟩
set_option maxRecDepth 65536 in
set_option maxHeartbeats 40000000 in
theorem r_law_2_7 (l : Launch) (Z : State) (a0 : Array Value) (hw : ∀ d ∈ tables_1, d.before a0 Z = true) (ws : List Jvm.Cond) (s_V s_T s_N s_E : Addr) (cl_V : Cell) (h0 : Heap) (n0 : Nat) (O0 : Old Z n0 h0) (G : own_Ctx Z Z.heap s_V s_T s_N s_E cl_V) (p2 : Int32) (hk : p2 &&& (3 : Int32) = (2 : Int32)) :
    MetFree l x (head1 (Jvm.Cond.code x code maxLocals ret :: ws) room_1) (fun a U => a = #[(.int (7 : Int32)), (.int p2)] ∧ Z.Warmed39 U.vm ∧ U.heap = h0) (fun _ _ _ _ _ => True) (fun _ U o U' => ∃ v L, o = .returned v ∧ own_Qk (some (.int (1 : Int32))) h0 n0 v U'.heap L ∧ FrameEnd U o U' L 16 128) := by
  have G0 := G
  obtain ⟨S_V, E_V, A_V, FC_V, L_V, Hs_V, Gf_V, S_T, E_T, F_T, S_N, E_N, F_N, S_E, E_E, F_E⟩ := G
  refine MetFree.of_bodySF (plainFor_of_name pn_3) hisR ?_
  intro p e s m args below meth c s₁ Bd hml0 hP hK
  obtain ⟨rfl, hZ, hh⟩ := hP
  have hx := Bd.exec
  have hby := Bd.bytes
  have hml : c.maxLocals = 6 := hml0
  have hown : s.vm.findClass "com/example/rubrique/rubrique/render/AreaByNumberPinLaw" = some m.cls := findClass_of_methodNamed Bd.named
  have hnm := (name_of_methodNamed Bd.named Bd.method).1
  have X0 : Stand p l e room_1 s m #[(.int (7 : Int32)), (.int p2)] below meth c s₁ [] 0 0 := Stand.of_body Bd
  have e0 : s₁.heap = h0 := by rw [← hh, Bd.state]; rfl
  have N0 := Fr.nil n0
  have pre0 : ∀ t, Steps p.tables e below (s₁.setTop (mkF m 0 #[.val (.int (7 : Int32)), .val (.int p2), .unset, .unset, .unset, .unset] [])) t → Steps p.tables e below (s₁.setTop (entryFrame m #[(.int (7 : Int32)), (.int p2)] maxLocals)) t := fun t k => castTop (ef_0_8 m (7 : Int32) p2) k
  obtain ⟨_, _, ⟨T1, L1, k1, n1⟩, -, X1, ⟨Lc1, hQ1, l1, y1, z1⟩, st1⟩ := Jvm.LawKit.callS X0 hx (y := (⟨"com/example/rubrique/rubrique/render/Area", "byNumber", "(I)Ljava/util/Optional;"⟩ : MethodName)) hown (mvT hZ (hw _ (List.mem_of_getElem? (i := 0) rfl))) (mvT hZ (hw _ (List.mem_of_getElem? (i := 1) rfl))) (mvT hZ (hw _ (List.mem_of_getElem? (i := 2) rfl))) (mvT hZ (hw _ (List.mem_of_getElem? (i := 3) rfl))) (by decide) (backOf (W := 0) (r_by7 l Z a0 hw [] s_V s_T s_N s_E cl_V h0 n0 O0 G0) hZ (hw _ (List.mem_of_getElem? (i := 3) rfl)) (hw _ (List.mem_of_getElem? (i := 2) rfl)) (by decide) (by decide)) (g := (mkF m 25 #[.val (.int (7 : Int32)), .val (.int p2), .val (.int (2 : Int32)), .val (.int (7 : Int32)), .unset, .unset] [(.int (7 : Int32))])) rfl (by rw [hml]; rfl) (argsL := [(.int (7 : Int32))]) (rest := []) (lenOf pd_5 rfl) rfl (by show 2 * 0 + _ ≤ _; exact Nat.le_of_eq rfl) (hb hby at_25) (fun _ _ => ⟨rfl, e0, (by decide : 0 + 2 ≤ _), (by decide : 0 + 3 ≤ _)⟩)
  dsimp only [Pt.U, Pt.locs, Pt.cells, Pt.slots] at X1 l1 y1 z1 st1 hQ1
  subst l1 y1 z1
  obtain ⟨t1, rfl, N1q, Kq1, gt1, Et1, Fv1⟩ := hQ1
  have N1 := Fr.app N0 N1q
  have ne_s_V_t1 : s_V ≠ t1 := Nat.ne_of_lt (Nat.lt_of_lt_of_le (E_V.ext O0.2).lt gt1)
  have ne_s_T_t1 : s_T ≠ t1 := Nat.ne_of_lt (Nat.lt_of_lt_of_le (E_T.ext O0.2).lt gt1)
  have ne_s_N_t1 : s_N ≠ t1 := Nat.ne_of_lt (Nat.lt_of_lt_of_le (E_N.ext O0.2).lt gt1)
  have ne_s_E_t1 : s_E ≠ t1 := Nat.ne_of_lt (Nat.lt_of_lt_of_le (E_E.ext O0.2).lt gt1)
  have g_t1 : n0 ≤ t1 := Nat.le_trans (O0.1 ▸ O0.2.1) gt1
  have sz_t1 : h0.size ≤ t1 := Nat.le_trans (Keep.refl h0 []).1 gt1
  have O1 := O0.keep Kq1 all0
  have K1 : Keep h0 T1.heap [] := (Keep.refl h0 []).trans Kq1 all0
  obtain ⟨cq2, kq2, q2a, q2b, q2c⟩ := isOf hZ rfl Et1
  obtain ⟨_, _, ⟨T2, L2, k2, n2⟩, -, X2, ⟨Lc2, hQ2, l2, y2, z2⟩, st2⟩ := X1.virtualBack hx (y := (⟨"java/util/Optional", "orElse", "(Ljava/lang/Object;)Ljava/lang/Object;"⟩ : MethodName)) (z := (⟨"java/util/Optional", "orElse", "(Ljava/lang/Object;)Ljava/lang/Object;"⟩ : MethodName)) hown (mvT hZ (hw _ (List.mem_of_getElem? (i := 28) rfl))) (mvT hZ (hw _ (List.mem_of_getElem? (i := 29) rfl))) (notFace_of_selects (args := #[]) (mvT hZ (hw _ (List.mem_of_getElem? (i := 31) rfl)))) (mvT hZ (hw _ (List.mem_of_getElem? (i := 31) rfl))) (mvT hZ (hw _ (List.mem_of_getElem? (i := 30) rfl))) (by decide) (backOf (W := 0) (r_orV l Z a0 hw [] s_V s_T s_N s_E cl_V T1.heap n0 O1 G0 t1 s_N Fv1) hZ (hw _ (List.mem_of_getElem? (i := 32) rfl)) (hw _ (List.mem_of_getElem? (i := 25) rfl)) (by decide) (by decide)) q2a q2c (g := (mkF m 29 #[.val (.int (7 : Int32)), .val (.int p2), .val (.int (2 : Int32)), .val (.int (7 : Int32)), .unset, .unset] [.null, (.ref t1)])) rfl (by rw [hml]; rfl) (Steps.refl _) (argsL := [.null]) (rest := []) (lenOf pd_0 rfl) rfl (by show 2 * 0 + _ ≤ _; exact Nat.le_of_eq rfl) (hb hby at_29) (fun _ _ => ⟨rfl, rfl, (by decide : 2 + 0 ≤ _), (by decide : 3 + 0 ≤ _)⟩)
  dsimp only [Pt.U, Pt.locs, Pt.cells, Pt.slots] at X2 l2 y2 z2 st2 hQ2
  subst l2 y2 z2
  obtain ⟨rfl, N2q, e2⟩ := hQ2
  have N2 := Fr.app N1 N2q
  obtain ⟨T3, X3, e3, st3⟩ := castY X2 hx hZ hown (hw _ (List.mem_of_getElem? (i := 51) rfl)) e2 (Ins.self (E_N.ext O1.2)) (g := (mkF m 32 #[.val (.int (7 : Int32)), .val (.int p2), .val (.int (2 : Int32)), .val (.int (7 : Int32)), .unset, .unset] [(.ref s_N)])) rfl rfl (hb hby at_32)
  obtain ⟨T4, X4, e4, st4⟩ := getS2 X3 hx hZ hown (host := "") (Or.inl (hw _ (List.mem_of_getElem? (i := 53) rfl))) Via.refl e3 (S_N.ext O1.2) (g := (mkF m 54 #[.val (.int (7 : Int32)), .val (.int p2), .val (.int (2 : Int32)), .val (.int (7 : Int32)), .val (.ref s_N), .unset] [])) rfl (hb hby at_54)
  obtain ⟨cq5, kq5, q5a, q5b, q5c⟩ := isOf hZ e4 (E_N.ext O1.2)
  obtain ⟨_, _, ⟨T5, L5, k5, n5⟩, -, X5, ⟨Lc5, hQ5, l5, y5, z5⟩, st5⟩ := X4.virtualBack hx (y := (⟨"com/example/rubrique/rubrique/render/Area", "number", "()I"⟩ : MethodName)) (z := (⟨"com/example/rubrique/rubrique/render/Area", "number", "()I"⟩ : MethodName)) hown (mvT hZ (hw _ (List.mem_of_getElem? (i := 54) rfl))) (mvT hZ (hw _ (List.mem_of_getElem? (i := 55) rfl))) (notFace_of_selects (args := #[]) (mvT hZ (hw _ (List.mem_of_getElem? (i := 57) rfl)))) (mvT hZ (hw _ (List.mem_of_getElem? (i := 57) rfl))) (mvT hZ (hw _ (List.mem_of_getElem? (i := 56) rfl))) (by decide) (backOf (W := 0) (r_numN l Z a0 hw [] s_V s_T s_N s_E cl_V T1.heap n0 O1 G0) hZ (hw _ (List.mem_of_getElem? (i := 58) rfl)) (hw _ (List.mem_of_getElem? (i := 2) rfl)) (by decide) (by decide)) q5a q5c (g := (mkF m 79 #[.val (.int (7 : Int32)), .val (.int p2), .val (.int (2 : Int32)), .val (.int (7 : Int32)), .val (.ref s_N), .val (.ref s_N)] [(.ref s_N)])) rfl (by rw [hml]; rfl) (Steps.refl _) (argsL := []) (rest := []) (lenOf pd_6 rfl) rfl (by show 2 * 0 + _ ≤ _; exact Nat.le_of_eq rfl) (hb hby at_79) (fun _ _ => ⟨rfl, e4, (by decide : 2 + 0 ≤ _), (by decide : 3 + 0 ≤ _)⟩)
  dsimp only [Pt.U, Pt.locs, Pt.cells, Pt.slots] at X5 l5 y5 z5 st5 hQ5
  subst l5 y5 z5
  obtain ⟨rfl, N5q, e5⟩ := hQ5
  have N5 := Fr.app N2 N5q
  obtain ⟨fs, hr, hrun, hended, hW, hsame⟩ := X5.leave (v := some (.int (1 : Int32))) (fun h => by rw [Bd.returns] at h; cases h)
  refine ⟨_, _, pre0 _ ?_, hrun, hended, _, _, rfl, ?_, ⟨_, rfl⟩, hW, hsame.mono (by decide) (by decide)⟩
  · show Steps p.tables e below (s₁.setTop (mkF m 0 #[.val (.int (7 : Int32)), .val (.int p2), .unset, .unset, .unset, .unset] [])) _
    refine XS.iloadN X0.here hx rfl (hb hby at_0) rfl ?_
    show Steps p.tables e below (s₁.setTop (mkF m 1 #[.val (.int (7 : Int32)), .val (.int p2), .unset, .unset, .unset, .unset] [(.int p2)])) _
    refine XS.iconst X0.here hx rfl (hb hby at_1) ?_
    show Steps p.tables e below (s₁.setTop (mkF m 2 #[.val (.int (7 : Int32)), .val (.int p2), .unset, .unset, .unset, .unset] [(.int (3 : Int32)), (.int p2)])) _
    refine XS.iand X0.here hx rfl (hb hby at_2) rfl ?_
    show Steps p.tables e below (s₁.setTop (mkF m 3 #[.val (.int (7 : Int32)), .val (.int p2), .unset, .unset, .unset, .unset] [(.int (p2 &&& (3 : Int32)))])) _
    rw [hk]
    show Steps p.tables e below (s₁.setTop (mkF m 3 #[.val (.int (7 : Int32)), .val (.int p2), .unset, .unset, .unset, .unset] [(.int (2 : Int32))])) _
    refine XS.istoreN X0.here hx rfl (hb hby at_3) rfl (l' := #[.val (.int (7 : Int32)), .val (.int p2), .val (.int (2 : Int32)), .unset, .unset, .unset]) rfl ?_
    show Steps p.tables e below (s₁.setTop (mkF m 4 #[.val (.int (7 : Int32)), .val (.int p2), .val (.int (2 : Int32)), .unset, .unset, .unset] [])) _
    refine XS.iloadN X0.here hx rfl (hb hby at_4) rfl ?_
    show Steps p.tables e below (s₁.setTop (mkF m 5 #[.val (.int (7 : Int32)), .val (.int p2), .val (.int (2 : Int32)), .unset, .unset, .unset] [(.int (2 : Int32))])) _
    refine XS.ifYes X0.here hx rfl (pc0 := 5) (pc' := 12) rfl (hb hby at_5) rfl ((if0 _ _).trans (feq (by decide : ¬ ((2 : Int32) = (0 : Int32)))).2) (by decide) (by decide) ?_
    show Steps p.tables e below (s₁.setTop (mkF m 12 #[.val (.int (7 : Int32)), .val (.int p2), .val (.int (2 : Int32)), .unset, .unset, .unset] [])) _
    refine XS.iloadN X0.here hx rfl (hb hby at_12) rfl ?_
    show Steps p.tables e below (s₁.setTop (mkF m 13 #[.val (.int (7 : Int32)), .val (.int p2), .val (.int (2 : Int32)), .unset, .unset, .unset] [(.int (2 : Int32))])) _
    refine XS.iconst X0.here hx rfl (hb hby at_13) ?_
    show Steps p.tables e below (s₁.setTop (mkF m 14 #[.val (.int (7 : Int32)), .val (.int p2), .val (.int (2 : Int32)), .unset, .unset, .unset] [(.int (1 : Int32)), (.int (2 : Int32))])) _
    refine XS.icmpYes X0.here hx rfl (pc0 := 14) (pc' := 22) rfl (hb hby at_14) rfl (feq (by decide : ¬ ((2 : Int32) = (1 : Int32)))).2 (by decide) (by decide) ?_
    show Steps p.tables e below (s₁.setTop (mkF m 22 #[.val (.int (7 : Int32)), .val (.int p2), .val (.int (2 : Int32)), .unset, .unset, .unset] [])) _
    refine XS.iloadN X0.here hx rfl (hb hby at_22) rfl ?_
    show Steps p.tables e below (s₁.setTop (mkF m 23 #[.val (.int (7 : Int32)), .val (.int p2), .val (.int (2 : Int32)), .unset, .unset, .unset] [(.int (7 : Int32))])) _
    refine XS.istoreN X0.here hx rfl (hb hby at_23) rfl (l' := #[.val (.int (7 : Int32)), .val (.int p2), .val (.int (2 : Int32)), .val (.int (7 : Int32)), .unset, .unset]) rfl ?_
    show Steps p.tables e below (s₁.setTop (mkF m 24 #[.val (.int (7 : Int32)), .val (.int p2), .val (.int (2 : Int32)), .val (.int (7 : Int32)), .unset, .unset] [])) _
    refine XS.iloadN X0.here hx rfl (hb hby at_24) rfl ?_
    show Steps p.tables e below (s₁.setTop (mkF m 25 #[.val (.int (7 : Int32)), .val (.int p2), .val (.int (2 : Int32)), .val (.int (7 : Int32)), .unset, .unset] [(.int (7 : Int32))])) _
    refine st1 _ ?_
    show Steps p.tables e below (T1.setTop (mkF m 28 #[.val (.int (7 : Int32)), .val (.int p2), .val (.int (2 : Int32)), .val (.int (7 : Int32)), .unset, .unset] [(.ref t1)])) _
    refine XS.aconstNull X1.here hx rfl (hb hby at_28) ?_
    show Steps p.tables e below (T1.setTop (mkF m 29 #[.val (.int (7 : Int32)), .val (.int p2), .val (.int (2 : Int32)), .val (.int (7 : Int32)), .unset, .unset] [.null, (.ref t1)])) _
    refine st2.trans ?_
    show Steps p.tables e below (T2.setTop (mkF m 32 #[.val (.int (7 : Int32)), .val (.int p2), .val (.int (2 : Int32)), .val (.int (7 : Int32)), .unset, .unset] [(.ref s_N)])) _
    refine st3 _ ?_
    show Steps p.tables e below (T3.setTop (mkF m 35 #[.val (.int (7 : Int32)), .val (.int p2), .val (.int (2 : Int32)), .val (.int (7 : Int32)), .unset, .unset] [(.ref s_N)])) _
    refine XS.astore X3.here hx rfl (hb hby at_35) rfl rfl (l' := #[.val (.int (7 : Int32)), .val (.int p2), .val (.int (2 : Int32)), .val (.int (7 : Int32)), .val (.ref s_N), .unset]) rfl ?_
    show Steps p.tables e below (T3.setTop (mkF m 37 #[.val (.int (7 : Int32)), .val (.int p2), .val (.int (2 : Int32)), .val (.int (7 : Int32)), .val (.ref s_N), .unset] [])) _
    refine XS.iloadN X3.here hx rfl (hb hby at_37) rfl ?_
    show Steps p.tables e below (T3.setTop (mkF m 38 #[.val (.int (7 : Int32)), .val (.int p2), .val (.int (2 : Int32)), .val (.int (7 : Int32)), .val (.ref s_N), .unset] [(.int (7 : Int32))])) _
    refine XS.iconst X3.here hx rfl (hb hby at_38) ?_
    show Steps p.tables e below (T3.setTop (mkF m 39 #[.val (.int (7 : Int32)), .val (.int p2), .val (.int (2 : Int32)), .val (.int (7 : Int32)), .val (.ref s_N), .unset] [(.int (1 : Int32)), (.int (7 : Int32))])) _
    refine XS.icmpYes X3.here hx rfl (pc0 := 39) (pc' := 48) rfl (hb hby at_39) rfl (feq (by decide : ¬ ((7 : Int32) = (1 : Int32)))).2 (by decide) (by decide) ?_
    show Steps p.tables e below (T3.setTop (mkF m 48 #[.val (.int (7 : Int32)), .val (.int p2), .val (.int (2 : Int32)), .val (.int (7 : Int32)), .val (.ref s_N), .unset] [])) _
    refine XS.iloadN X3.here hx rfl (hb hby at_48) rfl ?_
    show Steps p.tables e below (T3.setTop (mkF m 49 #[.val (.int (7 : Int32)), .val (.int p2), .val (.int (2 : Int32)), .val (.int (7 : Int32)), .val (.ref s_N), .unset] [(.int (7 : Int32))])) _
    refine XS.bipush X3.here hx rfl (hb hby at_49) ?_
    show Steps p.tables e below (T3.setTop (mkF m 51 #[.val (.int (7 : Int32)), .val (.int p2), .val (.int (2 : Int32)), .val (.int (7 : Int32)), .val (.ref s_N), .unset] [(.int (7 : Int32)), (.int (7 : Int32))])) _
    refine XS.icmpNo X3.here hx rfl (hb hby at_51) rfl (teq (by decide : (7 : Int32) = (7 : Int32))).2 ?_
    show Steps p.tables e below (T3.setTop (mkF m 54 #[.val (.int (7 : Int32)), .val (.int p2), .val (.int (2 : Int32)), .val (.int (7 : Int32)), .val (.ref s_N), .unset] [])) _
    refine st4 _ ?_
    show Steps p.tables e below (T4.setTop (mkF m 57 #[.val (.int (7 : Int32)), .val (.int p2), .val (.int (2 : Int32)), .val (.int (7 : Int32)), .val (.ref s_N), .unset] [(.ref s_N)])) _
    refine XS.goto X4.here hx rfl (pc0 := 57) (pc' := 61) rfl (hb hby at_57) (by decide) (by decide) ?_
    show Steps p.tables e below (T4.setTop (mkF m 61 #[.val (.int (7 : Int32)), .val (.int p2), .val (.int (2 : Int32)), .val (.int (7 : Int32)), .val (.ref s_N), .unset] [(.ref s_N)])) _
    refine XS.astore X4.here hx rfl (hb hby at_61) rfl rfl (l' := #[.val (.int (7 : Int32)), .val (.int p2), .val (.int (2 : Int32)), .val (.int (7 : Int32)), .val (.ref s_N), .val (.ref s_N)]) rfl ?_
    show Steps p.tables e below (T4.setTop (mkF m 63 #[.val (.int (7 : Int32)), .val (.int p2), .val (.int (2 : Int32)), .val (.int (7 : Int32)), .val (.ref s_N), .val (.ref s_N)] [])) _
    refine XS.aload X4.here hx rfl (hb hby at_63) rfl rfl ?_
    show Steps p.tables e below (T4.setTop (mkF m 65 #[.val (.int (7 : Int32)), .val (.int p2), .val (.int (2 : Int32)), .val (.int (7 : Int32)), .val (.ref s_N), .val (.ref s_N)] [(.ref s_N)])) _
    refine XS.aload X4.here hx rfl (hb hby at_65) rfl rfl ?_
    show Steps p.tables e below (T4.setTop (mkF m 67 #[.val (.int (7 : Int32)), .val (.int p2), .val (.int (2 : Int32)), .val (.int (7 : Int32)), .val (.ref s_N), .val (.ref s_N)] [(.ref s_N), (.ref s_N)])) _
    refine Jvm.RoadKit.acmp (g := (mkF m 67 #[.val (.int (7 : Int32)), .val (.int p2), .val (.int (2 : Int32)), .val (.int (7 : Int32)), .val (.ref s_N), .val (.ref s_N)] [(.ref s_N), (.ref s_N)])) X4 hx rfl rfl rfl (pc0 := 67) (pc' := 72) (same := true) rfl (hb hby at_67) rfl (decide_eq_true rfl) (by decide) (by decide) ?_
    show Steps p.tables e below (T4.setTop (mkF m 72 #[.val (.int (7 : Int32)), .val (.int p2), .val (.int (2 : Int32)), .val (.int (7 : Int32)), .val (.ref s_N), .val (.ref s_N)] [])) _
    refine XS.aload X4.here hx rfl (hb hby at_72) rfl rfl ?_
    show Steps p.tables e below (T4.setTop (mkF m 74 #[.val (.int (7 : Int32)), .val (.int p2), .val (.int (2 : Int32)), .val (.int (7 : Int32)), .val (.ref s_N), .val (.ref s_N)] [(.ref s_N)])) _
    refine XS.ifnullNo X4.here hx rfl (hb hby at_74) rfl ?_
    show Steps p.tables e below (T4.setTop (mkF m 77 #[.val (.int (7 : Int32)), .val (.int p2), .val (.int (2 : Int32)), .val (.int (7 : Int32)), .val (.ref s_N), .val (.ref s_N)] [])) _
    refine XS.aload X4.here hx rfl (hb hby at_77) rfl rfl ?_
    show Steps p.tables e below (T4.setTop (mkF m 79 #[.val (.int (7 : Int32)), .val (.int p2), .val (.int (2 : Int32)), .val (.int (7 : Int32)), .val (.ref s_N), .val (.ref s_N)] [(.ref s_N)])) _
    refine st5.trans ?_
    show Steps p.tables e below (T5.setTop (mkF m 82 #[.val (.int (7 : Int32)), .val (.int p2), .val (.int (2 : Int32)), .val (.int (7 : Int32)), .val (.ref s_N), .val (.ref s_N)] [(.int (7 : Int32))])) _
    refine XS.iloadN X5.here hx rfl (hb hby at_82) rfl ?_
    show Steps p.tables e below (T5.setTop (mkF m 83 #[.val (.int (7 : Int32)), .val (.int p2), .val (.int (2 : Int32)), .val (.int (7 : Int32)), .val (.ref s_N), .val (.ref s_N)] [(.int (7 : Int32)), (.int (7 : Int32))])) _
    refine XS.icmpNo X5.here hx rfl (hb hby at_83) rfl (teq (by decide : (7 : Int32) = (7 : Int32))).2 ?_
    show Steps p.tables e below (T5.setTop (mkF m 86 #[.val (.int (7 : Int32)), .val (.int p2), .val (.int (2 : Int32)), .val (.int (7 : Int32)), .val (.ref s_N), .val (.ref s_N)] [])) _
    refine XS.iconst X5.here hx rfl (hb hby at_86) ?_
    show Steps p.tables e below (T5.setTop (mkF m 87 #[.val (.int (7 : Int32)), .val (.int p2), .val (.int (2 : Int32)), .val (.int (7 : Int32)), .val (.ref s_N), .val (.ref s_N)] [(.int (1 : Int32))])) _
    refine XS.goto X5.here hx rfl (pc0 := 87) (pc' := 91) rfl (hb hby at_87) (by decide) (by decide) ?_
    show Steps p.tables e below (T5.setTop (mkF m 91 #[.val (.int (7 : Int32)), .val (.int p2), .val (.int (2 : Int32)), .val (.int (7 : Int32)), .val (.ref s_N), .val (.ref s_N)] [(.int (1 : Int32))])) _
    exact retN X5 hx (t := .boolean) Bd.returns (by simp) (hb hby at_91) hr
  · show own_Qk (some (.int (1 : Int32))) h0 n0 _ T5.heap _
    rw [e5]
    exact ⟨rfl, N5, K1⟩
set_option maxRecDepth 65536 in
set_option maxHeartbeats 40000000 in
theorem r_law_2_n (l : Launch) (Z : State) (a0 : Array Value) (hw : ∀ d ∈ tables_1, d.before a0 Z = true) (ws : List Jvm.Cond) (s_V s_T s_N s_E : Addr) (cl_V : Cell) (h0 : Heap) (n0 : Nat) (O0 : Old Z n0 h0) (G : own_Ctx Z Z.heap s_V s_T s_N s_E cl_V) (p1 p2 : Int32) (hk : p2 &&& (3 : Int32) = (2 : Int32)) (h1 : ¬ (p1 = (1 : Int32))) (h7 : ¬ (p1 = (7 : Int32))) :
    MetFree l x (head1 (Jvm.Cond.code x code maxLocals ret :: ws) room_1) (fun a U => a = #[(.int p1), (.int p2)] ∧ Z.Warmed39 U.vm ∧ U.heap = h0) (fun _ _ _ _ _ => True) (fun _ U o U' => ∃ v L, o = .returned v ∧ own_Qk (some (.int (1 : Int32))) h0 n0 v U'.heap L ∧ FrameEnd U o U' L 16 128) := by
  have G0 := G
  obtain ⟨S_V, E_V, A_V, FC_V, L_V, Hs_V, Gf_V, S_T, E_T, F_T, S_N, E_N, F_N, S_E, E_E, F_E⟩ := G
  refine MetFree.of_bodySF (plainFor_of_name pn_3) hisR ?_
  intro p e s m args below meth c s₁ Bd hml0 hP hK
  obtain ⟨rfl, hZ, hh⟩ := hP
  have hx := Bd.exec
  have hby := Bd.bytes
  have hml : c.maxLocals = 6 := hml0
  have hown : s.vm.findClass "com/example/rubrique/rubrique/render/AreaByNumberPinLaw" = some m.cls := findClass_of_methodNamed Bd.named
  have hnm := (name_of_methodNamed Bd.named Bd.method).1
  have X0 : Stand p l e room_1 s m #[(.int p1), (.int p2)] below meth c s₁ [] 0 0 := Stand.of_body Bd
  have e0 : s₁.heap = h0 := by rw [← hh, Bd.state]; rfl
  have N0 := Fr.nil n0
  have pre0 : ∀ t, Steps p.tables e below (s₁.setTop (mkF m 0 #[.val (.int p1), .val (.int p2), .unset, .unset, .unset, .unset] [])) t → Steps p.tables e below (s₁.setTop (entryFrame m #[(.int p1), (.int p2)] maxLocals)) t := fun t k => castTop (ef_0_8 m p1 p2) k
  obtain ⟨_, _, ⟨T1, L1, k1, n1⟩, -, X1, ⟨Lc1, hQ1, l1, y1, z1⟩, st1⟩ := Jvm.LawKit.callS X0 hx (y := (⟨"com/example/rubrique/rubrique/render/Area", "byNumber", "(I)Ljava/util/Optional;"⟩ : MethodName)) hown (mvT hZ (hw _ (List.mem_of_getElem? (i := 0) rfl))) (mvT hZ (hw _ (List.mem_of_getElem? (i := 1) rfl))) (mvT hZ (hw _ (List.mem_of_getElem? (i := 2) rfl))) (mvT hZ (hw _ (List.mem_of_getElem? (i := 3) rfl))) (by decide) (backOf (W := 0) (r_byN l Z a0 hw [] s_V s_T s_N s_E cl_V h0 n0 O0 G0 p1 h1 h7) hZ (hw _ (List.mem_of_getElem? (i := 3) rfl)) (hw _ (List.mem_of_getElem? (i := 2) rfl)) (by decide) (by decide)) (g := (mkF m 25 #[.val (.int p1), .val (.int p2), .val (.int (2 : Int32)), .val (.int p1), .unset, .unset] [(.int p1)])) rfl (by rw [hml]; rfl) (argsL := [(.int p1)]) (rest := []) (lenOf pd_5 rfl) rfl (by show 2 * 0 + _ ≤ _; exact Nat.le_of_eq rfl) (hb hby at_25) (fun _ _ => ⟨rfl, e0, (by decide : 0 + 1 ≤ _), (by decide : 0 + 2 ≤ _)⟩)
  dsimp only [Pt.U, Pt.locs, Pt.cells, Pt.slots] at X1 l1 y1 z1 st1 hQ1
  subst l1 y1 z1
  obtain ⟨rfl, N1q, Kq1⟩ := hQ1
  have N1 := Fr.app N0 N1q
  have O1 := O0.keep Kq1 all0
  have K1 : Keep h0 T1.heap [] := (Keep.refl h0 []).trans Kq1 all0
  obtain ⟨cq2, kq2, q2a, q2b, q2c⟩ := isOf hZ rfl (E_E.ext O1.2)
  obtain ⟨_, _, ⟨T2, L2, k2, n2⟩, -, X2, ⟨Lc2, hQ2, l2, y2, z2⟩, st2⟩ := X1.virtualBack hx (y := (⟨"java/util/Optional", "orElse", "(Ljava/lang/Object;)Ljava/lang/Object;"⟩ : MethodName)) (z := (⟨"java/util/Optional", "orElse", "(Ljava/lang/Object;)Ljava/lang/Object;"⟩ : MethodName)) hown (mvT hZ (hw _ (List.mem_of_getElem? (i := 28) rfl))) (mvT hZ (hw _ (List.mem_of_getElem? (i := 29) rfl))) (notFace_of_selects (args := #[]) (mvT hZ (hw _ (List.mem_of_getElem? (i := 31) rfl)))) (mvT hZ (hw _ (List.mem_of_getElem? (i := 31) rfl))) (mvT hZ (hw _ (List.mem_of_getElem? (i := 30) rfl))) (by decide) (backOf (W := 0) (r_orE l Z a0 hw [] s_V s_T s_N s_E cl_V T1.heap n0 O1 G0) hZ (hw _ (List.mem_of_getElem? (i := 32) rfl)) (hw _ (List.mem_of_getElem? (i := 25) rfl)) (by decide) (by decide)) q2a q2c (g := (mkF m 29 #[.val (.int p1), .val (.int p2), .val (.int (2 : Int32)), .val (.int p1), .unset, .unset] [.null, (.ref s_E)])) rfl (by rw [hml]; rfl) (Steps.refl _) (argsL := [.null]) (rest := []) (lenOf pd_0 rfl) rfl (by show 2 * 0 + _ ≤ _; exact Nat.le_of_eq rfl) (hb hby at_29) (fun _ _ => ⟨rfl, rfl, (by decide : 1 + 0 ≤ _), (by decide : 2 + 0 ≤ _)⟩)
  dsimp only [Pt.U, Pt.locs, Pt.cells, Pt.slots] at X2 l2 y2 z2 st2 hQ2
  subst l2 y2 z2
  obtain ⟨rfl, N2q, e2⟩ := hQ2
  have N2 := Fr.app N1 N2q
  obtain ⟨fs, hr, hrun, hended, hW, hsame⟩ := X2.leave (v := some (.int (1 : Int32))) (fun h => by rw [Bd.returns] at h; cases h)
  refine ⟨_, _, pre0 _ ?_, hrun, hended, _, _, rfl, ?_, ⟨_, rfl⟩, hW, hsame.mono (by decide) (by decide)⟩
  · show Steps p.tables e below (s₁.setTop (mkF m 0 #[.val (.int p1), .val (.int p2), .unset, .unset, .unset, .unset] [])) _
    refine XS.iloadN X0.here hx rfl (hb hby at_0) rfl ?_
    show Steps p.tables e below (s₁.setTop (mkF m 1 #[.val (.int p1), .val (.int p2), .unset, .unset, .unset, .unset] [(.int p2)])) _
    refine XS.iconst X0.here hx rfl (hb hby at_1) ?_
    show Steps p.tables e below (s₁.setTop (mkF m 2 #[.val (.int p1), .val (.int p2), .unset, .unset, .unset, .unset] [(.int (3 : Int32)), (.int p2)])) _
    refine XS.iand X0.here hx rfl (hb hby at_2) rfl ?_
    show Steps p.tables e below (s₁.setTop (mkF m 3 #[.val (.int p1), .val (.int p2), .unset, .unset, .unset, .unset] [(.int (p2 &&& (3 : Int32)))])) _
    rw [hk]
    show Steps p.tables e below (s₁.setTop (mkF m 3 #[.val (.int p1), .val (.int p2), .unset, .unset, .unset, .unset] [(.int (2 : Int32))])) _
    refine XS.istoreN X0.here hx rfl (hb hby at_3) rfl (l' := #[.val (.int p1), .val (.int p2), .val (.int (2 : Int32)), .unset, .unset, .unset]) rfl ?_
    show Steps p.tables e below (s₁.setTop (mkF m 4 #[.val (.int p1), .val (.int p2), .val (.int (2 : Int32)), .unset, .unset, .unset] [])) _
    refine XS.iloadN X0.here hx rfl (hb hby at_4) rfl ?_
    show Steps p.tables e below (s₁.setTop (mkF m 5 #[.val (.int p1), .val (.int p2), .val (.int (2 : Int32)), .unset, .unset, .unset] [(.int (2 : Int32))])) _
    refine XS.ifYes X0.here hx rfl (pc0 := 5) (pc' := 12) rfl (hb hby at_5) rfl ((if0 _ _).trans (feq (by decide : ¬ ((2 : Int32) = (0 : Int32)))).2) (by decide) (by decide) ?_
    show Steps p.tables e below (s₁.setTop (mkF m 12 #[.val (.int p1), .val (.int p2), .val (.int (2 : Int32)), .unset, .unset, .unset] [])) _
    refine XS.iloadN X0.here hx rfl (hb hby at_12) rfl ?_
    show Steps p.tables e below (s₁.setTop (mkF m 13 #[.val (.int p1), .val (.int p2), .val (.int (2 : Int32)), .unset, .unset, .unset] [(.int (2 : Int32))])) _
    refine XS.iconst X0.here hx rfl (hb hby at_13) ?_
    show Steps p.tables e below (s₁.setTop (mkF m 14 #[.val (.int p1), .val (.int p2), .val (.int (2 : Int32)), .unset, .unset, .unset] [(.int (1 : Int32)), (.int (2 : Int32))])) _
    refine XS.icmpYes X0.here hx rfl (pc0 := 14) (pc' := 22) rfl (hb hby at_14) rfl (feq (by decide : ¬ ((2 : Int32) = (1 : Int32)))).2 (by decide) (by decide) ?_
    show Steps p.tables e below (s₁.setTop (mkF m 22 #[.val (.int p1), .val (.int p2), .val (.int (2 : Int32)), .unset, .unset, .unset] [])) _
    refine XS.iloadN X0.here hx rfl (hb hby at_22) rfl ?_
    show Steps p.tables e below (s₁.setTop (mkF m 23 #[.val (.int p1), .val (.int p2), .val (.int (2 : Int32)), .unset, .unset, .unset] [(.int p1)])) _
    refine XS.istoreN X0.here hx rfl (hb hby at_23) rfl (l' := #[.val (.int p1), .val (.int p2), .val (.int (2 : Int32)), .val (.int p1), .unset, .unset]) rfl ?_
    show Steps p.tables e below (s₁.setTop (mkF m 24 #[.val (.int p1), .val (.int p2), .val (.int (2 : Int32)), .val (.int p1), .unset, .unset] [])) _
    refine XS.iloadN X0.here hx rfl (hb hby at_24) rfl ?_
    show Steps p.tables e below (s₁.setTop (mkF m 25 #[.val (.int p1), .val (.int p2), .val (.int (2 : Int32)), .val (.int p1), .unset, .unset] [(.int p1)])) _
    refine st1 _ ?_
    show Steps p.tables e below (T1.setTop (mkF m 28 #[.val (.int p1), .val (.int p2), .val (.int (2 : Int32)), .val (.int p1), .unset, .unset] [(.ref s_E)])) _
    refine XS.aconstNull X1.here hx rfl (hb hby at_28) ?_
    show Steps p.tables e below (T1.setTop (mkF m 29 #[.val (.int p1), .val (.int p2), .val (.int (2 : Int32)), .val (.int p1), .unset, .unset] [.null, (.ref s_E)])) _
    refine st2.trans ?_
    show Steps p.tables e below (T2.setTop (mkF m 32 #[.val (.int p1), .val (.int p2), .val (.int (2 : Int32)), .val (.int p1), .unset, .unset] [.null])) _
    refine X2.checkcastNull hx (g := (mkF m 32 #[.val (.int p1), .val (.int p2), .val (.int (2 : Int32)), .val (.int p1), .unset, .unset] [.null])) rfl rfl (hb hby at_32) _ ?_
    show Steps p.tables e below (T2.setTop (mkF m 35 #[.val (.int p1), .val (.int p2), .val (.int (2 : Int32)), .val (.int p1), .unset, .unset] [.null])) _
    refine XS.astore X2.here hx rfl (hb hby at_35) rfl rfl (l' := #[.val (.int p1), .val (.int p2), .val (.int (2 : Int32)), .val (.int p1), .val .null, .unset]) rfl ?_
    show Steps p.tables e below (T2.setTop (mkF m 37 #[.val (.int p1), .val (.int p2), .val (.int (2 : Int32)), .val (.int p1), .val .null, .unset] [])) _
    refine XS.iloadN X2.here hx rfl (hb hby at_37) rfl ?_
    show Steps p.tables e below (T2.setTop (mkF m 38 #[.val (.int p1), .val (.int p2), .val (.int (2 : Int32)), .val (.int p1), .val .null, .unset] [(.int p1)])) _
    refine XS.iconst X2.here hx rfl (hb hby at_38) ?_
    show Steps p.tables e below (T2.setTop (mkF m 39 #[.val (.int p1), .val (.int p2), .val (.int (2 : Int32)), .val (.int p1), .val .null, .unset] [(.int (1 : Int32)), (.int p1)])) _
    refine XS.icmpYes X2.here hx rfl (pc0 := 39) (pc' := 48) rfl (hb hby at_39) rfl (feq (h1 : ¬ (p1 = (1 : Int32)))).2 (by decide) (by decide) ?_
    show Steps p.tables e below (T2.setTop (mkF m 48 #[.val (.int p1), .val (.int p2), .val (.int (2 : Int32)), .val (.int p1), .val .null, .unset] [])) _
    refine XS.iloadN X2.here hx rfl (hb hby at_48) rfl ?_
    show Steps p.tables e below (T2.setTop (mkF m 49 #[.val (.int p1), .val (.int p2), .val (.int (2 : Int32)), .val (.int p1), .val .null, .unset] [(.int p1)])) _
    refine XS.bipush X2.here hx rfl (hb hby at_49) ?_
    show Steps p.tables e below (T2.setTop (mkF m 51 #[.val (.int p1), .val (.int p2), .val (.int (2 : Int32)), .val (.int p1), .val .null, .unset] [(.int (7 : Int32)), (.int p1)])) _
    refine XS.icmpYes X2.here hx rfl (pc0 := 51) (pc' := 60) rfl (hb hby at_51) rfl (feq (h7 : ¬ (p1 = (7 : Int32)))).2 (by decide) (by decide) ?_
    show Steps p.tables e below (T2.setTop (mkF m 60 #[.val (.int p1), .val (.int p2), .val (.int (2 : Int32)), .val (.int p1), .val .null, .unset] [])) _
    refine XS.aconstNull X2.here hx rfl (hb hby at_60) ?_
    show Steps p.tables e below (T2.setTop (mkF m 61 #[.val (.int p1), .val (.int p2), .val (.int (2 : Int32)), .val (.int p1), .val .null, .unset] [.null])) _
    refine XS.astore X2.here hx rfl (hb hby at_61) rfl rfl (l' := #[.val (.int p1), .val (.int p2), .val (.int (2 : Int32)), .val (.int p1), .val .null, .val .null]) rfl ?_
    show Steps p.tables e below (T2.setTop (mkF m 63 #[.val (.int p1), .val (.int p2), .val (.int (2 : Int32)), .val (.int p1), .val .null, .val .null] [])) _
    refine XS.aload X2.here hx rfl (hb hby at_63) rfl rfl ?_
    show Steps p.tables e below (T2.setTop (mkF m 65 #[.val (.int p1), .val (.int p2), .val (.int (2 : Int32)), .val (.int p1), .val .null, .val .null] [.null])) _
    refine XS.aload X2.here hx rfl (hb hby at_65) rfl rfl ?_
    show Steps p.tables e below (T2.setTop (mkF m 67 #[.val (.int p1), .val (.int p2), .val (.int (2 : Int32)), .val (.int p1), .val .null, .val .null] [.null, .null])) _
    refine Jvm.RoadKit.acmp (g := (mkF m 67 #[.val (.int p1), .val (.int p2), .val (.int (2 : Int32)), .val (.int p1), .val .null, .val .null] [.null, .null])) X2 hx rfl rfl rfl (pc0 := 67) (pc' := 72) (same := true) rfl (hb hby at_67) rfl (decide_eq_true rfl) (by decide) (by decide) ?_
    show Steps p.tables e below (T2.setTop (mkF m 72 #[.val (.int p1), .val (.int p2), .val (.int (2 : Int32)), .val (.int p1), .val .null, .val .null] [])) _
    refine XS.aload X2.here hx rfl (hb hby at_72) rfl rfl ?_
    show Steps p.tables e below (T2.setTop (mkF m 74 #[.val (.int p1), .val (.int p2), .val (.int (2 : Int32)), .val (.int p1), .val .null, .val .null] [.null])) _
    refine XS.ifnullYes X2.here hx rfl (pc0 := 74) (pc' := 86) rfl (hb hby at_74) rfl (by decide) (by decide) ?_
    show Steps p.tables e below (T2.setTop (mkF m 86 #[.val (.int p1), .val (.int p2), .val (.int (2 : Int32)), .val (.int p1), .val .null, .val .null] [])) _
    refine XS.iconst X2.here hx rfl (hb hby at_86) ?_
    show Steps p.tables e below (T2.setTop (mkF m 87 #[.val (.int p1), .val (.int p2), .val (.int (2 : Int32)), .val (.int p1), .val .null, .val .null] [(.int (1 : Int32))])) _
    refine XS.goto X2.here hx rfl (pc0 := 87) (pc' := 91) rfl (hb hby at_87) (by decide) (by decide) ?_
    show Steps p.tables e below (T2.setTop (mkF m 91 #[.val (.int p1), .val (.int p2), .val (.int (2 : Int32)), .val (.int p1), .val .null, .val .null] [(.int (1 : Int32))])) _
    exact retN X2 hx (t := .boolean) Bd.returns (by simp) (hb hby at_91) hr
  · show own_Qk (some (.int (1 : Int32))) h0 n0 _ T2.heap _
    rw [e2]
    exact ⟨rfl, N2, K1⟩
set_option maxRecDepth 65536 in
set_option maxHeartbeats 40000000 in
theorem r_law_3_1 (l : Launch) (Z : State) (a0 : Array Value) (hw : ∀ d ∈ tables_1, d.before a0 Z = true) (ws : List Jvm.Cond) (s_V s_T s_N s_E : Addr) (cl_V : Cell) (h0 : Heap) (n0 : Nat) (O0 : Old Z n0 h0) (G : own_Ctx Z Z.heap s_V s_T s_N s_E cl_V) (p2 : Int32) (hk : p2 &&& (3 : Int32) = (3 : Int32)) :
    MetFree l x (head1 (Jvm.Cond.code x code maxLocals ret :: ws) room_1) (fun a U => a = #[(.int (1 : Int32)), (.int p2)] ∧ Z.Warmed39 U.vm ∧ U.heap = h0) (fun _ _ _ _ _ => True) (fun _ U o U' => ∃ v L, o = .returned v ∧ own_Qk (some (.int (1 : Int32))) h0 n0 v U'.heap L ∧ FrameEnd U o U' L 16 128) := by
  have G0 := G
  obtain ⟨S_V, E_V, A_V, FC_V, L_V, Hs_V, Gf_V, S_T, E_T, F_T, S_N, E_N, F_N, S_E, E_E, F_E⟩ := G
  refine MetFree.of_bodySF (plainFor_of_name pn_3) hisR ?_
  intro p e s m args below meth c s₁ Bd hml0 hP hK
  obtain ⟨rfl, hZ, hh⟩ := hP
  have hx := Bd.exec
  have hby := Bd.bytes
  have hml : c.maxLocals = 6 := hml0
  have hown : s.vm.findClass "com/example/rubrique/rubrique/render/AreaByNumberPinLaw" = some m.cls := findClass_of_methodNamed Bd.named
  have hnm := (name_of_methodNamed Bd.named Bd.method).1
  have X0 : Stand p l e room_1 s m #[(.int (1 : Int32)), (.int p2)] below meth c s₁ [] 0 0 := Stand.of_body Bd
  have e0 : s₁.heap = h0 := by rw [← hh, Bd.state]; rfl
  have N0 := Fr.nil n0
  have pre0 : ∀ t, Steps p.tables e below (s₁.setTop (mkF m 0 #[.val (.int (1 : Int32)), .val (.int p2), .unset, .unset, .unset, .unset] [])) t → Steps p.tables e below (s₁.setTop (entryFrame m #[(.int (1 : Int32)), (.int p2)] maxLocals)) t := fun t k => castTop (ef_0_8 m (1 : Int32) p2) k
  obtain ⟨_, _, ⟨T1, L1, k1, n1⟩, -, X1, ⟨Lc1, hQ1, l1, y1, z1⟩, st1⟩ := Jvm.LawKit.callS X0 hx (y := (⟨"com/example/rubrique/rubrique/render/Area", "byNumber", "(I)Ljava/util/Optional;"⟩ : MethodName)) hown (mvT hZ (hw _ (List.mem_of_getElem? (i := 0) rfl))) (mvT hZ (hw _ (List.mem_of_getElem? (i := 1) rfl))) (mvT hZ (hw _ (List.mem_of_getElem? (i := 2) rfl))) (mvT hZ (hw _ (List.mem_of_getElem? (i := 3) rfl))) (by decide) (backOf (W := 0) (r_by1 l Z a0 hw [] s_V s_T s_N s_E cl_V h0 n0 O0 G0) hZ (hw _ (List.mem_of_getElem? (i := 3) rfl)) (hw _ (List.mem_of_getElem? (i := 2) rfl)) (by decide) (by decide)) (g := (mkF m 25 #[.val (.int (1 : Int32)), .val (.int p2), .val (.int (3 : Int32)), .val (.int (1 : Int32)), .unset, .unset] [(.int (1 : Int32))])) rfl (by rw [hml]; rfl) (argsL := [(.int (1 : Int32))]) (rest := []) (lenOf pd_5 rfl) rfl (by show 2 * 0 + _ ≤ _; exact Nat.le_of_eq rfl) (hb hby at_25) (fun _ _ => ⟨rfl, e0, (by decide : 0 + 2 ≤ _), (by decide : 0 + 3 ≤ _)⟩)
  dsimp only [Pt.U, Pt.locs, Pt.cells, Pt.slots] at X1 l1 y1 z1 st1 hQ1
  subst l1 y1 z1
  obtain ⟨t1, rfl, N1q, Kq1, gt1, Et1, Fv1⟩ := hQ1
  have N1 := Fr.app N0 N1q
  have ne_s_V_t1 : s_V ≠ t1 := Nat.ne_of_lt (Nat.lt_of_lt_of_le (E_V.ext O0.2).lt gt1)
  have ne_s_T_t1 : s_T ≠ t1 := Nat.ne_of_lt (Nat.lt_of_lt_of_le (E_T.ext O0.2).lt gt1)
  have ne_s_N_t1 : s_N ≠ t1 := Nat.ne_of_lt (Nat.lt_of_lt_of_le (E_N.ext O0.2).lt gt1)
  have ne_s_E_t1 : s_E ≠ t1 := Nat.ne_of_lt (Nat.lt_of_lt_of_le (E_E.ext O0.2).lt gt1)
  have g_t1 : n0 ≤ t1 := Nat.le_trans (O0.1 ▸ O0.2.1) gt1
  have sz_t1 : h0.size ≤ t1 := Nat.le_trans (Keep.refl h0 []).1 gt1
  have O1 := O0.keep Kq1 all0
  have K1 : Keep h0 T1.heap [] := (Keep.refl h0 []).trans Kq1 all0
  obtain ⟨cq2, kq2, q2a, q2b, q2c⟩ := isOf hZ rfl Et1
  obtain ⟨_, _, ⟨T2, L2, k2, n2⟩, -, X2, ⟨Lc2, hQ2, l2, y2, z2⟩, st2⟩ := X1.virtualBack hx (y := (⟨"java/util/Optional", "orElse", "(Ljava/lang/Object;)Ljava/lang/Object;"⟩ : MethodName)) (z := (⟨"java/util/Optional", "orElse", "(Ljava/lang/Object;)Ljava/lang/Object;"⟩ : MethodName)) hown (mvT hZ (hw _ (List.mem_of_getElem? (i := 28) rfl))) (mvT hZ (hw _ (List.mem_of_getElem? (i := 29) rfl))) (notFace_of_selects (args := #[]) (mvT hZ (hw _ (List.mem_of_getElem? (i := 31) rfl)))) (mvT hZ (hw _ (List.mem_of_getElem? (i := 31) rfl))) (mvT hZ (hw _ (List.mem_of_getElem? (i := 30) rfl))) (by decide) (backOf (W := 0) (r_orV l Z a0 hw [] s_V s_T s_N s_E cl_V T1.heap n0 O1 G0 t1 s_T Fv1) hZ (hw _ (List.mem_of_getElem? (i := 32) rfl)) (hw _ (List.mem_of_getElem? (i := 25) rfl)) (by decide) (by decide)) q2a q2c (g := (mkF m 29 #[.val (.int (1 : Int32)), .val (.int p2), .val (.int (3 : Int32)), .val (.int (1 : Int32)), .unset, .unset] [.null, (.ref t1)])) rfl (by rw [hml]; rfl) (Steps.refl _) (argsL := [.null]) (rest := []) (lenOf pd_0 rfl) rfl (by show 2 * 0 + _ ≤ _; exact Nat.le_of_eq rfl) (hb hby at_29) (fun _ _ => ⟨rfl, rfl, (by decide : 2 + 0 ≤ _), (by decide : 3 + 0 ≤ _)⟩)
  dsimp only [Pt.U, Pt.locs, Pt.cells, Pt.slots] at X2 l2 y2 z2 st2 hQ2
  subst l2 y2 z2
  obtain ⟨rfl, N2q, e2⟩ := hQ2
  have N2 := Fr.app N1 N2q
  obtain ⟨T3, X3, e3, st3⟩ := castY X2 hx hZ hown (hw _ (List.mem_of_getElem? (i := 51) rfl)) e2 (Ins.self (E_T.ext O1.2)) (g := (mkF m 32 #[.val (.int (1 : Int32)), .val (.int p2), .val (.int (3 : Int32)), .val (.int (1 : Int32)), .unset, .unset] [(.ref s_T)])) rfl rfl (hb hby at_32)
  obtain ⟨T4, X4, e4, st4⟩ := getS2 X3 hx hZ hown (host := "") (Or.inl (hw _ (List.mem_of_getElem? (i := 59) rfl))) Via.refl e3 (S_T.ext O1.2) (g := (mkF m 42 #[.val (.int (1 : Int32)), .val (.int p2), .val (.int (3 : Int32)), .val (.int (1 : Int32)), .val (.ref s_T), .unset] [])) rfl (hb hby at_42)
  obtain ⟨cq5, kq5, q5a, q5b, q5c⟩ := isOf hZ e4 (E_T.ext O1.2)
  obtain ⟨_, _, ⟨T5, L5, k5, n5⟩, -, X5, ⟨Lc5, hQ5, l5, y5, z5⟩, st5⟩ := X4.virtualBack hx (y := (⟨"com/example/rubrique/rubrique/render/Area", "number", "()I"⟩ : MethodName)) (z := (⟨"com/example/rubrique/rubrique/render/Area", "number", "()I"⟩ : MethodName)) hown (mvT hZ (hw _ (List.mem_of_getElem? (i := 54) rfl))) (mvT hZ (hw _ (List.mem_of_getElem? (i := 55) rfl))) (notFace_of_selects (args := #[]) (mvT hZ (hw _ (List.mem_of_getElem? (i := 57) rfl)))) (mvT hZ (hw _ (List.mem_of_getElem? (i := 57) rfl))) (mvT hZ (hw _ (List.mem_of_getElem? (i := 56) rfl))) (by decide) (backOf (W := 0) (r_numT l Z a0 hw [] s_V s_T s_N s_E cl_V T1.heap n0 O1 G0) hZ (hw _ (List.mem_of_getElem? (i := 58) rfl)) (hw _ (List.mem_of_getElem? (i := 2) rfl)) (by decide) (by decide)) q5a q5c (g := (mkF m 79 #[.val (.int (1 : Int32)), .val (.int p2), .val (.int (3 : Int32)), .val (.int (1 : Int32)), .val (.ref s_T), .val (.ref s_T)] [(.ref s_T)])) rfl (by rw [hml]; rfl) (Steps.refl _) (argsL := []) (rest := []) (lenOf pd_6 rfl) rfl (by show 2 * 0 + _ ≤ _; exact Nat.le_of_eq rfl) (hb hby at_79) (fun _ _ => ⟨rfl, e4, (by decide : 2 + 0 ≤ _), (by decide : 3 + 0 ≤ _)⟩)
  dsimp only [Pt.U, Pt.locs, Pt.cells, Pt.slots] at X5 l5 y5 z5 st5 hQ5
  subst l5 y5 z5
  obtain ⟨rfl, N5q, e5⟩ := hQ5
  have N5 := Fr.app N2 N5q
  obtain ⟨fs, hr, hrun, hended, hW, hsame⟩ := X5.leave (v := some (.int (1 : Int32))) (fun h => by rw [Bd.returns] at h; cases h)
  refine ⟨_, _, pre0 _ ?_, hrun, hended, _, _, rfl, ?_, ⟨_, rfl⟩, hW, hsame.mono (by decide) (by decide)⟩
  · show Steps p.tables e below (s₁.setTop (mkF m 0 #[.val (.int (1 : Int32)), .val (.int p2), .unset, .unset, .unset, .unset] [])) _
    refine XS.iloadN X0.here hx rfl (hb hby at_0) rfl ?_
    show Steps p.tables e below (s₁.setTop (mkF m 1 #[.val (.int (1 : Int32)), .val (.int p2), .unset, .unset, .unset, .unset] [(.int p2)])) _
    refine XS.iconst X0.here hx rfl (hb hby at_1) ?_
    show Steps p.tables e below (s₁.setTop (mkF m 2 #[.val (.int (1 : Int32)), .val (.int p2), .unset, .unset, .unset, .unset] [(.int (3 : Int32)), (.int p2)])) _
    refine XS.iand X0.here hx rfl (hb hby at_2) rfl ?_
    show Steps p.tables e below (s₁.setTop (mkF m 3 #[.val (.int (1 : Int32)), .val (.int p2), .unset, .unset, .unset, .unset] [(.int (p2 &&& (3 : Int32)))])) _
    rw [hk]
    show Steps p.tables e below (s₁.setTop (mkF m 3 #[.val (.int (1 : Int32)), .val (.int p2), .unset, .unset, .unset, .unset] [(.int (3 : Int32))])) _
    refine XS.istoreN X0.here hx rfl (hb hby at_3) rfl (l' := #[.val (.int (1 : Int32)), .val (.int p2), .val (.int (3 : Int32)), .unset, .unset, .unset]) rfl ?_
    show Steps p.tables e below (s₁.setTop (mkF m 4 #[.val (.int (1 : Int32)), .val (.int p2), .val (.int (3 : Int32)), .unset, .unset, .unset] [])) _
    refine XS.iloadN X0.here hx rfl (hb hby at_4) rfl ?_
    show Steps p.tables e below (s₁.setTop (mkF m 5 #[.val (.int (1 : Int32)), .val (.int p2), .val (.int (3 : Int32)), .unset, .unset, .unset] [(.int (3 : Int32))])) _
    refine XS.ifYes X0.here hx rfl (pc0 := 5) (pc' := 12) rfl (hb hby at_5) rfl ((if0 _ _).trans (feq (by decide : ¬ ((3 : Int32) = (0 : Int32)))).2) (by decide) (by decide) ?_
    show Steps p.tables e below (s₁.setTop (mkF m 12 #[.val (.int (1 : Int32)), .val (.int p2), .val (.int (3 : Int32)), .unset, .unset, .unset] [])) _
    refine XS.iloadN X0.here hx rfl (hb hby at_12) rfl ?_
    show Steps p.tables e below (s₁.setTop (mkF m 13 #[.val (.int (1 : Int32)), .val (.int p2), .val (.int (3 : Int32)), .unset, .unset, .unset] [(.int (3 : Int32))])) _
    refine XS.iconst X0.here hx rfl (hb hby at_13) ?_
    show Steps p.tables e below (s₁.setTop (mkF m 14 #[.val (.int (1 : Int32)), .val (.int p2), .val (.int (3 : Int32)), .unset, .unset, .unset] [(.int (1 : Int32)), (.int (3 : Int32))])) _
    refine XS.icmpYes X0.here hx rfl (pc0 := 14) (pc' := 22) rfl (hb hby at_14) rfl (feq (by decide : ¬ ((3 : Int32) = (1 : Int32)))).2 (by decide) (by decide) ?_
    show Steps p.tables e below (s₁.setTop (mkF m 22 #[.val (.int (1 : Int32)), .val (.int p2), .val (.int (3 : Int32)), .unset, .unset, .unset] [])) _
    refine XS.iloadN X0.here hx rfl (hb hby at_22) rfl ?_
    show Steps p.tables e below (s₁.setTop (mkF m 23 #[.val (.int (1 : Int32)), .val (.int p2), .val (.int (3 : Int32)), .unset, .unset, .unset] [(.int (1 : Int32))])) _
    refine XS.istoreN X0.here hx rfl (hb hby at_23) rfl (l' := #[.val (.int (1 : Int32)), .val (.int p2), .val (.int (3 : Int32)), .val (.int (1 : Int32)), .unset, .unset]) rfl ?_
    show Steps p.tables e below (s₁.setTop (mkF m 24 #[.val (.int (1 : Int32)), .val (.int p2), .val (.int (3 : Int32)), .val (.int (1 : Int32)), .unset, .unset] [])) _
    refine XS.iloadN X0.here hx rfl (hb hby at_24) rfl ?_
    show Steps p.tables e below (s₁.setTop (mkF m 25 #[.val (.int (1 : Int32)), .val (.int p2), .val (.int (3 : Int32)), .val (.int (1 : Int32)), .unset, .unset] [(.int (1 : Int32))])) _
    refine st1 _ ?_
    show Steps p.tables e below (T1.setTop (mkF m 28 #[.val (.int (1 : Int32)), .val (.int p2), .val (.int (3 : Int32)), .val (.int (1 : Int32)), .unset, .unset] [(.ref t1)])) _
    refine XS.aconstNull X1.here hx rfl (hb hby at_28) ?_
    show Steps p.tables e below (T1.setTop (mkF m 29 #[.val (.int (1 : Int32)), .val (.int p2), .val (.int (3 : Int32)), .val (.int (1 : Int32)), .unset, .unset] [.null, (.ref t1)])) _
    refine st2.trans ?_
    show Steps p.tables e below (T2.setTop (mkF m 32 #[.val (.int (1 : Int32)), .val (.int p2), .val (.int (3 : Int32)), .val (.int (1 : Int32)), .unset, .unset] [(.ref s_T)])) _
    refine st3 _ ?_
    show Steps p.tables e below (T3.setTop (mkF m 35 #[.val (.int (1 : Int32)), .val (.int p2), .val (.int (3 : Int32)), .val (.int (1 : Int32)), .unset, .unset] [(.ref s_T)])) _
    refine XS.astore X3.here hx rfl (hb hby at_35) rfl rfl (l' := #[.val (.int (1 : Int32)), .val (.int p2), .val (.int (3 : Int32)), .val (.int (1 : Int32)), .val (.ref s_T), .unset]) rfl ?_
    show Steps p.tables e below (T3.setTop (mkF m 37 #[.val (.int (1 : Int32)), .val (.int p2), .val (.int (3 : Int32)), .val (.int (1 : Int32)), .val (.ref s_T), .unset] [])) _
    refine XS.iloadN X3.here hx rfl (hb hby at_37) rfl ?_
    show Steps p.tables e below (T3.setTop (mkF m 38 #[.val (.int (1 : Int32)), .val (.int p2), .val (.int (3 : Int32)), .val (.int (1 : Int32)), .val (.ref s_T), .unset] [(.int (1 : Int32))])) _
    refine XS.iconst X3.here hx rfl (hb hby at_38) ?_
    show Steps p.tables e below (T3.setTop (mkF m 39 #[.val (.int (1 : Int32)), .val (.int p2), .val (.int (3 : Int32)), .val (.int (1 : Int32)), .val (.ref s_T), .unset] [(.int (1 : Int32)), (.int (1 : Int32))])) _
    refine XS.icmpNo X3.here hx rfl (hb hby at_39) rfl (teq (by decide : (1 : Int32) = (1 : Int32))).2 ?_
    show Steps p.tables e below (T3.setTop (mkF m 42 #[.val (.int (1 : Int32)), .val (.int p2), .val (.int (3 : Int32)), .val (.int (1 : Int32)), .val (.ref s_T), .unset] [])) _
    refine st4 _ ?_
    show Steps p.tables e below (T4.setTop (mkF m 45 #[.val (.int (1 : Int32)), .val (.int p2), .val (.int (3 : Int32)), .val (.int (1 : Int32)), .val (.ref s_T), .unset] [(.ref s_T)])) _
    refine XS.goto X4.here hx rfl (pc0 := 45) (pc' := 61) rfl (hb hby at_45) (by decide) (by decide) ?_
    show Steps p.tables e below (T4.setTop (mkF m 61 #[.val (.int (1 : Int32)), .val (.int p2), .val (.int (3 : Int32)), .val (.int (1 : Int32)), .val (.ref s_T), .unset] [(.ref s_T)])) _
    refine XS.astore X4.here hx rfl (hb hby at_61) rfl rfl (l' := #[.val (.int (1 : Int32)), .val (.int p2), .val (.int (3 : Int32)), .val (.int (1 : Int32)), .val (.ref s_T), .val (.ref s_T)]) rfl ?_
    show Steps p.tables e below (T4.setTop (mkF m 63 #[.val (.int (1 : Int32)), .val (.int p2), .val (.int (3 : Int32)), .val (.int (1 : Int32)), .val (.ref s_T), .val (.ref s_T)] [])) _
    refine XS.aload X4.here hx rfl (hb hby at_63) rfl rfl ?_
    show Steps p.tables e below (T4.setTop (mkF m 65 #[.val (.int (1 : Int32)), .val (.int p2), .val (.int (3 : Int32)), .val (.int (1 : Int32)), .val (.ref s_T), .val (.ref s_T)] [(.ref s_T)])) _
    refine XS.aload X4.here hx rfl (hb hby at_65) rfl rfl ?_
    show Steps p.tables e below (T4.setTop (mkF m 67 #[.val (.int (1 : Int32)), .val (.int p2), .val (.int (3 : Int32)), .val (.int (1 : Int32)), .val (.ref s_T), .val (.ref s_T)] [(.ref s_T), (.ref s_T)])) _
    refine Jvm.RoadKit.acmp (g := (mkF m 67 #[.val (.int (1 : Int32)), .val (.int p2), .val (.int (3 : Int32)), .val (.int (1 : Int32)), .val (.ref s_T), .val (.ref s_T)] [(.ref s_T), (.ref s_T)])) X4 hx rfl rfl rfl (pc0 := 67) (pc' := 72) (same := true) rfl (hb hby at_67) rfl (decide_eq_true rfl) (by decide) (by decide) ?_
    show Steps p.tables e below (T4.setTop (mkF m 72 #[.val (.int (1 : Int32)), .val (.int p2), .val (.int (3 : Int32)), .val (.int (1 : Int32)), .val (.ref s_T), .val (.ref s_T)] [])) _
    refine XS.aload X4.here hx rfl (hb hby at_72) rfl rfl ?_
    show Steps p.tables e below (T4.setTop (mkF m 74 #[.val (.int (1 : Int32)), .val (.int p2), .val (.int (3 : Int32)), .val (.int (1 : Int32)), .val (.ref s_T), .val (.ref s_T)] [(.ref s_T)])) _
    refine XS.ifnullNo X4.here hx rfl (hb hby at_74) rfl ?_
    show Steps p.tables e below (T4.setTop (mkF m 77 #[.val (.int (1 : Int32)), .val (.int p2), .val (.int (3 : Int32)), .val (.int (1 : Int32)), .val (.ref s_T), .val (.ref s_T)] [])) _
    refine XS.aload X4.here hx rfl (hb hby at_77) rfl rfl ?_
    show Steps p.tables e below (T4.setTop (mkF m 79 #[.val (.int (1 : Int32)), .val (.int p2), .val (.int (3 : Int32)), .val (.int (1 : Int32)), .val (.ref s_T), .val (.ref s_T)] [(.ref s_T)])) _
    refine st5.trans ?_
    show Steps p.tables e below (T5.setTop (mkF m 82 #[.val (.int (1 : Int32)), .val (.int p2), .val (.int (3 : Int32)), .val (.int (1 : Int32)), .val (.ref s_T), .val (.ref s_T)] [(.int (1 : Int32))])) _
    refine XS.iloadN X5.here hx rfl (hb hby at_82) rfl ?_
    show Steps p.tables e below (T5.setTop (mkF m 83 #[.val (.int (1 : Int32)), .val (.int p2), .val (.int (3 : Int32)), .val (.int (1 : Int32)), .val (.ref s_T), .val (.ref s_T)] [(.int (1 : Int32)), (.int (1 : Int32))])) _
    refine XS.icmpNo X5.here hx rfl (hb hby at_83) rfl (teq (by decide : (1 : Int32) = (1 : Int32))).2 ?_
    show Steps p.tables e below (T5.setTop (mkF m 86 #[.val (.int (1 : Int32)), .val (.int p2), .val (.int (3 : Int32)), .val (.int (1 : Int32)), .val (.ref s_T), .val (.ref s_T)] [])) _
    refine XS.iconst X5.here hx rfl (hb hby at_86) ?_
    show Steps p.tables e below (T5.setTop (mkF m 87 #[.val (.int (1 : Int32)), .val (.int p2), .val (.int (3 : Int32)), .val (.int (1 : Int32)), .val (.ref s_T), .val (.ref s_T)] [(.int (1 : Int32))])) _
    refine XS.goto X5.here hx rfl (pc0 := 87) (pc' := 91) rfl (hb hby at_87) (by decide) (by decide) ?_
    show Steps p.tables e below (T5.setTop (mkF m 91 #[.val (.int (1 : Int32)), .val (.int p2), .val (.int (3 : Int32)), .val (.int (1 : Int32)), .val (.ref s_T), .val (.ref s_T)] [(.int (1 : Int32))])) _
    exact retN X5 hx (t := .boolean) Bd.returns (by simp) (hb hby at_91) hr
  · show own_Qk (some (.int (1 : Int32))) h0 n0 _ T5.heap _
    rw [e5]
    exact ⟨rfl, N5, K1⟩
set_option maxRecDepth 65536 in
set_option maxHeartbeats 40000000 in
theorem r_law_3_7 (l : Launch) (Z : State) (a0 : Array Value) (hw : ∀ d ∈ tables_1, d.before a0 Z = true) (ws : List Jvm.Cond) (s_V s_T s_N s_E : Addr) (cl_V : Cell) (h0 : Heap) (n0 : Nat) (O0 : Old Z n0 h0) (G : own_Ctx Z Z.heap s_V s_T s_N s_E cl_V) (p2 : Int32) (hk : p2 &&& (3 : Int32) = (3 : Int32)) :
    MetFree l x (head1 (Jvm.Cond.code x code maxLocals ret :: ws) room_1) (fun a U => a = #[(.int (7 : Int32)), (.int p2)] ∧ Z.Warmed39 U.vm ∧ U.heap = h0) (fun _ _ _ _ _ => True) (fun _ U o U' => ∃ v L, o = .returned v ∧ own_Qk (some (.int (1 : Int32))) h0 n0 v U'.heap L ∧ FrameEnd U o U' L 16 128) := by
  have G0 := G
  obtain ⟨S_V, E_V, A_V, FC_V, L_V, Hs_V, Gf_V, S_T, E_T, F_T, S_N, E_N, F_N, S_E, E_E, F_E⟩ := G
  refine MetFree.of_bodySF (plainFor_of_name pn_3) hisR ?_
  intro p e s m args below meth c s₁ Bd hml0 hP hK
  obtain ⟨rfl, hZ, hh⟩ := hP
  have hx := Bd.exec
  have hby := Bd.bytes
  have hml : c.maxLocals = 6 := hml0
  have hown : s.vm.findClass "com/example/rubrique/rubrique/render/AreaByNumberPinLaw" = some m.cls := findClass_of_methodNamed Bd.named
  have hnm := (name_of_methodNamed Bd.named Bd.method).1
  have X0 : Stand p l e room_1 s m #[(.int (7 : Int32)), (.int p2)] below meth c s₁ [] 0 0 := Stand.of_body Bd
  have e0 : s₁.heap = h0 := by rw [← hh, Bd.state]; rfl
  have N0 := Fr.nil n0
  have pre0 : ∀ t, Steps p.tables e below (s₁.setTop (mkF m 0 #[.val (.int (7 : Int32)), .val (.int p2), .unset, .unset, .unset, .unset] [])) t → Steps p.tables e below (s₁.setTop (entryFrame m #[(.int (7 : Int32)), (.int p2)] maxLocals)) t := fun t k => castTop (ef_0_8 m (7 : Int32) p2) k
  obtain ⟨_, _, ⟨T1, L1, k1, n1⟩, -, X1, ⟨Lc1, hQ1, l1, y1, z1⟩, st1⟩ := Jvm.LawKit.callS X0 hx (y := (⟨"com/example/rubrique/rubrique/render/Area", "byNumber", "(I)Ljava/util/Optional;"⟩ : MethodName)) hown (mvT hZ (hw _ (List.mem_of_getElem? (i := 0) rfl))) (mvT hZ (hw _ (List.mem_of_getElem? (i := 1) rfl))) (mvT hZ (hw _ (List.mem_of_getElem? (i := 2) rfl))) (mvT hZ (hw _ (List.mem_of_getElem? (i := 3) rfl))) (by decide) (backOf (W := 0) (r_by7 l Z a0 hw [] s_V s_T s_N s_E cl_V h0 n0 O0 G0) hZ (hw _ (List.mem_of_getElem? (i := 3) rfl)) (hw _ (List.mem_of_getElem? (i := 2) rfl)) (by decide) (by decide)) (g := (mkF m 25 #[.val (.int (7 : Int32)), .val (.int p2), .val (.int (3 : Int32)), .val (.int (7 : Int32)), .unset, .unset] [(.int (7 : Int32))])) rfl (by rw [hml]; rfl) (argsL := [(.int (7 : Int32))]) (rest := []) (lenOf pd_5 rfl) rfl (by show 2 * 0 + _ ≤ _; exact Nat.le_of_eq rfl) (hb hby at_25) (fun _ _ => ⟨rfl, e0, (by decide : 0 + 2 ≤ _), (by decide : 0 + 3 ≤ _)⟩)
  dsimp only [Pt.U, Pt.locs, Pt.cells, Pt.slots] at X1 l1 y1 z1 st1 hQ1
  subst l1 y1 z1
  obtain ⟨t1, rfl, N1q, Kq1, gt1, Et1, Fv1⟩ := hQ1
  have N1 := Fr.app N0 N1q
  have ne_s_V_t1 : s_V ≠ t1 := Nat.ne_of_lt (Nat.lt_of_lt_of_le (E_V.ext O0.2).lt gt1)
  have ne_s_T_t1 : s_T ≠ t1 := Nat.ne_of_lt (Nat.lt_of_lt_of_le (E_T.ext O0.2).lt gt1)
  have ne_s_N_t1 : s_N ≠ t1 := Nat.ne_of_lt (Nat.lt_of_lt_of_le (E_N.ext O0.2).lt gt1)
  have ne_s_E_t1 : s_E ≠ t1 := Nat.ne_of_lt (Nat.lt_of_lt_of_le (E_E.ext O0.2).lt gt1)
  have g_t1 : n0 ≤ t1 := Nat.le_trans (O0.1 ▸ O0.2.1) gt1
  have sz_t1 : h0.size ≤ t1 := Nat.le_trans (Keep.refl h0 []).1 gt1
  have O1 := O0.keep Kq1 all0
  have K1 : Keep h0 T1.heap [] := (Keep.refl h0 []).trans Kq1 all0
  obtain ⟨cq2, kq2, q2a, q2b, q2c⟩ := isOf hZ rfl Et1
  obtain ⟨_, _, ⟨T2, L2, k2, n2⟩, -, X2, ⟨Lc2, hQ2, l2, y2, z2⟩, st2⟩ := X1.virtualBack hx (y := (⟨"java/util/Optional", "orElse", "(Ljava/lang/Object;)Ljava/lang/Object;"⟩ : MethodName)) (z := (⟨"java/util/Optional", "orElse", "(Ljava/lang/Object;)Ljava/lang/Object;"⟩ : MethodName)) hown (mvT hZ (hw _ (List.mem_of_getElem? (i := 28) rfl))) (mvT hZ (hw _ (List.mem_of_getElem? (i := 29) rfl))) (notFace_of_selects (args := #[]) (mvT hZ (hw _ (List.mem_of_getElem? (i := 31) rfl)))) (mvT hZ (hw _ (List.mem_of_getElem? (i := 31) rfl))) (mvT hZ (hw _ (List.mem_of_getElem? (i := 30) rfl))) (by decide) (backOf (W := 0) (r_orV l Z a0 hw [] s_V s_T s_N s_E cl_V T1.heap n0 O1 G0 t1 s_N Fv1) hZ (hw _ (List.mem_of_getElem? (i := 32) rfl)) (hw _ (List.mem_of_getElem? (i := 25) rfl)) (by decide) (by decide)) q2a q2c (g := (mkF m 29 #[.val (.int (7 : Int32)), .val (.int p2), .val (.int (3 : Int32)), .val (.int (7 : Int32)), .unset, .unset] [.null, (.ref t1)])) rfl (by rw [hml]; rfl) (Steps.refl _) (argsL := [.null]) (rest := []) (lenOf pd_0 rfl) rfl (by show 2 * 0 + _ ≤ _; exact Nat.le_of_eq rfl) (hb hby at_29) (fun _ _ => ⟨rfl, rfl, (by decide : 2 + 0 ≤ _), (by decide : 3 + 0 ≤ _)⟩)
  dsimp only [Pt.U, Pt.locs, Pt.cells, Pt.slots] at X2 l2 y2 z2 st2 hQ2
  subst l2 y2 z2
  obtain ⟨rfl, N2q, e2⟩ := hQ2
  have N2 := Fr.app N1 N2q
  obtain ⟨T3, X3, e3, st3⟩ := castY X2 hx hZ hown (hw _ (List.mem_of_getElem? (i := 51) rfl)) e2 (Ins.self (E_N.ext O1.2)) (g := (mkF m 32 #[.val (.int (7 : Int32)), .val (.int p2), .val (.int (3 : Int32)), .val (.int (7 : Int32)), .unset, .unset] [(.ref s_N)])) rfl rfl (hb hby at_32)
  obtain ⟨T4, X4, e4, st4⟩ := getS2 X3 hx hZ hown (host := "") (Or.inl (hw _ (List.mem_of_getElem? (i := 53) rfl))) Via.refl e3 (S_N.ext O1.2) (g := (mkF m 54 #[.val (.int (7 : Int32)), .val (.int p2), .val (.int (3 : Int32)), .val (.int (7 : Int32)), .val (.ref s_N), .unset] [])) rfl (hb hby at_54)
  obtain ⟨cq5, kq5, q5a, q5b, q5c⟩ := isOf hZ e4 (E_N.ext O1.2)
  obtain ⟨_, _, ⟨T5, L5, k5, n5⟩, -, X5, ⟨Lc5, hQ5, l5, y5, z5⟩, st5⟩ := X4.virtualBack hx (y := (⟨"com/example/rubrique/rubrique/render/Area", "number", "()I"⟩ : MethodName)) (z := (⟨"com/example/rubrique/rubrique/render/Area", "number", "()I"⟩ : MethodName)) hown (mvT hZ (hw _ (List.mem_of_getElem? (i := 54) rfl))) (mvT hZ (hw _ (List.mem_of_getElem? (i := 55) rfl))) (notFace_of_selects (args := #[]) (mvT hZ (hw _ (List.mem_of_getElem? (i := 57) rfl)))) (mvT hZ (hw _ (List.mem_of_getElem? (i := 57) rfl))) (mvT hZ (hw _ (List.mem_of_getElem? (i := 56) rfl))) (by decide) (backOf (W := 0) (r_numN l Z a0 hw [] s_V s_T s_N s_E cl_V T1.heap n0 O1 G0) hZ (hw _ (List.mem_of_getElem? (i := 58) rfl)) (hw _ (List.mem_of_getElem? (i := 2) rfl)) (by decide) (by decide)) q5a q5c (g := (mkF m 79 #[.val (.int (7 : Int32)), .val (.int p2), .val (.int (3 : Int32)), .val (.int (7 : Int32)), .val (.ref s_N), .val (.ref s_N)] [(.ref s_N)])) rfl (by rw [hml]; rfl) (Steps.refl _) (argsL := []) (rest := []) (lenOf pd_6 rfl) rfl (by show 2 * 0 + _ ≤ _; exact Nat.le_of_eq rfl) (hb hby at_79) (fun _ _ => ⟨rfl, e4, (by decide : 2 + 0 ≤ _), (by decide : 3 + 0 ≤ _)⟩)
  dsimp only [Pt.U, Pt.locs, Pt.cells, Pt.slots] at X5 l5 y5 z5 st5 hQ5
  subst l5 y5 z5
  obtain ⟨rfl, N5q, e5⟩ := hQ5
  have N5 := Fr.app N2 N5q
  obtain ⟨fs, hr, hrun, hended, hW, hsame⟩ := X5.leave (v := some (.int (1 : Int32))) (fun h => by rw [Bd.returns] at h; cases h)
  refine ⟨_, _, pre0 _ ?_, hrun, hended, _, _, rfl, ?_, ⟨_, rfl⟩, hW, hsame.mono (by decide) (by decide)⟩
  · show Steps p.tables e below (s₁.setTop (mkF m 0 #[.val (.int (7 : Int32)), .val (.int p2), .unset, .unset, .unset, .unset] [])) _
    refine XS.iloadN X0.here hx rfl (hb hby at_0) rfl ?_
    show Steps p.tables e below (s₁.setTop (mkF m 1 #[.val (.int (7 : Int32)), .val (.int p2), .unset, .unset, .unset, .unset] [(.int p2)])) _
    refine XS.iconst X0.here hx rfl (hb hby at_1) ?_
    show Steps p.tables e below (s₁.setTop (mkF m 2 #[.val (.int (7 : Int32)), .val (.int p2), .unset, .unset, .unset, .unset] [(.int (3 : Int32)), (.int p2)])) _
    refine XS.iand X0.here hx rfl (hb hby at_2) rfl ?_
    show Steps p.tables e below (s₁.setTop (mkF m 3 #[.val (.int (7 : Int32)), .val (.int p2), .unset, .unset, .unset, .unset] [(.int (p2 &&& (3 : Int32)))])) _
    rw [hk]
    show Steps p.tables e below (s₁.setTop (mkF m 3 #[.val (.int (7 : Int32)), .val (.int p2), .unset, .unset, .unset, .unset] [(.int (3 : Int32))])) _
    refine XS.istoreN X0.here hx rfl (hb hby at_3) rfl (l' := #[.val (.int (7 : Int32)), .val (.int p2), .val (.int (3 : Int32)), .unset, .unset, .unset]) rfl ?_
    show Steps p.tables e below (s₁.setTop (mkF m 4 #[.val (.int (7 : Int32)), .val (.int p2), .val (.int (3 : Int32)), .unset, .unset, .unset] [])) _
    refine XS.iloadN X0.here hx rfl (hb hby at_4) rfl ?_
    show Steps p.tables e below (s₁.setTop (mkF m 5 #[.val (.int (7 : Int32)), .val (.int p2), .val (.int (3 : Int32)), .unset, .unset, .unset] [(.int (3 : Int32))])) _
    refine XS.ifYes X0.here hx rfl (pc0 := 5) (pc' := 12) rfl (hb hby at_5) rfl ((if0 _ _).trans (feq (by decide : ¬ ((3 : Int32) = (0 : Int32)))).2) (by decide) (by decide) ?_
    show Steps p.tables e below (s₁.setTop (mkF m 12 #[.val (.int (7 : Int32)), .val (.int p2), .val (.int (3 : Int32)), .unset, .unset, .unset] [])) _
    refine XS.iloadN X0.here hx rfl (hb hby at_12) rfl ?_
    show Steps p.tables e below (s₁.setTop (mkF m 13 #[.val (.int (7 : Int32)), .val (.int p2), .val (.int (3 : Int32)), .unset, .unset, .unset] [(.int (3 : Int32))])) _
    refine XS.iconst X0.here hx rfl (hb hby at_13) ?_
    show Steps p.tables e below (s₁.setTop (mkF m 14 #[.val (.int (7 : Int32)), .val (.int p2), .val (.int (3 : Int32)), .unset, .unset, .unset] [(.int (1 : Int32)), (.int (3 : Int32))])) _
    refine XS.icmpYes X0.here hx rfl (pc0 := 14) (pc' := 22) rfl (hb hby at_14) rfl (feq (by decide : ¬ ((3 : Int32) = (1 : Int32)))).2 (by decide) (by decide) ?_
    show Steps p.tables e below (s₁.setTop (mkF m 22 #[.val (.int (7 : Int32)), .val (.int p2), .val (.int (3 : Int32)), .unset, .unset, .unset] [])) _
    refine XS.iloadN X0.here hx rfl (hb hby at_22) rfl ?_
    show Steps p.tables e below (s₁.setTop (mkF m 23 #[.val (.int (7 : Int32)), .val (.int p2), .val (.int (3 : Int32)), .unset, .unset, .unset] [(.int (7 : Int32))])) _
    refine XS.istoreN X0.here hx rfl (hb hby at_23) rfl (l' := #[.val (.int (7 : Int32)), .val (.int p2), .val (.int (3 : Int32)), .val (.int (7 : Int32)), .unset, .unset]) rfl ?_
    show Steps p.tables e below (s₁.setTop (mkF m 24 #[.val (.int (7 : Int32)), .val (.int p2), .val (.int (3 : Int32)), .val (.int (7 : Int32)), .unset, .unset] [])) _
    refine XS.iloadN X0.here hx rfl (hb hby at_24) rfl ?_
    show Steps p.tables e below (s₁.setTop (mkF m 25 #[.val (.int (7 : Int32)), .val (.int p2), .val (.int (3 : Int32)), .val (.int (7 : Int32)), .unset, .unset] [(.int (7 : Int32))])) _
    refine st1 _ ?_
    show Steps p.tables e below (T1.setTop (mkF m 28 #[.val (.int (7 : Int32)), .val (.int p2), .val (.int (3 : Int32)), .val (.int (7 : Int32)), .unset, .unset] [(.ref t1)])) _
    refine XS.aconstNull X1.here hx rfl (hb hby at_28) ?_
    show Steps p.tables e below (T1.setTop (mkF m 29 #[.val (.int (7 : Int32)), .val (.int p2), .val (.int (3 : Int32)), .val (.int (7 : Int32)), .unset, .unset] [.null, (.ref t1)])) _
    refine st2.trans ?_
    show Steps p.tables e below (T2.setTop (mkF m 32 #[.val (.int (7 : Int32)), .val (.int p2), .val (.int (3 : Int32)), .val (.int (7 : Int32)), .unset, .unset] [(.ref s_N)])) _
    refine st3 _ ?_
    show Steps p.tables e below (T3.setTop (mkF m 35 #[.val (.int (7 : Int32)), .val (.int p2), .val (.int (3 : Int32)), .val (.int (7 : Int32)), .unset, .unset] [(.ref s_N)])) _
    refine XS.astore X3.here hx rfl (hb hby at_35) rfl rfl (l' := #[.val (.int (7 : Int32)), .val (.int p2), .val (.int (3 : Int32)), .val (.int (7 : Int32)), .val (.ref s_N), .unset]) rfl ?_
    show Steps p.tables e below (T3.setTop (mkF m 37 #[.val (.int (7 : Int32)), .val (.int p2), .val (.int (3 : Int32)), .val (.int (7 : Int32)), .val (.ref s_N), .unset] [])) _
    refine XS.iloadN X3.here hx rfl (hb hby at_37) rfl ?_
    show Steps p.tables e below (T3.setTop (mkF m 38 #[.val (.int (7 : Int32)), .val (.int p2), .val (.int (3 : Int32)), .val (.int (7 : Int32)), .val (.ref s_N), .unset] [(.int (7 : Int32))])) _
    refine XS.iconst X3.here hx rfl (hb hby at_38) ?_
    show Steps p.tables e below (T3.setTop (mkF m 39 #[.val (.int (7 : Int32)), .val (.int p2), .val (.int (3 : Int32)), .val (.int (7 : Int32)), .val (.ref s_N), .unset] [(.int (1 : Int32)), (.int (7 : Int32))])) _
    refine XS.icmpYes X3.here hx rfl (pc0 := 39) (pc' := 48) rfl (hb hby at_39) rfl (feq (by decide : ¬ ((7 : Int32) = (1 : Int32)))).2 (by decide) (by decide) ?_
    show Steps p.tables e below (T3.setTop (mkF m 48 #[.val (.int (7 : Int32)), .val (.int p2), .val (.int (3 : Int32)), .val (.int (7 : Int32)), .val (.ref s_N), .unset] [])) _
    refine XS.iloadN X3.here hx rfl (hb hby at_48) rfl ?_
    show Steps p.tables e below (T3.setTop (mkF m 49 #[.val (.int (7 : Int32)), .val (.int p2), .val (.int (3 : Int32)), .val (.int (7 : Int32)), .val (.ref s_N), .unset] [(.int (7 : Int32))])) _
    refine XS.bipush X3.here hx rfl (hb hby at_49) ?_
    show Steps p.tables e below (T3.setTop (mkF m 51 #[.val (.int (7 : Int32)), .val (.int p2), .val (.int (3 : Int32)), .val (.int (7 : Int32)), .val (.ref s_N), .unset] [(.int (7 : Int32)), (.int (7 : Int32))])) _
    refine XS.icmpNo X3.here hx rfl (hb hby at_51) rfl (teq (by decide : (7 : Int32) = (7 : Int32))).2 ?_
    show Steps p.tables e below (T3.setTop (mkF m 54 #[.val (.int (7 : Int32)), .val (.int p2), .val (.int (3 : Int32)), .val (.int (7 : Int32)), .val (.ref s_N), .unset] [])) _
    refine st4 _ ?_
    show Steps p.tables e below (T4.setTop (mkF m 57 #[.val (.int (7 : Int32)), .val (.int p2), .val (.int (3 : Int32)), .val (.int (7 : Int32)), .val (.ref s_N), .unset] [(.ref s_N)])) _
    refine XS.goto X4.here hx rfl (pc0 := 57) (pc' := 61) rfl (hb hby at_57) (by decide) (by decide) ?_
    show Steps p.tables e below (T4.setTop (mkF m 61 #[.val (.int (7 : Int32)), .val (.int p2), .val (.int (3 : Int32)), .val (.int (7 : Int32)), .val (.ref s_N), .unset] [(.ref s_N)])) _
    refine XS.astore X4.here hx rfl (hb hby at_61) rfl rfl (l' := #[.val (.int (7 : Int32)), .val (.int p2), .val (.int (3 : Int32)), .val (.int (7 : Int32)), .val (.ref s_N), .val (.ref s_N)]) rfl ?_
    show Steps p.tables e below (T4.setTop (mkF m 63 #[.val (.int (7 : Int32)), .val (.int p2), .val (.int (3 : Int32)), .val (.int (7 : Int32)), .val (.ref s_N), .val (.ref s_N)] [])) _
    refine XS.aload X4.here hx rfl (hb hby at_63) rfl rfl ?_
    show Steps p.tables e below (T4.setTop (mkF m 65 #[.val (.int (7 : Int32)), .val (.int p2), .val (.int (3 : Int32)), .val (.int (7 : Int32)), .val (.ref s_N), .val (.ref s_N)] [(.ref s_N)])) _
    refine XS.aload X4.here hx rfl (hb hby at_65) rfl rfl ?_
    show Steps p.tables e below (T4.setTop (mkF m 67 #[.val (.int (7 : Int32)), .val (.int p2), .val (.int (3 : Int32)), .val (.int (7 : Int32)), .val (.ref s_N), .val (.ref s_N)] [(.ref s_N), (.ref s_N)])) _
    refine Jvm.RoadKit.acmp (g := (mkF m 67 #[.val (.int (7 : Int32)), .val (.int p2), .val (.int (3 : Int32)), .val (.int (7 : Int32)), .val (.ref s_N), .val (.ref s_N)] [(.ref s_N), (.ref s_N)])) X4 hx rfl rfl rfl (pc0 := 67) (pc' := 72) (same := true) rfl (hb hby at_67) rfl (decide_eq_true rfl) (by decide) (by decide) ?_
    show Steps p.tables e below (T4.setTop (mkF m 72 #[.val (.int (7 : Int32)), .val (.int p2), .val (.int (3 : Int32)), .val (.int (7 : Int32)), .val (.ref s_N), .val (.ref s_N)] [])) _
    refine XS.aload X4.here hx rfl (hb hby at_72) rfl rfl ?_
    show Steps p.tables e below (T4.setTop (mkF m 74 #[.val (.int (7 : Int32)), .val (.int p2), .val (.int (3 : Int32)), .val (.int (7 : Int32)), .val (.ref s_N), .val (.ref s_N)] [(.ref s_N)])) _
    refine XS.ifnullNo X4.here hx rfl (hb hby at_74) rfl ?_
    show Steps p.tables e below (T4.setTop (mkF m 77 #[.val (.int (7 : Int32)), .val (.int p2), .val (.int (3 : Int32)), .val (.int (7 : Int32)), .val (.ref s_N), .val (.ref s_N)] [])) _
    refine XS.aload X4.here hx rfl (hb hby at_77) rfl rfl ?_
    show Steps p.tables e below (T4.setTop (mkF m 79 #[.val (.int (7 : Int32)), .val (.int p2), .val (.int (3 : Int32)), .val (.int (7 : Int32)), .val (.ref s_N), .val (.ref s_N)] [(.ref s_N)])) _
    refine st5.trans ?_
    show Steps p.tables e below (T5.setTop (mkF m 82 #[.val (.int (7 : Int32)), .val (.int p2), .val (.int (3 : Int32)), .val (.int (7 : Int32)), .val (.ref s_N), .val (.ref s_N)] [(.int (7 : Int32))])) _
    refine XS.iloadN X5.here hx rfl (hb hby at_82) rfl ?_
    show Steps p.tables e below (T5.setTop (mkF m 83 #[.val (.int (7 : Int32)), .val (.int p2), .val (.int (3 : Int32)), .val (.int (7 : Int32)), .val (.ref s_N), .val (.ref s_N)] [(.int (7 : Int32)), (.int (7 : Int32))])) _
    refine XS.icmpNo X5.here hx rfl (hb hby at_83) rfl (teq (by decide : (7 : Int32) = (7 : Int32))).2 ?_
    show Steps p.tables e below (T5.setTop (mkF m 86 #[.val (.int (7 : Int32)), .val (.int p2), .val (.int (3 : Int32)), .val (.int (7 : Int32)), .val (.ref s_N), .val (.ref s_N)] [])) _
    refine XS.iconst X5.here hx rfl (hb hby at_86) ?_
    show Steps p.tables e below (T5.setTop (mkF m 87 #[.val (.int (7 : Int32)), .val (.int p2), .val (.int (3 : Int32)), .val (.int (7 : Int32)), .val (.ref s_N), .val (.ref s_N)] [(.int (1 : Int32))])) _
    refine XS.goto X5.here hx rfl (pc0 := 87) (pc' := 91) rfl (hb hby at_87) (by decide) (by decide) ?_
    show Steps p.tables e below (T5.setTop (mkF m 91 #[.val (.int (7 : Int32)), .val (.int p2), .val (.int (3 : Int32)), .val (.int (7 : Int32)), .val (.ref s_N), .val (.ref s_N)] [(.int (1 : Int32))])) _
    exact retN X5 hx (t := .boolean) Bd.returns (by simp) (hb hby at_91) hr
  · show own_Qk (some (.int (1 : Int32))) h0 n0 _ T5.heap _
    rw [e5]
    exact ⟨rfl, N5, K1⟩
set_option maxRecDepth 65536 in
set_option maxHeartbeats 40000000 in
theorem r_law_3_n (l : Launch) (Z : State) (a0 : Array Value) (hw : ∀ d ∈ tables_1, d.before a0 Z = true) (ws : List Jvm.Cond) (s_V s_T s_N s_E : Addr) (cl_V : Cell) (h0 : Heap) (n0 : Nat) (O0 : Old Z n0 h0) (G : own_Ctx Z Z.heap s_V s_T s_N s_E cl_V) (p1 p2 : Int32) (hk : p2 &&& (3 : Int32) = (3 : Int32)) (h1 : ¬ (p1 = (1 : Int32))) (h7 : ¬ (p1 = (7 : Int32))) :
    MetFree l x (head1 (Jvm.Cond.code x code maxLocals ret :: ws) room_1) (fun a U => a = #[(.int p1), (.int p2)] ∧ Z.Warmed39 U.vm ∧ U.heap = h0) (fun _ _ _ _ _ => True) (fun _ U o U' => ∃ v L, o = .returned v ∧ own_Qk (some (.int (1 : Int32))) h0 n0 v U'.heap L ∧ FrameEnd U o U' L 16 128) := by
  have G0 := G
  obtain ⟨S_V, E_V, A_V, FC_V, L_V, Hs_V, Gf_V, S_T, E_T, F_T, S_N, E_N, F_N, S_E, E_E, F_E⟩ := G
  refine MetFree.of_bodySF (plainFor_of_name pn_3) hisR ?_
  intro p e s m args below meth c s₁ Bd hml0 hP hK
  obtain ⟨rfl, hZ, hh⟩ := hP
  have hx := Bd.exec
  have hby := Bd.bytes
  have hml : c.maxLocals = 6 := hml0
  have hown : s.vm.findClass "com/example/rubrique/rubrique/render/AreaByNumberPinLaw" = some m.cls := findClass_of_methodNamed Bd.named
  have hnm := (name_of_methodNamed Bd.named Bd.method).1
  have X0 : Stand p l e room_1 s m #[(.int p1), (.int p2)] below meth c s₁ [] 0 0 := Stand.of_body Bd
  have e0 : s₁.heap = h0 := by rw [← hh, Bd.state]; rfl
  have N0 := Fr.nil n0
  have pre0 : ∀ t, Steps p.tables e below (s₁.setTop (mkF m 0 #[.val (.int p1), .val (.int p2), .unset, .unset, .unset, .unset] [])) t → Steps p.tables e below (s₁.setTop (entryFrame m #[(.int p1), (.int p2)] maxLocals)) t := fun t k => castTop (ef_0_8 m p1 p2) k
  obtain ⟨_, _, ⟨T1, L1, k1, n1⟩, -, X1, ⟨Lc1, hQ1, l1, y1, z1⟩, st1⟩ := Jvm.LawKit.callS X0 hx (y := (⟨"com/example/rubrique/rubrique/render/Area", "byNumber", "(I)Ljava/util/Optional;"⟩ : MethodName)) hown (mvT hZ (hw _ (List.mem_of_getElem? (i := 0) rfl))) (mvT hZ (hw _ (List.mem_of_getElem? (i := 1) rfl))) (mvT hZ (hw _ (List.mem_of_getElem? (i := 2) rfl))) (mvT hZ (hw _ (List.mem_of_getElem? (i := 3) rfl))) (by decide) (backOf (W := 0) (r_byN l Z a0 hw [] s_V s_T s_N s_E cl_V h0 n0 O0 G0 p1 h1 h7) hZ (hw _ (List.mem_of_getElem? (i := 3) rfl)) (hw _ (List.mem_of_getElem? (i := 2) rfl)) (by decide) (by decide)) (g := (mkF m 25 #[.val (.int p1), .val (.int p2), .val (.int (3 : Int32)), .val (.int p1), .unset, .unset] [(.int p1)])) rfl (by rw [hml]; rfl) (argsL := [(.int p1)]) (rest := []) (lenOf pd_5 rfl) rfl (by show 2 * 0 + _ ≤ _; exact Nat.le_of_eq rfl) (hb hby at_25) (fun _ _ => ⟨rfl, e0, (by decide : 0 + 1 ≤ _), (by decide : 0 + 2 ≤ _)⟩)
  dsimp only [Pt.U, Pt.locs, Pt.cells, Pt.slots] at X1 l1 y1 z1 st1 hQ1
  subst l1 y1 z1
  obtain ⟨rfl, N1q, Kq1⟩ := hQ1
  have N1 := Fr.app N0 N1q
  have O1 := O0.keep Kq1 all0
  have K1 : Keep h0 T1.heap [] := (Keep.refl h0 []).trans Kq1 all0
  obtain ⟨cq2, kq2, q2a, q2b, q2c⟩ := isOf hZ rfl (E_E.ext O1.2)
  obtain ⟨_, _, ⟨T2, L2, k2, n2⟩, -, X2, ⟨Lc2, hQ2, l2, y2, z2⟩, st2⟩ := X1.virtualBack hx (y := (⟨"java/util/Optional", "orElse", "(Ljava/lang/Object;)Ljava/lang/Object;"⟩ : MethodName)) (z := (⟨"java/util/Optional", "orElse", "(Ljava/lang/Object;)Ljava/lang/Object;"⟩ : MethodName)) hown (mvT hZ (hw _ (List.mem_of_getElem? (i := 28) rfl))) (mvT hZ (hw _ (List.mem_of_getElem? (i := 29) rfl))) (notFace_of_selects (args := #[]) (mvT hZ (hw _ (List.mem_of_getElem? (i := 31) rfl)))) (mvT hZ (hw _ (List.mem_of_getElem? (i := 31) rfl))) (mvT hZ (hw _ (List.mem_of_getElem? (i := 30) rfl))) (by decide) (backOf (W := 0) (r_orE l Z a0 hw [] s_V s_T s_N s_E cl_V T1.heap n0 O1 G0) hZ (hw _ (List.mem_of_getElem? (i := 32) rfl)) (hw _ (List.mem_of_getElem? (i := 25) rfl)) (by decide) (by decide)) q2a q2c (g := (mkF m 29 #[.val (.int p1), .val (.int p2), .val (.int (3 : Int32)), .val (.int p1), .unset, .unset] [.null, (.ref s_E)])) rfl (by rw [hml]; rfl) (Steps.refl _) (argsL := [.null]) (rest := []) (lenOf pd_0 rfl) rfl (by show 2 * 0 + _ ≤ _; exact Nat.le_of_eq rfl) (hb hby at_29) (fun _ _ => ⟨rfl, rfl, (by decide : 1 + 0 ≤ _), (by decide : 2 + 0 ≤ _)⟩)
  dsimp only [Pt.U, Pt.locs, Pt.cells, Pt.slots] at X2 l2 y2 z2 st2 hQ2
  subst l2 y2 z2
  obtain ⟨rfl, N2q, e2⟩ := hQ2
  have N2 := Fr.app N1 N2q
  obtain ⟨fs, hr, hrun, hended, hW, hsame⟩ := X2.leave (v := some (.int (1 : Int32))) (fun h => by rw [Bd.returns] at h; cases h)
  refine ⟨_, _, pre0 _ ?_, hrun, hended, _, _, rfl, ?_, ⟨_, rfl⟩, hW, hsame.mono (by decide) (by decide)⟩
  · show Steps p.tables e below (s₁.setTop (mkF m 0 #[.val (.int p1), .val (.int p2), .unset, .unset, .unset, .unset] [])) _
    refine XS.iloadN X0.here hx rfl (hb hby at_0) rfl ?_
    show Steps p.tables e below (s₁.setTop (mkF m 1 #[.val (.int p1), .val (.int p2), .unset, .unset, .unset, .unset] [(.int p2)])) _
    refine XS.iconst X0.here hx rfl (hb hby at_1) ?_
    show Steps p.tables e below (s₁.setTop (mkF m 2 #[.val (.int p1), .val (.int p2), .unset, .unset, .unset, .unset] [(.int (3 : Int32)), (.int p2)])) _
    refine XS.iand X0.here hx rfl (hb hby at_2) rfl ?_
    show Steps p.tables e below (s₁.setTop (mkF m 3 #[.val (.int p1), .val (.int p2), .unset, .unset, .unset, .unset] [(.int (p2 &&& (3 : Int32)))])) _
    rw [hk]
    show Steps p.tables e below (s₁.setTop (mkF m 3 #[.val (.int p1), .val (.int p2), .unset, .unset, .unset, .unset] [(.int (3 : Int32))])) _
    refine XS.istoreN X0.here hx rfl (hb hby at_3) rfl (l' := #[.val (.int p1), .val (.int p2), .val (.int (3 : Int32)), .unset, .unset, .unset]) rfl ?_
    show Steps p.tables e below (s₁.setTop (mkF m 4 #[.val (.int p1), .val (.int p2), .val (.int (3 : Int32)), .unset, .unset, .unset] [])) _
    refine XS.iloadN X0.here hx rfl (hb hby at_4) rfl ?_
    show Steps p.tables e below (s₁.setTop (mkF m 5 #[.val (.int p1), .val (.int p2), .val (.int (3 : Int32)), .unset, .unset, .unset] [(.int (3 : Int32))])) _
    refine XS.ifYes X0.here hx rfl (pc0 := 5) (pc' := 12) rfl (hb hby at_5) rfl ((if0 _ _).trans (feq (by decide : ¬ ((3 : Int32) = (0 : Int32)))).2) (by decide) (by decide) ?_
    show Steps p.tables e below (s₁.setTop (mkF m 12 #[.val (.int p1), .val (.int p2), .val (.int (3 : Int32)), .unset, .unset, .unset] [])) _
    refine XS.iloadN X0.here hx rfl (hb hby at_12) rfl ?_
    show Steps p.tables e below (s₁.setTop (mkF m 13 #[.val (.int p1), .val (.int p2), .val (.int (3 : Int32)), .unset, .unset, .unset] [(.int (3 : Int32))])) _
    refine XS.iconst X0.here hx rfl (hb hby at_13) ?_
    show Steps p.tables e below (s₁.setTop (mkF m 14 #[.val (.int p1), .val (.int p2), .val (.int (3 : Int32)), .unset, .unset, .unset] [(.int (1 : Int32)), (.int (3 : Int32))])) _
    refine XS.icmpYes X0.here hx rfl (pc0 := 14) (pc' := 22) rfl (hb hby at_14) rfl (feq (by decide : ¬ ((3 : Int32) = (1 : Int32)))).2 (by decide) (by decide) ?_
    show Steps p.tables e below (s₁.setTop (mkF m 22 #[.val (.int p1), .val (.int p2), .val (.int (3 : Int32)), .unset, .unset, .unset] [])) _
    refine XS.iloadN X0.here hx rfl (hb hby at_22) rfl ?_
    show Steps p.tables e below (s₁.setTop (mkF m 23 #[.val (.int p1), .val (.int p2), .val (.int (3 : Int32)), .unset, .unset, .unset] [(.int p1)])) _
    refine XS.istoreN X0.here hx rfl (hb hby at_23) rfl (l' := #[.val (.int p1), .val (.int p2), .val (.int (3 : Int32)), .val (.int p1), .unset, .unset]) rfl ?_
    show Steps p.tables e below (s₁.setTop (mkF m 24 #[.val (.int p1), .val (.int p2), .val (.int (3 : Int32)), .val (.int p1), .unset, .unset] [])) _
    refine XS.iloadN X0.here hx rfl (hb hby at_24) rfl ?_
    show Steps p.tables e below (s₁.setTop (mkF m 25 #[.val (.int p1), .val (.int p2), .val (.int (3 : Int32)), .val (.int p1), .unset, .unset] [(.int p1)])) _
    refine st1 _ ?_
    show Steps p.tables e below (T1.setTop (mkF m 28 #[.val (.int p1), .val (.int p2), .val (.int (3 : Int32)), .val (.int p1), .unset, .unset] [(.ref s_E)])) _
    refine XS.aconstNull X1.here hx rfl (hb hby at_28) ?_
    show Steps p.tables e below (T1.setTop (mkF m 29 #[.val (.int p1), .val (.int p2), .val (.int (3 : Int32)), .val (.int p1), .unset, .unset] [.null, (.ref s_E)])) _
    refine st2.trans ?_
    show Steps p.tables e below (T2.setTop (mkF m 32 #[.val (.int p1), .val (.int p2), .val (.int (3 : Int32)), .val (.int p1), .unset, .unset] [.null])) _
    refine X2.checkcastNull hx (g := (mkF m 32 #[.val (.int p1), .val (.int p2), .val (.int (3 : Int32)), .val (.int p1), .unset, .unset] [.null])) rfl rfl (hb hby at_32) _ ?_
    show Steps p.tables e below (T2.setTop (mkF m 35 #[.val (.int p1), .val (.int p2), .val (.int (3 : Int32)), .val (.int p1), .unset, .unset] [.null])) _
    refine XS.astore X2.here hx rfl (hb hby at_35) rfl rfl (l' := #[.val (.int p1), .val (.int p2), .val (.int (3 : Int32)), .val (.int p1), .val .null, .unset]) rfl ?_
    show Steps p.tables e below (T2.setTop (mkF m 37 #[.val (.int p1), .val (.int p2), .val (.int (3 : Int32)), .val (.int p1), .val .null, .unset] [])) _
    refine XS.iloadN X2.here hx rfl (hb hby at_37) rfl ?_
    show Steps p.tables e below (T2.setTop (mkF m 38 #[.val (.int p1), .val (.int p2), .val (.int (3 : Int32)), .val (.int p1), .val .null, .unset] [(.int p1)])) _
    refine XS.iconst X2.here hx rfl (hb hby at_38) ?_
    show Steps p.tables e below (T2.setTop (mkF m 39 #[.val (.int p1), .val (.int p2), .val (.int (3 : Int32)), .val (.int p1), .val .null, .unset] [(.int (1 : Int32)), (.int p1)])) _
    refine XS.icmpYes X2.here hx rfl (pc0 := 39) (pc' := 48) rfl (hb hby at_39) rfl (feq (h1 : ¬ (p1 = (1 : Int32)))).2 (by decide) (by decide) ?_
    show Steps p.tables e below (T2.setTop (mkF m 48 #[.val (.int p1), .val (.int p2), .val (.int (3 : Int32)), .val (.int p1), .val .null, .unset] [])) _
    refine XS.iloadN X2.here hx rfl (hb hby at_48) rfl ?_
    show Steps p.tables e below (T2.setTop (mkF m 49 #[.val (.int p1), .val (.int p2), .val (.int (3 : Int32)), .val (.int p1), .val .null, .unset] [(.int p1)])) _
    refine XS.bipush X2.here hx rfl (hb hby at_49) ?_
    show Steps p.tables e below (T2.setTop (mkF m 51 #[.val (.int p1), .val (.int p2), .val (.int (3 : Int32)), .val (.int p1), .val .null, .unset] [(.int (7 : Int32)), (.int p1)])) _
    refine XS.icmpYes X2.here hx rfl (pc0 := 51) (pc' := 60) rfl (hb hby at_51) rfl (feq (h7 : ¬ (p1 = (7 : Int32)))).2 (by decide) (by decide) ?_
    show Steps p.tables e below (T2.setTop (mkF m 60 #[.val (.int p1), .val (.int p2), .val (.int (3 : Int32)), .val (.int p1), .val .null, .unset] [])) _
    refine XS.aconstNull X2.here hx rfl (hb hby at_60) ?_
    show Steps p.tables e below (T2.setTop (mkF m 61 #[.val (.int p1), .val (.int p2), .val (.int (3 : Int32)), .val (.int p1), .val .null, .unset] [.null])) _
    refine XS.astore X2.here hx rfl (hb hby at_61) rfl rfl (l' := #[.val (.int p1), .val (.int p2), .val (.int (3 : Int32)), .val (.int p1), .val .null, .val .null]) rfl ?_
    show Steps p.tables e below (T2.setTop (mkF m 63 #[.val (.int p1), .val (.int p2), .val (.int (3 : Int32)), .val (.int p1), .val .null, .val .null] [])) _
    refine XS.aload X2.here hx rfl (hb hby at_63) rfl rfl ?_
    show Steps p.tables e below (T2.setTop (mkF m 65 #[.val (.int p1), .val (.int p2), .val (.int (3 : Int32)), .val (.int p1), .val .null, .val .null] [.null])) _
    refine XS.aload X2.here hx rfl (hb hby at_65) rfl rfl ?_
    show Steps p.tables e below (T2.setTop (mkF m 67 #[.val (.int p1), .val (.int p2), .val (.int (3 : Int32)), .val (.int p1), .val .null, .val .null] [.null, .null])) _
    refine Jvm.RoadKit.acmp (g := (mkF m 67 #[.val (.int p1), .val (.int p2), .val (.int (3 : Int32)), .val (.int p1), .val .null, .val .null] [.null, .null])) X2 hx rfl rfl rfl (pc0 := 67) (pc' := 72) (same := true) rfl (hb hby at_67) rfl (decide_eq_true rfl) (by decide) (by decide) ?_
    show Steps p.tables e below (T2.setTop (mkF m 72 #[.val (.int p1), .val (.int p2), .val (.int (3 : Int32)), .val (.int p1), .val .null, .val .null] [])) _
    refine XS.aload X2.here hx rfl (hb hby at_72) rfl rfl ?_
    show Steps p.tables e below (T2.setTop (mkF m 74 #[.val (.int p1), .val (.int p2), .val (.int (3 : Int32)), .val (.int p1), .val .null, .val .null] [.null])) _
    refine XS.ifnullYes X2.here hx rfl (pc0 := 74) (pc' := 86) rfl (hb hby at_74) rfl (by decide) (by decide) ?_
    show Steps p.tables e below (T2.setTop (mkF m 86 #[.val (.int p1), .val (.int p2), .val (.int (3 : Int32)), .val (.int p1), .val .null, .val .null] [])) _
    refine XS.iconst X2.here hx rfl (hb hby at_86) ?_
    show Steps p.tables e below (T2.setTop (mkF m 87 #[.val (.int p1), .val (.int p2), .val (.int (3 : Int32)), .val (.int p1), .val .null, .val .null] [(.int (1 : Int32))])) _
    refine XS.goto X2.here hx rfl (pc0 := 87) (pc' := 91) rfl (hb hby at_87) (by decide) (by decide) ?_
    show Steps p.tables e below (T2.setTop (mkF m 91 #[.val (.int p1), .val (.int p2), .val (.int (3 : Int32)), .val (.int p1), .val .null, .val .null] [(.int (1 : Int32))])) _
    exact retN X2 hx (t := .boolean) Bd.returns (by simp) (hb hby at_91) hr
  · show own_Qk (some (.int (1 : Int32))) h0 n0 _ T2.heap _
    rw [e2]
    exact ⟨rfl, N2, K1⟩
theorem own_law (l : Launch) (Z : State) (a0 : Array Value) (hw : ∀ d ∈ tables_1, d.before a0 Z = true) (ws : List Jvm.Cond) (s_V s_T s_N s_E : Addr) (cl_V : Cell) (h0 : Heap) (n0 : Nat) (O0 : Old Z n0 h0) (G : own_Ctx Z Z.heap s_V s_T s_N s_E cl_V) (p1 p2 : Int32) : MetFree l x (head1 (Jvm.Cond.code x code maxLocals ret :: ws) room_1) (fun a U => a = #[(.int p1), (.int p2)] ∧ Z.Warmed39 U.vm ∧ U.heap = h0) (fun _ _ _ _ _ => True) (fun _ U o U' => ∃ v L, o = .returned v ∧ own_Qk (some (.int (1 : Int32))) h0 n0 v U'.heap L ∧ FrameEnd U o U' L 16 128) := by
  rcases own_and p2 with hk | hk | hk | hk
  · exact r_law_0 l Z a0 hw ws s_V s_T s_N s_E cl_V h0 n0 O0 G p1 p2 hk
  · exact r_law_1 l Z a0 hw ws s_V s_T s_N s_E cl_V h0 n0 O0 G p1 p2 hk
  · by_cases h1 : p1 = (1 : Int32)
    · subst h1; exact r_law_2_1 l Z a0 hw ws s_V s_T s_N s_E cl_V h0 n0 O0 G p2 hk
    · by_cases h7 : p1 = (7 : Int32)
      · subst h7; exact r_law_2_7 l Z a0 hw ws s_V s_T s_N s_E cl_V h0 n0 O0 G p2 hk
      · exact r_law_2_n l Z a0 hw ws s_V s_T s_N s_E cl_V h0 n0 O0 G p1 p2 hk h1 h7
  · by_cases h1 : p1 = (1 : Int32)
    · subst h1; exact r_law_3_1 l Z a0 hw ws s_V s_T s_N s_E cl_V h0 n0 O0 G p2 hk
    · by_cases h7 : p1 = (7 : Int32)
      · subst h7; exact r_law_3_7 l Z a0 hw ws s_V s_T s_N s_E cl_V h0 n0 O0 G p2 hk
      · exact r_law_3_n l Z a0 hw ws s_V s_T s_N s_E cl_V h0 n0 O0 G p1 p2 hk h1 h7
set_option maxRecDepth 65536 in
set_option maxHeartbeats 40000000 in
theorem comes_1 {Post : Tables → Env → Array Value → State → Outcome → State → Prop} (hpost : ∀ tb e args s v u, (limb_1_1.after args s (.returned v) u = true ∧ limb_1_2.after args s (.returned v) u = true ∧ True) → FrameEnd s (.returned v) u (Jvm.fieldLocs frame_1_writes args s ++ Jvm.arrayLocs frame_1_arrays args s ++ Jvm.staticLocs frame_1_statics s) 16 128 → Post tb e args s (.returned v) u) :
    ArmFor flags0 classFile x code maxLocals ret World_1 tables_1 room_1 Calls_1 rest_1 Pre_1 Post := by
  intro l hfl _ _ p e ha hc hk s m args below hf hA hF happ hP
  obtain ⟨hcalls, hrest, hpre⟩ := hP
  obtain ⟨-, -, -, hnamed, -, -, -, hat⟩ := (Spec.applies_iff hf).mp happ
  obtain ⟨hg, hn⟩ := and_e (Cond.before_iff.mp (show (Jvm.Cond.and given_1 narrow_1).before args s = true from hpre))
  obtain ⟨hg0, hg1⟩ := and_e hg
  obtain ⟨hg10, hg11⟩ := and_e hg1
  obtain ⟨w0, w1, rfl⟩ : ∃ w0 w1 : Value, args = #[w0, w1] := by
    have hs : args.size = 2 := by simpa [Cond.value, given_1] using hg0
    obtain ⟨L⟩ := args
    match L, hs with
    | [w0, w1], _ => exact ⟨w0, w1, rfl⟩
  obtain ⟨i0, ei0⟩ := is_v hg10
  obtain rfl : w0 = (.int i0) := Option.some.inj ei0
  obtain ⟨i1, ei1⟩ := is_v hg11
  obtain rfl : w1 = (.int i1) := Option.some.inj ei1
  have hw := fun d (hd : d ∈ tables_1) => atoms_spec (ws := Jvm.Cond.code x code maxLocals ret :: tables_1) hat d (List.mem_cons_of_mem _ hd)
  have hfit : Fit s := fun {y c} hc i hi => by
    obtain ⟨ha, rfl⟩ := Array.getElem?_eq_some_iff.mp hc
    have q := List.all_eq_true.mp ((Array.all_eq_true_iff_forall_mem.mp hF) _ (Array.getElem_mem ha)) i (List.mem_range.mpr hi)
    simpa [Array.getElem?_eq_getElem hi] using q
  obtain ⟨hn0, hn1⟩ := and_e hn
  obtain ⟨hn10, hn11⟩ := and_e hn1
  obtain ⟨hn110, hn111⟩ := and_e hn11
  obtain ⟨hn1110, hn1111⟩ := and_e hn111
  obtain ⟨hn11110, hn11111⟩ := and_e hn1111
  obtain ⟨hn111110, hn111111⟩ := and_e hn11111
  obtain ⟨hn1111110, hn1111111⟩ := and_e hn111111
  obtain ⟨hn11111110, hn11111111⟩ := and_e hn1111111
  obtain ⟨hsets, hown0⟩ := atoms_of _ (rest_1_c_eq ▸ (show rest_1_c.before _ s = true from hrest))
  obtain ⟨s_V, ev_V⟩ := exa_v hn10
  have E_V := Exa.start ev_V hn10
  have S_V := Sta.start ev_V (Or.inr ⟨(hw _ (List.mem_of_getElem? (i := 2) rfl)), (hw _ (List.mem_of_getElem? (i := 8) rfl))⟩)
  obtain ⟨s_T, ev_T⟩ := exa_v hn1110
  have E_T := Exa.start ev_T hn1110
  have S_T := Sta.start ev_T (Or.inr ⟨(hw _ (List.mem_of_getElem? (i := 2) rfl)), (hw _ (List.mem_of_getElem? (i := 16) rfl))⟩)
  have F_T := Fld.start ((fld_at ev_T).symm.trans (own_eqI hn11111110))
  obtain ⟨s_N, ev_N⟩ := exa_v hn111110
  have E_N := Exa.start ev_N hn111110
  have S_N := Sta.start ev_N (Or.inr ⟨(hw _ (List.mem_of_getElem? (i := 2) rfl)), (hw _ (List.mem_of_getElem? (i := 17) rfl))⟩)
  have F_N := Fld.start ((fld_at ev_N).symm.trans (own_eqI hn11111111))
  have q2 := Cond.before_iff.mp (hsets _ (List.mem_of_getElem? (i := 2) rfl))
  obtain ⟨s_E, ev_E⟩ := exa_v q2
  have E_E := Exa.start ev_E q2
  have S_E := Sta.start ev_E (Or.inl (hsets _ (List.mem_of_getElem? (i := 1) rfl)))
  have F_E := Fld.start ((fld_at ev_E).symm.trans (null_v (Cond.before_iff.mp (hsets _ (List.mem_of_getElem? (i := 3) rfl)))))
  obtain ⟨cl_V, A_V⟩ := Arr.start ev_V hn0
  have FC_V := FitC.start hfit A_V
  obtain ⟨z1, z2⟩ := own_len A_V ev_V (own_eqI hn110)
  have el0 := own_eqR hn11110 ev_T
  have el1 := own_eqR hn1111110 ev_N
  have f0 := (elem_in el0 ev_V (Term.int_eval 0) A_V.1)
  have f1 := (elem_in el1 ev_V (Term.int_eval 1) A_V.1)
  obtain ⟨c9, A9, -, S9, -, H9, G9⟩ : Arv s s.heap s_V cl_V.cls (.object "com/example/rubrique/rubrique/render/Area") (2 : Int32) [(.ref s_T), (.ref s_N)] .null := Arv.start hfit A_V z1 z2 (by decide) rfl ⟨f0.2, f1.2, trivial⟩
  obtain rfl : cl_V = c9 := Option.some.inj (A_V.1.symm.trans A9.1)
  have G : own_Ctx s s.heap s_V s_T s_N s_E cl_V := ⟨S_V, E_V, A_V, FC_V, S9, H9, G9, S_T, E_T, F_T, S_N, E_N, F_N, S_E, E_E, F_E⟩
  obtain ⟨n, o, h1, h2, h3, _, L, rfl, ⟨rfl, N, -⟩, hq⟩ := own_law l s _ hw tables_1 s_V s_T s_N s_E cl_V s.heap s.heap.size (Old.start s) G i0 i1 p e ha hc hk s m _ below hf ((Spec.applies_iff_loose hf).mp happ).1 ⟨rfl, State.Warmed39.refl s, rfl⟩ trivial
  refine ⟨n, _, h1, h2, h3, hpost _ _ _ _ _ _ ⟨Cond.after_iff.mpr rfl, Cond.after_iff.mpr (eq_i res_at (Term.int_eval (1)) rfl), trivial⟩ ⟨hq.1, hq.2.1, (hq.2.2.sift fun y hy => Or.inr (N y hy)).mono (by decide) (by decide)⟩⟩
theorem main_1_1 : Claimed_1_1 := comes_1 fun _ _ _ _ _ _ h hF => ⟨h.1, hF⟩
theorem main_1_2 : Claimed_1_2 := comes_1 fun _ _ _ _ _ _ h hF => ⟨h.2.1, hF⟩
end Jvm.Pilot.@@N@@
namespace Jvm.Pilot.@@N@@
open Jvm Jvm.ClassFile Sem Op Lib Jvm.Free Jvm.Stand Jvm.Pilot.@@N@@.Jvm.D
/-! MADE BY PROGRAM (witnessworld.py) out of the Statement's table words and the real class files: 15 classes; the members and pool entries that the words name. The judged class is class 1, her method 1. -/
namespace start1
open Jvm.ClassFile
def u (s : String) : CpInfo := .utf8 (stringToUtf16 s)
/-- a pool by its gaps: so many unusable entries, then the entry; so many at the end -/
def gap : Nat → List CpInfo → List CpInfo
  | 0, r => r
  | n + 1, r => .unusable :: gap n r
def poolList (es : List (Nat × CpInfo)) (last : Nat) : List CpInfo := es.foldr (fun e r => gap e.1 (e.2 :: r)) (gap last [])
def pool (es : List (Nat × CpInfo)) (last : Nat) : Array CpInfo := ⟨poolList es last⟩
def fileOf (pool : Array CpInfo) (this : Nat) (attrs : Array Attribute := #[]) (ms : Array MethodInfo := #[]) (fl : Nat := 33) (sup : Nat := 0) (ifs : Array Nat := #[]) (fds : Array FieldInfo := #[]) : ClassFile where
  minorVersion := 0
  majorVersion := 65
  constantPool := pool
  accessFlags := fl
  thisClass := this
  superClass := sup
  interfaces := ifs
  fields := fds
  methods := ms
  attributes := attrs
def plain (name : String) (sup : Option ClassId) : Class where
  name := name
  kind := .ordinary
  loader := none
  accessFlags := 33
  super := sup
  interfaces := #[]
  cf := none
  fields := #[]
  methods := #[]
  instanceTypes := #[]
  staticTypes := #[]
  resolved := #[]
  callSites := []
  init := .initialized
  statics := none
  mirror := none

def pool0 : Array CpInfo := pool [(5, u "<init>"), (0, u "()V"), (1, .class_ 10), (1, u "java/lang/Object"), (85, u "clone"), (0, u "()Ljava/lang/Object;")] 26

def k0c0 : Code := { maxStack := 0, maxLocals := 1, code := object_method_1_code, exceptionTable := #[], attributes := #[] }
def k0m0 : Method := { name := "<init>", desc := "()V", sig := { parameters := [], returnType := none }, accessFlags := 1, code := some k0c0 }
def k0m1 : Method := { name := "clone", desc := "()Ljava/lang/Object;", sig := { parameters := [], returnType := some (.object "java/lang/Object") }, accessFlags := 260, code := none }
/-- java/lang/Object -/
def k0 : Class := { plain "java/lang/Object" none with
  accessFlags := 33
  interfaces := #[]
  cf := some (fileOf pool0 8 #[] #[{ accessFlags := 1, nameIndex := 5, descriptorIndex := 6, attributes := #[] }, { accessFlags := 260, nameIndex := 96, descriptorIndex := 97, attributes := #[] }] 33 0 #[] #[])
  fields := #[]
  methods := #[k0m0, k0m1]
  instanceTypes := #[]
  staticTypes := #[]
  resolved := Array.replicate 124 none
  statics := none }

def pool1 : Array CpInfo := pool [(2, .class_ 4), (1, u "java/lang/Object"), (0, u "<init>"), (0, u "()V"), (0, .methodref 8 9), (0, .class_ 10), (0, .nameAndType 11 12), (0, u "com/example/rubrique/rubrique/render/Area"), (0, u "byNumber"), (0, u "(I)Ljava/util/Optional;"), (0, .methodref 14 15), (0, .class_ 16), (0, .nameAndType 17 18), (0, u "java/util/Optional"), (0, u "orElse"), (0, u "(Ljava/lang/Object;)Ljava/lang/Object;"), (0, .fieldref 8 20), (0, .nameAndType 21 22), (0, u "TITLE"), (0, u "Lcom/example/rubrique/rubrique/render/Area;"), (0, .fieldref 8 24), (0, .nameAndType 25 22), (0, u "NOTES"), (0, .methodref 8 27), (0, .nameAndType 28 29), (0, u "number"), (0, u "()I"), (0, .class_ 31), (0, u "com/example/rubrique/rubrique/render/AreaByNumberPinLaw"), (2, u "law"), (0, u "(II)Z")] 3

def k1m0 : Method := { name := "<init>", desc := "()V", sig := { parameters := [], returnType := none }, accessFlags := 2, code := none }
def k1c1 : Code := { maxStack := 2, maxLocals := 6, code := code, exceptionTable := #[], attributes := #[] }
def k1m1 : Method := { name := "law", desc := "(II)Z", sig := { parameters := [.int, .int], returnType := some .boolean }, accessFlags := 9, code := some k1c1 }
/-- com/example/rubrique/rubrique/render/AreaByNumberPinLaw -/
def k1 : Class := { plain "com/example/rubrique/rubrique/render/AreaByNumberPinLaw" (some 0) with
  accessFlags := 49
  interfaces := #[]
  cf := some (fileOf pool1 30 #[] #[{ accessFlags := 2, nameIndex := 5, descriptorIndex := 6, attributes := #[] }, { accessFlags := 9, nameIndex := 34, descriptorIndex := 35, attributes := #[] }] 49 2 #[] #[])
  fields := #[]
  methods := #[k1m0, k1m1]
  instanceTypes := #[]
  staticTypes := #[]
  resolved := Array.replicate 39 none
  statics := none }

def pool2 : Array CpInfo := pool [(1, .class_ 2), (0, u "java/lang/constant/Constable"), (0, .class_ 4), (0, u "java/lang/Object")] 6

/-- java/lang/constant/Constable -/
def k2 : Class := { plain "java/lang/constant/Constable" (some 0) with
  accessFlags := 1537
  interfaces := #[]
  cf := some (fileOf pool2 1 #[] #[] 1537 3 #[] #[])
  fields := #[]
  methods := #[]
  instanceTypes := #[]
  staticTypes := #[]
  resolved := Array.replicate 11 none
  statics := none }

def pool3 : Array CpInfo := pool [(1, .class_ 2), (0, u "java/lang/Comparable"), (0, .class_ 4), (0, u "java/lang/Object")] 7

/-- java/lang/Comparable -/
def k3 : Class := { plain "java/lang/Comparable" (some 0) with
  accessFlags := 1537
  interfaces := #[]
  cf := some (fileOf pool3 1 #[] #[] 1537 3 #[] #[])
  fields := #[]
  methods := #[]
  instanceTypes := #[]
  staticTypes := #[]
  resolved := Array.replicate 12 none
  statics := none }

def pool4 : Array CpInfo := pool [(1, .class_ 2), (0, u "java/io/Serializable"), (0, .class_ 4), (0, u "java/lang/Object")] 2

/-- java/io/Serializable -/
def k4 : Class := { plain "java/io/Serializable" (some 0) with
  accessFlags := 1537
  interfaces := #[]
  cf := some (fileOf pool4 1 #[] #[] 1537 3 #[] #[])
  fields := #[]
  methods := #[]
  instanceTypes := #[]
  staticTypes := #[]
  resolved := Array.replicate 7 none
  statics := none }

def pool5 : Array CpInfo := pool [(2, .class_ 4), (1, u "java/lang/Enum"), (0, u "name"), (0, u "Ljava/lang/String;"), (2, u "ordinal"), (0, u "I"), (1, .class_ 14), (1, u "java/lang/Object"), (4, u "hash"), (86, .class_ 108), (1, u "java/lang/Enum$EnumDesc"), (2, .class_ 112), (0, u "java/lang/constant/Constable"), (0, .class_ 114), (0, u "java/lang/Comparable"), (0, .class_ 116), (0, u "java/io/Serializable")] 87

/-- java/lang/Enum -/
def k5 : Class := { plain "java/lang/Enum" (some 0) with
  accessFlags := 1057
  interfaces := #[2, 3, 4]
  cf := some (fileOf pool5 2 #[.nestMembers #[106]] #[] 1057 12 #[111, 113, 115] #[{ accessFlags := 18, nameIndex := 5, descriptorIndex := 6, attributes := #[] }, { accessFlags := 18, nameIndex := 9, descriptorIndex := 10, attributes := #[] }, { accessFlags := 2, nameIndex := 19, descriptorIndex := 10, attributes := #[] }])
  fields := #[{ name := "name", type := (.object "java/lang/String"), accessFlags := 18, slot := 0, constantValue := 0 }, { name := "ordinal", type := .int, accessFlags := 18, slot := 1, constantValue := 0 }, { name := "hash", type := .int, accessFlags := 2, slot := 2, constantValue := 0 }]
  methods := #[]
  instanceTypes := #[(.object "java/lang/String"), .int, .int]
  staticTypes := #[]
  resolved := Array.replicate 204 none
  statics := none }

def pool6 : Array CpInfo := pool [(1, .class_ 2), (0, u "com/example/rubrique/rubrique/render/Area"), (2, u "TITLE"), (0, u "Lcom/example/rubrique/rubrique/render/Area;"), (2, u "NOTES"), (0, .fieldref 1 11), (0, .nameAndType 12 13), (0, u "$VALUES"), (0, u "[Lcom/example/rubrique/rubrique/render/Area;"), (0, .methodref 15 16), (0, .class_ 13), (0, .nameAndType 17 18), (0, u "clone"), (0, u "()Ljava/lang/Object;"), (1, .class_ 22), (1, u "java/lang/Enum"), (6, .fieldref 1 30), (0, .nameAndType 31 32), (0, u "number"), (0, u "I"), (2, u "renderer"), (0, u "Ljava/util/function/Function;"), (0, .methodref 1 38), (0, .nameAndType 39 40), (0, u "values"), (0, u "()[Lcom/example/rubrique/rubrique/render/Area;"), (0, .methodref 42 43), (0, .class_ 44), (0, .nameAndType 45 46), (0, u "java/util/Optional"), (0, u "of"), (0, u "(Ljava/lang/Object;)Ljava/util/Optional;"), (0, .methodref 42 48), (0, .nameAndType 49 50), (0, u "empty"), (0, u "()Ljava/util/Optional;"), (68, u "SEPARATOR"), (0, u "Ljava/lang/String;"), (8, u "()I"), (0, u "byNumber"), (0, u "(I)Ljava/util/Optional;")] 60

def k6c0 : Code := { maxStack := 1, maxLocals := 0, code := prog_41_method_1_code, exceptionTable := #[], attributes := #[] }
def k6m0 : Method := { name := "values", desc := "()[Lcom/example/rubrique/rubrique/render/Area;", sig := { parameters := [], returnType := some (.array (.object "com/example/rubrique/rubrique/render/Area")) }, accessFlags := 9, code := some k6c0 }
def k6c1 : Code := { maxStack := 1, maxLocals := 1, code := prog_41_method_4_code, exceptionTable := #[], attributes := #[] }
def k6m1 : Method := { name := "number", desc := "()I", sig := { parameters := [], returnType := some .int }, accessFlags := 1, code := some k6c1 }
def k6c2 : Code := { maxStack := 2, maxLocals := 5, code := prog_41_method_5_code, exceptionTable := #[], attributes := #[] }
def k6m2 : Method := { name := "byNumber", desc := "(I)Ljava/util/Optional;", sig := { parameters := [.int], returnType := some (.object "java/util/Optional") }, accessFlags := 9, code := some k6c2 }
/-- com/example/rubrique/rubrique/render/Area -/
def k6 : Class := { plain "com/example/rubrique/rubrique/render/Area" (some 5) with
  accessFlags := 16433
  interfaces := #[]
  cf := some (fileOf pool6 1 #[] #[{ accessFlags := 9, nameIndex := 39, descriptorIndex := 40, attributes := #[] }, { accessFlags := 1, nameIndex := 31, descriptorIndex := 129, attributes := #[] }, { accessFlags := 9, nameIndex := 130, descriptorIndex := 131, attributes := #[] }] 16433 20 #[] #[{ accessFlags := 16409, nameIndex := 5, descriptorIndex := 6, attributes := #[] }, { accessFlags := 16409, nameIndex := 9, descriptorIndex := 6, attributes := #[] }, { accessFlags := 24, nameIndex := 119, descriptorIndex := 120, attributes := #[] }, { accessFlags := 18, nameIndex := 31, descriptorIndex := 32, attributes := #[] }, { accessFlags := 18, nameIndex := 35, descriptorIndex := 36, attributes := #[] }, { accessFlags := 4122, nameIndex := 12, descriptorIndex := 13, attributes := #[] }])
  fields := #[{ name := "TITLE", type := (.object "com/example/rubrique/rubrique/render/Area"), accessFlags := 16409, slot := 0, constantValue := 0 }, { name := "NOTES", type := (.object "com/example/rubrique/rubrique/render/Area"), accessFlags := 16409, slot := 1, constantValue := 0 }, { name := "SEPARATOR", type := (.object "java/lang/String"), accessFlags := 24, slot := 2, constantValue := 0 }, { name := "number", type := .int, accessFlags := 18, slot := 3, constantValue := 0 }, { name := "renderer", type := (.object "java/util/function/Function"), accessFlags := 18, slot := 4, constantValue := 0 }, { name := "$VALUES", type := (.array (.object "com/example/rubrique/rubrique/render/Area")), accessFlags := 4122, slot := 3, constantValue := 0 }]
  methods := #[k6m0, k6m1, k6m2]
  instanceTypes := #[(.object "java/lang/String"), .int, .int, .int, (.object "java/util/function/Function")]
  staticTypes := #[(.object "com/example/rubrique/rubrique/render/Area"), (.object "com/example/rubrique/rubrique/render/Area"), (.object "java/lang/String"), (.array (.object "com/example/rubrique/rubrique/render/Area"))]
  resolved := Array.replicate 192 none
  statics := some 0 }

def pool7 : Array CpInfo := pool [(1, .class_ 2), (0, u "java/lang/Cloneable"), (0, .class_ 4), (0, u "java/lang/Object")] 2

/-- java/lang/Cloneable -/
def k7 : Class := { plain "java/lang/Cloneable" (some 0) with
  accessFlags := 1537
  interfaces := #[]
  cf := some (fileOf pool7 1 #[] #[] 1537 3 #[] #[])
  fields := #[]
  methods := #[]
  instanceTypes := #[]
  staticTypes := #[]
  resolved := Array.replicate 7 none
  statics := none }

def pool8 : Array CpInfo := pool [(1, .fieldref 2 3), (0, .class_ 4), (0, .nameAndType 5 6), (0, u "java/util/Optional"), (0, u "EMPTY"), (0, u "Ljava/util/Optional;"), (0, .methodref 8 9), (0, .class_ 10), (0, .nameAndType 11 12), (0, u "java/lang/Object"), (0, u "<init>"), (0, u "()V"), (0, .fieldref 2 14), (0, .nameAndType 15 16), (0, u "value"), (0, u "Ljava/lang/Object;"), (0, .methodref 18 19), (0, .class_ 20), (0, .nameAndType 21 22), (0, u "java/util/Objects"), (0, u "requireNonNull"), (0, u "(Ljava/lang/Object;)Ljava/lang/Object;"), (0, .methodref 2 24), (0, .nameAndType 11 25), (0, u "(Ljava/lang/Object;)V"), (29, u "empty"), (0, u "()Ljava/util/Optional;"), (8, u "(Ljava/lang/Object;)Ljava/util/Optional;"), (16, u "of"), (82, u "orElse")] 21

def k8c0 : Code := { maxStack := 1, maxLocals := 1, code := jdk_32_method_1_code, exceptionTable := #[], attributes := #[] }
def k8m0 : Method := { name := "empty", desc := "()Ljava/util/Optional;", sig := { parameters := [], returnType := some (.object "java/util/Optional") }, accessFlags := 9, code := some k8c0 }
def k8c1 : Code := { maxStack := 2, maxLocals := 2, code := jdk_32_method_2_code, exceptionTable := #[], attributes := #[] }
def k8m1 : Method := { name := "<init>", desc := "(Ljava/lang/Object;)V", sig := { parameters := [(.object "java/lang/Object")], returnType := none }, accessFlags := 2, code := some k8c1 }
def k8c2 : Code := { maxStack := 3, maxLocals := 1, code := jdk_32_method_3_code, exceptionTable := #[], attributes := #[] }
def k8m2 : Method := { name := "of", desc := "(Ljava/lang/Object;)Ljava/util/Optional;", sig := { parameters := [(.object "java/lang/Object")], returnType := some (.object "java/util/Optional") }, accessFlags := 9, code := some k8c2 }
def k8c3 : Code := { maxStack := 1, maxLocals := 2, code := jdk_32_method_15_code, exceptionTable := #[], attributes := #[] }
def k8m3 : Method := { name := "orElse", desc := "(Ljava/lang/Object;)Ljava/lang/Object;", sig := { parameters := [(.object "java/lang/Object")], returnType := some (.object "java/lang/Object") }, accessFlags := 1, code := some k8c3 }
/-- java/util/Optional -/
def k8 : Class := { plain "java/util/Optional" (some 0) with
  accessFlags := 49
  interfaces := #[]
  cf := some (fileOf pool8 2 #[] #[{ accessFlags := 9, nameIndex := 55, descriptorIndex := 56, attributes := #[] }, { accessFlags := 2, nameIndex := 11, descriptorIndex := 25, attributes := #[] }, { accessFlags := 9, nameIndex := 82, descriptorIndex := 65, attributes := #[] }, { accessFlags := 1, nameIndex := 165, descriptorIndex := 22, attributes := #[] }] 49 8 #[] #[{ accessFlags := 26, nameIndex := 5, descriptorIndex := 6, attributes := #[] }, { accessFlags := 18, nameIndex := 15, descriptorIndex := 16, attributes := #[] }])
  fields := #[{ name := "EMPTY", type := (.object "java/util/Optional"), accessFlags := 26, slot := 0, constantValue := 0 }, { name := "value", type := (.object "java/lang/Object"), accessFlags := 18, slot := 0, constantValue := 0 }]
  methods := #[k8m0, k8m1, k8m2, k8m3]
  instanceTypes := #[(.object "java/lang/Object")]
  staticTypes := #[(.object "java/util/Optional")]
  resolved := Array.replicate 187 none
  statics := some 1 }

def pool9 : Array CpInfo := pool [(2, .class_ 4), (1, u "java/lang/Object"), (0, u "<init>"), (0, u "()V"), (35, .class_ 44), (1, u "java/util/Objects"), (0, u "requireNonNull"), (0, u "(Ljava/lang/Object;)Ljava/lang/Object;")] 137

def k9m0 : Method := { name := "<init>", desc := "()V", sig := { parameters := [], returnType := none }, accessFlags := 2, code := none }
def k9c1 : Code := { maxStack := 2, maxLocals := 1, code := jdk_31_method_10_code, exceptionTable := #[], attributes := #[] }
def k9m1 : Method := { name := "requireNonNull", desc := "(Ljava/lang/Object;)Ljava/lang/Object;", sig := { parameters := [(.object "java/lang/Object")], returnType := some (.object "java/lang/Object") }, accessFlags := 9, code := some k9c1 }
/-- java/util/Objects -/
def k9 : Class := { plain "java/util/Objects" (some 0) with
  accessFlags := 49
  interfaces := #[]
  cf := some (fileOf pool9 42 #[] #[{ accessFlags := 2, nameIndex := 5, descriptorIndex := 6, attributes := #[] }, { accessFlags := 9, nameIndex := 45, descriptorIndex := 46, attributes := #[] }] 49 2 #[] #[])
  fields := #[]
  methods := #[k9m0, k9m1]
  instanceTypes := #[]
  staticTypes := #[]
  resolved := Array.replicate 184 none
  statics := none }

/-- the primitive byte -/
def k10 : Class := { plain "byte" none with kind := .primitive 'B', accessFlags := 0x411 }
/-- [B -/
def k11 : Class := { plain "[B" (some 0) with kind := .array 10 .byte, interfaces := #[7, 4], accessFlags := 1041 }

/-- the primitive int -/
def k12 : Class := { plain "int" none with kind := .primitive 'I', accessFlags := 0x411 }
/-- [I -/
def k13 : Class := { plain "[I" (some 0) with kind := .array 12 .int, interfaces := #[7, 4], accessFlags := 1041 }

/-- [Lcom/example/rubrique/rubrique/render/Area; -/
def k14 : Class := { plain "[Lcom/example/rubrique/rubrique/render/Area;" (some 0) with kind := .array 6 (.object "com/example/rubrique/rubrique/render/Area"), interfaces := #[7, 4], accessFlags := 1041 }

def heap : Heap := #[{ cls := 6, slots := #[.ref 3, .ref 4, .null, .ref 2], vm := .statics 6 },
  { cls := 8, slots := #[.ref 5], vm := .statics 8 },
  { cls := 14, slots := #[.ref 3, .ref 4], vm := .none },
  { cls := 6, slots := #[.null, .int 0, .int 0, .int 1, .null], vm := .none },
  { cls := 6, slots := #[.null, .int 1, .int 0, .int 7, .null], vm := .none },
  { cls := 8, slots := #[.null], vm := .none }]
def classes : Array Class := #[k0, k1, k2, k3, k4, k5, k6, k7, k8, k9, k10, k11, k12, k13, k14]
def interned : List (Array UInt16 × Addr) := []
def slotsUsed : Nat := 18
def theMethod : MethodId := ⟨1, 1⟩
def args0 : Array Value := #[.int 9, .int 2]
def aboutOver (below : List Frame) : State where
  vm := { classes := classes, interned := interned.toArray }
  heap := heap
  slotsUsed := slotsUsed
  threads := #[{ frames := .invoking theMethod args0 :: below }]
def below0 : List Frame := [.native { method := ⟨0, 0⟩, args := #[] }]
def about1 : State := aboutOver below0
def p0 : Program := .bare "" "" ""
def e0 : Env := launch0.env 0 0 0
theorem w_frames : about1.frames = Frame.invoking theMethod args0 :: below0 := rfl
set_option maxRecDepth 65536 in
theorem w_args : argsFit about1.vm theMethod args0 = true := by decide +kernel
set_option maxRecDepth 65536 in
theorem w_heap : heapFits about1 = true := by decide +kernel
set_option maxRecDepth 65536 in
theorem w_runnable : about1.curStatus? = some .runnable := by decide +kernel
set_option maxRecDepth 65536 in
theorem w_alone : about1.alone = true := by decide +kernel
set_option maxRecDepth 65536 in
theorem w_named : about1.methodNamed? x = some theMethod := by decide +kernel
set_option maxRecDepth 65536 in
theorem w_hears : about1.hears theMethod below0 = true := by decide +kernel
set_option maxRecDepth 65536 in
theorem w_ripe : about1.ripe theMethod args0 below0 = true := by decide +kernel
theorem w_running : about1.status = .running := rfl
set_option maxRecDepth 65536 in
theorem w_room : about1.hasRoom e0.platform room_1 = true :=
  launch0.hasRoom_least _ room_1 (by decide +kernel) (by decide +kernel) (by decide +kernel) (by decide +kernel) (by decide +kernel) (by decide +kernel)
theorem allAtoms_all (ts : List Jvm.Cond) (a : Array Jvm.Value) (st : Jvm.State) : (allAtoms ts).before a st = ts.all (fun c => c.before a st) := by
  induction ts with
  | nil => rfl
  | cons c t ih =>
    show (Jvm.Cond.and c (allAtoms t)).before a st = _
    rw [Jvm.Cond.before_and, ih, List.all_cons]
def words1 : List Jvm.Cond := Jvm.Cond.code x code maxLocals ret :: tables_1
/-- a 'code' word, met by the world's own term for the bytes: nothing is compared byte by byte -/
theorem code_word {y : MethodName} {bytes : ByteArray} {mx : Nat} {rt : Option FieldType} {a : Array Value} {s : State} {m : MethodId} {meth : Method} {c : Code} (h1 : s.methodNamed? y = some m) (h2 : s.vm.method? m = some meth) (h3 : meth.code = some c) (h4 : c.code = bytes)
    (h5 : (c.maxLocals == mx && c.exceptionTable.isEmpty && decide (c.maxStack ≤ mostOperands) && decide (meth.sig.returnType = rt) && !meth.locks && decide (parseMethodDescriptor y.desc = some meth.sig)) = true) : (Jvm.Cond.code y bytes mx rt).before a s = true := by
  simp only [Bool.and_eq_true, beq_iff_eq, Bool.not_eq_true', decide_eq_true_eq] at h5
  obtain ⟨⟨⟨⟨⟨g1, g2⟩, g3⟩, g4⟩, g5⟩, g6⟩ := h5
  simp [Cond.before, Cond.holds, Cond.value, h1, h2, h3, h4, g1, g2, g3, g4, g5, g6]
def isCode : Jvm.Cond → Bool
  | .code _ _ _ _ => true
  | _ => false
theorem all_split {L : List Jvm.Cond} {P : Jvm.Cond → Bool} (h1 : L.all (fun c => isCode c || P c) = true) (h2 : ∀ c ∈ L.filter isCode, P c = true) : L.all P = true := by
  refine List.all_eq_true.mpr fun c hc => ?_
  have h := List.all_eq_true.mp h1 c hc
  rcases Bool.eq_false_or_eq_true (isCode c) with hi | hi
  · exact h2 c (List.mem_filter.mpr ⟨hc, hi⟩)
  · simpa [hi] using h
set_option maxRecDepth 65536 in
theorem w_c0 : (Jvm.Cond.code x code maxLocals ret).before args0 about1 = true := code_word (m := ⟨1, 1⟩) (meth := k1m1) (c := k1c1) (by decide +kernel) rfl rfl rfl (by decide +kernel)
set_option maxRecDepth 65536 in
theorem w_c1 : (Jvm.Cond.code ({ cls := "com/example/rubrique/rubrique/render/Area", name := "byNumber", desc := "(I)Ljava/util/Optional;" } : Jvm.MethodName) prog_41_method_5_code (5 : Nat) (Option.some (Jvm.ClassFile.FieldType.object "java/util/Optional"))).before args0 about1 = true := code_word (m := ⟨6, 2⟩) (meth := k6m2) (c := k6c2) (by decide +kernel) rfl rfl rfl (by decide +kernel)
set_option maxRecDepth 65536 in
theorem w_c2 : (Jvm.Cond.code ({ cls := "com/example/rubrique/rubrique/render/Area", name := "values", desc := "()[Lcom/example/rubrique/rubrique/render/Area;" } : Jvm.MethodName) prog_41_method_1_code (0 : Nat) (Option.some (Jvm.ClassFile.FieldType.array (Jvm.ClassFile.FieldType.object "com/example/rubrique/rubrique/render/Area")))).before args0 about1 = true := code_word (m := ⟨6, 0⟩) (meth := k6m0) (c := k6c0) (by decide +kernel) rfl rfl rfl (by decide +kernel)
set_option maxRecDepth 65536 in
theorem w_c3 : (Jvm.Cond.code ({ cls := "java/util/Optional", name := "empty", desc := "()Ljava/util/Optional;" } : Jvm.MethodName) jdk_32_method_1_code (1 : Nat) (Option.some (Jvm.ClassFile.FieldType.object "java/util/Optional"))).before args0 about1 = true := code_word (m := ⟨8, 0⟩) (meth := k8m0) (c := k8c0) (by decide +kernel) rfl rfl rfl (by decide +kernel)
set_option maxRecDepth 65536 in
theorem w_c4 : (Jvm.Cond.code ({ cls := "java/util/Optional", name := "orElse", desc := "(Ljava/lang/Object;)Ljava/lang/Object;" } : Jvm.MethodName) jdk_32_method_15_code (2 : Nat) (Option.some (Jvm.ClassFile.FieldType.object "java/lang/Object"))).before args0 about1 = true := code_word (m := ⟨8, 3⟩) (meth := k8m3) (c := k8c3) (by decide +kernel) rfl rfl rfl (by decide +kernel)
set_option maxRecDepth 65536 in
theorem w_c5 : (Jvm.Cond.code ({ cls := "java/util/Optional", name := "of", desc := "(Ljava/lang/Object;)Ljava/util/Optional;" } : Jvm.MethodName) jdk_32_method_3_code (1 : Nat) (Option.some (Jvm.ClassFile.FieldType.object "java/util/Optional"))).before args0 about1 = true := code_word (m := ⟨8, 2⟩) (meth := k8m2) (c := k8c2) (by decide +kernel) rfl rfl rfl (by decide +kernel)
set_option maxRecDepth 65536 in
theorem w_c6 : (Jvm.Cond.code ({ cls := "java/util/Objects", name := "requireNonNull", desc := "(Ljava/lang/Object;)Ljava/lang/Object;" } : Jvm.MethodName) jdk_31_method_10_code (1 : Nat) (Option.some (Jvm.ClassFile.FieldType.object "java/lang/Object"))).before args0 about1 = true := code_word (m := ⟨9, 1⟩) (meth := k9m1) (c := k9c1) (by decide +kernel) rfl rfl rfl (by decide +kernel)
set_option maxRecDepth 65536 in
theorem w_c7 : (Jvm.Cond.code ({ cls := "java/util/Optional", name := "<init>", desc := "(Ljava/lang/Object;)V" } : Jvm.MethodName) jdk_32_method_2_code (2 : Nat) (Option.none : Option Jvm.ClassFile.FieldType)).before args0 about1 = true := code_word (m := ⟨8, 1⟩) (meth := k8m1) (c := k8c1) (by decide +kernel) rfl rfl rfl (by decide +kernel)
set_option maxRecDepth 65536 in
theorem w_c8 : (Jvm.Cond.code ({ cls := "java/lang/Object", name := "<init>", desc := "()V" } : Jvm.MethodName) object_method_1_code (1 : Nat) (Option.none : Option Jvm.ClassFile.FieldType)).before args0 about1 = true := code_word (m := ⟨0, 0⟩) (meth := k0m0) (c := k0c0) (by decide +kernel) rfl rfl rfl (by decide +kernel)
set_option maxRecDepth 65536 in
theorem w_c9 : (Jvm.Cond.code ({ cls := "com/example/rubrique/rubrique/render/Area", name := "number", desc := "()I" } : Jvm.MethodName) prog_41_method_4_code (1 : Nat) (Option.some Jvm.ClassFile.FieldType.int)).before args0 about1 = true := code_word (m := ⟨6, 1⟩) (meth := k6m1) (c := k6c1) (by decide +kernel) rfl rfl rfl (by decide +kernel)
def codes1 : List Jvm.Cond := [Jvm.Cond.code x code maxLocals ret, Jvm.Cond.code ({ cls := "com/example/rubrique/rubrique/render/Area", name := "byNumber", desc := "(I)Ljava/util/Optional;" } : Jvm.MethodName) prog_41_method_5_code (5 : Nat) (Option.some (Jvm.ClassFile.FieldType.object "java/util/Optional")), Jvm.Cond.code ({ cls := "com/example/rubrique/rubrique/render/Area", name := "values", desc := "()[Lcom/example/rubrique/rubrique/render/Area;" } : Jvm.MethodName) prog_41_method_1_code (0 : Nat) (Option.some (Jvm.ClassFile.FieldType.array (Jvm.ClassFile.FieldType.object "com/example/rubrique/rubrique/render/Area"))), Jvm.Cond.code ({ cls := "java/util/Optional", name := "empty", desc := "()Ljava/util/Optional;" } : Jvm.MethodName) jdk_32_method_1_code (1 : Nat) (Option.some (Jvm.ClassFile.FieldType.object "java/util/Optional")), Jvm.Cond.code ({ cls := "java/util/Optional", name := "orElse", desc := "(Ljava/lang/Object;)Ljava/lang/Object;" } : Jvm.MethodName) jdk_32_method_15_code (2 : Nat) (Option.some (Jvm.ClassFile.FieldType.object "java/lang/Object")), Jvm.Cond.code ({ cls := "java/util/Optional", name := "of", desc := "(Ljava/lang/Object;)Ljava/util/Optional;" } : Jvm.MethodName) jdk_32_method_3_code (1 : Nat) (Option.some (Jvm.ClassFile.FieldType.object "java/util/Optional")), Jvm.Cond.code ({ cls := "java/util/Objects", name := "requireNonNull", desc := "(Ljava/lang/Object;)Ljava/lang/Object;" } : Jvm.MethodName) jdk_31_method_10_code (1 : Nat) (Option.some (Jvm.ClassFile.FieldType.object "java/lang/Object")), Jvm.Cond.code ({ cls := "java/util/Optional", name := "<init>", desc := "(Ljava/lang/Object;)V" } : Jvm.MethodName) jdk_32_method_2_code (2 : Nat) (Option.none : Option Jvm.ClassFile.FieldType), Jvm.Cond.code ({ cls := "java/lang/Object", name := "<init>", desc := "()V" } : Jvm.MethodName) object_method_1_code (1 : Nat) (Option.none : Option Jvm.ClassFile.FieldType), Jvm.Cond.code ({ cls := "com/example/rubrique/rubrique/render/Area", name := "number", desc := "()I" } : Jvm.MethodName) prog_41_method_4_code (1 : Nat) (Option.some Jvm.ClassFile.FieldType.int)]
set_option maxRecDepth 65536 in
theorem codes_eq : words1.filter isCode = codes1 := rfl
theorem w_codes : ∀ c ∈ words1.filter isCode, c.before args0 about1 = true := by
  rw [codes_eq]
  intro c hc
  simp only [codes1, List.mem_cons, List.not_mem_nil, or_false] at hc
  rcases hc with rfl | rfl | rfl | rfl | rfl | rfl | rfl | rfl | rfl | rfl
  · exact w_c0
  · exact w_c1
  · exact w_c2
  · exact w_c3
  · exact w_c4
  · exact w_c5
  · exact w_c6
  · exact w_c7
  · exact w_c8
  · exact w_c9
set_option maxRecDepth 65536 in
theorem w_t1 : (words1.take 24).all (fun c => isCode c || c.before args0 about1) = true := by decide +kernel
set_option maxRecDepth 65536 in
theorem w_t2 : ((words1.drop 24).take 24).all (fun c => isCode c || c.before args0 about1) = true := by decide +kernel
set_option maxRecDepth 65536 in
theorem w_t3 : ((words1.drop 24).drop 24).all (fun c => isCode c || c.before args0 about1) = true := by decide +kernel
theorem w_tables : (allAtoms (Jvm.Cond.code x code maxLocals ret :: tables_1)).before args0 about1 = true := by
  rw [allAtoms_all]
  show words1.all (fun c => c.before args0 about1) = true
  refine all_split ?_ w_codes
  rw [← List.take_append_drop 24 words1, List.all_append, w_t1, ← List.take_append_drop 24 (words1.drop 24), List.all_append, w_t2, w_t3]
  rfl
set_option maxRecDepth 65536 in
theorem w_rest : rest_1_c.before args0 about1 = true := by decide +kernel
set_option maxRecDepth 65536 in
theorem w_case : (Jvm.Cond.and given_1 narrow_1).before args0 about1 = true := by decide +kernel
theorem w_applies : (headSpec (Jvm.Cond.code x code maxLocals ret :: tables_1) room_1).applies x e0.platform about1 = true :=
  (Spec.applies_iff w_frames).mpr ⟨w_running, w_runnable, w_alone, w_named, w_hears, w_ripe, w_room, w_tables⟩
theorem atStart : AtStart classFile x code maxLocals ret World_1 tables_1 room_1 Calls_1 rest_1 Pre_1 launch0 p0 e0 about1 theMethod args0 below0 :=
  ⟨lists_1, trivial, launch0.admits_env _ _ _, launch0.least_env, fairChoices_fair.cas, fairChoices_fair.clock, w_frames, w_args, w_heap, w_applies, trivial, w_rest, w_case⟩
end start1
theorem witness_1 : WitnessClaimed_1 := ⟨start1.p0, start1.e0, start1.about1, start1.theMethod, start1.args0, start1.below0, start1.atStart⟩
end Jvm.Pilot.@@N@@
