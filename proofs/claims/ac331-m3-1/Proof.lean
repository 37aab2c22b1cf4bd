import JvmDerived
import JvmDerived.Pilot.@@N@@Statement
import JvmDerived.Pilot.@@N@@Code
set_option linter.unusedVariables false
set_option linter.unusedSimpArgs false
namespace Jvm.RoadKit
open Sem ClassFile Op Lib Jvm.Stand Jvm.Free Jvm.LawKit
section New
variable {p : Program} {l : Launch} {e : Env} {R : Room} {s : State} {m : MethodId} {args : Array Value} {below : List Frame} {meth : Method} {c : Code} {T : State} {locs : List Loc} {cells slots : Nat}
theorem retI (X : Stand p l e R s m args below meth c T locs cells slots) (hx : p.tables.exec = Jvm.exec) {pc : Nat} {Ls : Array Slot} {z : Int32} {rest : List Value} (hret : meth.sig.returnType = some .int) (hd : decode c.code pc = .ok (.ireturn, 1)) {fs : List Frame}
    (hl : ∀ (f : JFrame) (acts : List Action), f.method = m → f.locked = none → f.entered = [] → (doReturn e (T.setTop f) acts (some (.int z))).1 = T.setFrames fs) : Steps p.tables e below (T.setTop (mkF m pc Ls (.int z :: rest))) (T.setFrames fs) := by
  have hm' : T.vm.method? m = some meth := X.method'
  have hn : narrow .int (.int z) = .int z := rfl
  show Steps p.tables e below (T.setTop { method := m, pc := pc, locals := Ls, stack := _ :: rest, locked := none }) _
  jvm_step X.here [X.here.top, hx, hd, hm', hret, hn]
  first | (intro acts; rw [hl _ acts rfl rfl rfl]) | rw [hl _ _ rfl rfl rfl]
  exact Steps.refl _
end New
end Jvm.RoadKit
namespace Jvm.Pilot.@@N@@
open Jvm Jvm.ClassFile Sem Op Lib Jvm.Free Jvm.Stand Jvm.LawKit Jvm.RoadKit Bundle Jvm.Pilot.@@N@@.Jvm.D
def own_Q (r : Option Value) (h0 : Heap) (n0 : Nat) (v : Option Value) (h : Heap) (L : List Loc) : Prop := v = r ∧ Fr n0 L ∧ h = h0
theorem own_eqI {args : Array Value} {Z : State} {t : Term} {k : Int32} (h : (Cond.eq t (Term.int k)).value args Z none Z [] = some true) : t.eval args Z none [] Z = some (.int k) := by
  simp only [Cond.value, Term.eval] at h
  cases ht : t.eval args Z none [] Z with
  | none => simp [ht] at h
  | some v => cases v <;> simp [ht] at h ⊢ <;> exact h
theorem own_eqR {args : Array Value} {Z : State} {t u : Term} {y : Addr} (h : (Cond.eq t u).value args Z none Z [] = some true) (hu : u.eval args Z none [] Z = some (.ref y)) : t.eval args Z none [] Z = some (.ref y) := by
  simp only [Cond.value, hu] at h
  cases ht : t.eval args Z none [] Z with
  | none => simp [ht] at h
  | some v => cases v <;> simp [ht] at h ⊢ <;> exact h
def own_Ctx (Z : State) (h : Heap) (s_EXPANSIONS s_PARAMETER_CHARACTERS s_NODES s_CHARACTERS : Addr) : Prop := (Sta Z h "com/example/rattan/rattan/storage/xml/EntityLimit" "EXPANSIONS" "Lcom/example/rattan/rattan/storage/xml/EntityLimit;" (.ref s_EXPANSIONS)) ∧ (Exa Z h s_EXPANSIONS "com/example/rattan/rattan/storage/xml/EntityLimit") ∧ (Fld Z h s_EXPANSIONS "java/lang/Enum" "ordinal" "I" (.int (0 : Int32))) ∧ (Sta Z h "com/example/rattan/rattan/storage/xml/EntityLimit" "PARAMETER_CHARACTERS" "Lcom/example/rattan/rattan/storage/xml/EntityLimit;" (.ref s_PARAMETER_CHARACTERS)) ∧ (Exa Z h s_PARAMETER_CHARACTERS "com/example/rattan/rattan/storage/xml/EntityLimit") ∧ (Fld Z h s_PARAMETER_CHARACTERS "java/lang/Enum" "ordinal" "I" (.int (3 : Int32))) ∧ (Sta Z h "com/example/rattan/rattan/storage/xml/EntityLimit" "NODES" "Lcom/example/rattan/rattan/storage/xml/EntityLimit;" (.ref s_NODES)) ∧ (Exa Z h s_NODES "com/example/rattan/rattan/storage/xml/EntityLimit") ∧ (Fld Z h s_NODES "java/lang/Enum" "ordinal" "I" (.int (2 : Int32))) ∧ (Sta Z h "com/example/rattan/rattan/storage/xml/EntityLimit" "CHARACTERS" "Lcom/example/rattan/rattan/storage/xml/EntityLimit;" (.ref s_CHARACTERS)) ∧ (Exa Z h s_CHARACTERS "com/example/rattan/rattan/storage/xml/EntityLimit") ∧ (Fld Z h s_CHARACTERS "java/lang/Enum" "ordinal" "I" (.int (1 : Int32))) ∧ (Fld Z h s_EXPANSIONS "com/example/rattan/rattan/storage/xml/EntityLimit" "limit" "I" (.int (64000 : Int32))) ∧ (Fld Z h s_PARAMETER_CHARACTERS "com/example/rattan/rattan/storage/xml/EntityLimit" "limit" "I" (.int (1000000 : Int32))) ∧ (Fld Z h s_NODES "com/example/rattan/rattan/storage/xml/EntityLimit" "limit" "I" (.int (3000000 : Int32))) ∧ (Fld Z h s_CHARACTERS "com/example/rattan/rattan/storage/xml/EntityLimit" "limit" "I" (.int (50000000 : Int32)))
theorem own_and (p : Int32) : p &&& (3 : Int32) = (0 : Int32) ∨ p &&& (3 : Int32) = (1 : Int32) ∨ p &&& (3 : Int32) = (2 : Int32) ∨ p &&& (3 : Int32) = (3 : Int32) := by
  have h1 := c_and p (3 : Int32) (by decide)
  have h2 : ((3 : Int32)).toInt = 3 := rfl
  have h3 : (p &&& (3 : Int32)).toInt = 0 ∨ (p &&& (3 : Int32)).toInt = 1 ∨ (p &&& (3 : Int32)).toInt = 2 ∨ (p &&& (3 : Int32)).toInt = 3 := by omega
  rcases h3 with h | h | h | h
  · exact Or.inl (Int32.toInt_inj.mp (h.trans rfl))
  · exact Or.inr (Or.inl (Int32.toInt_inj.mp (h.trans rfl)))
  · exact Or.inr (Or.inr (Or.inl (Int32.toInt_inj.mp (h.trans rfl))))
  · exact Or.inr (Or.inr (Or.inr ((Int32.toInt_inj.mp (h.trans rfl)))))
theorem d1_0 : decode prog_87_method_5_code 0 = .ok (.aload_n 0, 1) := by decide +kernel
theorem d1_1 : decode prog_87_method_5_code 1 = .ok (.getstatic 3, 3) := by decide +kernel
theorem d1_4 : decode prog_87_method_5_code 4 = .ok (.if_acmp .ne 12, 3) := by decide +kernel
theorem d1_7 : decode prog_87_method_5_code 7 = .ok (.aload_n 0, 1) := by decide +kernel
theorem d1_8 : decode prog_87_method_5_code 8 = .ok (.getfield 39, 3) := by decide +kernel
theorem d1_11 : decode prog_87_method_5_code 11 = .ok (.iconst 1, 1) := by decide +kernel
theorem d1_12 : decode prog_87_method_5_code 12 = .ok (.iadd, 1) := by decide +kernel
theorem d1_13 : decode prog_87_method_5_code 13 = .ok (.goto 7, 3) := by decide +kernel
theorem d1_20 : decode prog_87_method_5_code 20 = .ok (.ireturn, 1) := by decide +kernel
theorem ef_1_0 (m : MethodId) (x0 : Addr) : entryFrame m #[(.ref x0)] 1 = mkF m 0 #[.val (.ref x0)] [] := by first | (simp [entryFrame, mkF, argsToLocals, Value.category]; done) | rfl
theorem pn_0 : plainName "com/example/rattan/rattan/storage/xml/EntityLimit" = true := by first | (simp [plainName, overriddenIn]; done) | decide +kernel
set_option maxRecDepth 65536 in
set_option maxHeartbeats 40000000 in
theorem r_val_0 (l : Launch) (Z : State) (a0 : Array Value) (hw : ∀ d ∈ tables_1, d.before a0 Z = true) (ws : List Jvm.Cond) (s_EXPANSIONS s_PARAMETER_CHARACTERS s_NODES s_CHARACTERS : Addr) (h0 : Heap) (n0 : Nat) (Z0 : n0 ≤ h0.size) (G : own_Ctx Z h0 s_EXPANSIONS s_PARAMETER_CHARACTERS s_NODES s_CHARACTERS)   :
    MetFree l (⟨"com/example/rattan/rattan/storage/xml/EntityLimit", "propertyValue", "()I"⟩ : MethodName) (head1 (Jvm.Cond.code (⟨"com/example/rattan/rattan/storage/xml/EntityLimit", "propertyValue", "()I"⟩ : MethodName) prog_87_method_5_code 1 (some .int) :: ws) ({ frames := 0, cells := 0, slots := 0, locals := 0 } : Room)) (fun a U => a = #[(.ref s_EXPANSIONS)] ∧ Z.Warmed39 U.vm ∧ U.heap = h0) (fun _ _ _ _ _ => True) (fun _ U o U' => ∃ v L, o = .returned v ∧ own_Q (some (.int ((64000 : Int32) + (1 : Int32)))) h0 n0 v U'.heap L ∧ FrameEnd U o U' L ({ frames := 0, cells := 0, slots := 0, locals := 0 } : Room).cells ({ frames := 0, cells := 0, slots := 0, locals := 0 } : Room).slots) := by
  have G0 := G
  obtain ⟨S_EXPANSIONS, E_EXPANSIONS, O_EXPANSIONS, S_PARAMETER_CHARACTERS, E_PARAMETER_CHARACTERS, O_PARAMETER_CHARACTERS, S_NODES, E_NODES, O_NODES, S_CHARACTERS, E_CHARACTERS, O_CHARACTERS, F_limit_EXPANSIONS, F_limit_PARAMETER_CHARACTERS, F_limit_NODES, F_limit_CHARACTERS⟩ := G
  refine MetFree.of_bodySF (plainFor_of_name pn_0) hisR ?_
  intro p e s m args below meth c s₁ Bd hml0 hP hK
  obtain ⟨rfl, hZ, hh⟩ := hP
  have hx := Bd.exec
  have hby := Bd.bytes
  have hml : c.maxLocals = 1 := hml0
  have hown : s.vm.findClass "com/example/rattan/rattan/storage/xml/EntityLimit" = some m.cls := findClass_of_methodNamed Bd.named
  have hnm := (name_of_methodNamed Bd.named Bd.method).1
  have X0 : Stand p l e ({ frames := 0, cells := 0, slots := 0, locals := 0 } : Room) s m #[(.ref s_EXPANSIONS)] below meth c s₁ [] 0 0 := Stand.of_body Bd
  have e0 : s₁.heap = h0 := by rw [← hh, Bd.state]; rfl
  have N0 := Fr.nil n0
  have pre0 : ∀ t, Steps p.tables e below (s₁.setTop (mkF m 0 #[.val (.ref s_EXPANSIONS)] [])) t → Steps p.tables e below (s₁.setTop (entryFrame m #[(.ref s_EXPANSIONS)] 1)) t := fun t k => castTop (ef_1_0 m s_EXPANSIONS) k
  obtain ⟨T1, X1, e1, st1⟩ := getS2 X0 hx hZ hown (host := "") (Or.inl (hw _ (List.mem_of_getElem? (i := 9) rfl))) Via.refl e0 S_EXPANSIONS (g := (mkF m 1 #[.val (.ref s_EXPANSIONS)] [(.ref s_EXPANSIONS)])) rfl (hb hby d1_1)
  obtain ⟨T2, X2, e2, st2⟩ := getF X1 hx hZ hown (host := "") (Or.inl (hw _ (List.mem_of_getElem? (i := 10) rfl))) Via.refl e1 F_limit_EXPANSIONS (g := (mkF m 8 #[.val (.ref s_EXPANSIONS)] [(.ref s_EXPANSIONS)])) rfl rfl (hb hby d1_8)
  obtain ⟨fs, hr, hrun, hended, hW, hsame⟩ := X2.leave (v := some (.int ((64000 : Int32) + (1 : Int32)))) (fun h => by rw [Bd.returns] at h; cases h)
  refine ⟨_, _, pre0 _ ?_, hrun, hended, _, _, rfl, ?_, ⟨_, rfl⟩, hW, hsame.mono (by decide) (by decide)⟩
  · show Steps p.tables e below (s₁.setTop (mkF m 0 #[.val (.ref s_EXPANSIONS)] [])) _
    refine XS.aloadN X0.here hx rfl (hb hby d1_0) rfl rfl ?_
    show Steps p.tables e below (s₁.setTop (mkF m 1 #[.val (.ref s_EXPANSIONS)] [(.ref s_EXPANSIONS)])) _
    refine st1 _ ?_
    show Steps p.tables e below (T1.setTop (mkF m 4 #[.val (.ref s_EXPANSIONS)] [(.ref s_EXPANSIONS), (.ref s_EXPANSIONS)])) _
    refine Jvm.RoadKit.acmp (g := (mkF m 4 #[.val (.ref s_EXPANSIONS)] [(.ref s_EXPANSIONS), (.ref s_EXPANSIONS)])) X1 hx rfl rfl rfl (pc0 := 4) (pc' := 7) (same := true) rfl (hb hby d1_4) rfl (decide_eq_true rfl) (by decide) (by decide) ?_
    show Steps p.tables e below (T1.setTop (mkF m 7 #[.val (.ref s_EXPANSIONS)] [])) _
    refine XS.aloadN X1.here hx rfl (hb hby d1_7) rfl rfl ?_
    show Steps p.tables e below (T1.setTop (mkF m 8 #[.val (.ref s_EXPANSIONS)] [(.ref s_EXPANSIONS)])) _
    refine st2 _ ?_
    show Steps p.tables e below (T2.setTop (mkF m 11 #[.val (.ref s_EXPANSIONS)] [(.int (64000 : Int32))])) _
    refine XS.iconst X2.here hx rfl (hb hby d1_11) ?_
    show Steps p.tables e below (T2.setTop (mkF m 12 #[.val (.ref s_EXPANSIONS)] [(.int (1 : Int32)), (.int (64000 : Int32))])) _
    refine XS.iadd X2.here hx rfl (hb hby d1_12) rfl ?_
    show Steps p.tables e below (T2.setTop (mkF m 13 #[.val (.ref s_EXPANSIONS)] [(.int ((64000 : Int32) + (1 : Int32)))])) _
    refine XS.goto X2.here hx rfl (pc0 := 13) (pc' := 20) rfl (hb hby d1_13) (by decide) (by decide) ?_
    show Steps p.tables e below (T2.setTop (mkF m 20 #[.val (.ref s_EXPANSIONS)] [(.int ((64000 : Int32) + (1 : Int32)))])) _
    exact retI X2 hx Bd.returns (hb hby d1_20) hr
  · show own_Q (some (.int ((64000 : Int32) + (1 : Int32)))) h0 n0 _ T2.heap _
    rw [e2]
    exact ⟨rfl, N0, rfl⟩
theorem d2_0 : decode prog_87_method_6_code 0 = .ok (.aload_n 0, 1) := by decide +kernel
theorem d2_1 : decode prog_87_method_6_code 1 = .ok (.getfield 39, 3) := by decide +kernel
theorem d2_4 : decode prog_87_method_6_code 4 = .ok (.ireturn, 1) := by decide +kernel
theorem ef_2_1 (m : MethodId) (x0 : Addr) : entryFrame m #[(.ref x0)] 1 = mkF m 0 #[.val (.ref x0)] [] := by first | (simp [entryFrame, mkF, argsToLocals, Value.category]; done) | rfl
set_option maxRecDepth 65536 in
set_option maxHeartbeats 40000000 in
theorem r_lim_0 (l : Launch) (Z : State) (a0 : Array Value) (hw : ∀ d ∈ tables_1, d.before a0 Z = true) (ws : List Jvm.Cond) (s_EXPANSIONS s_PARAMETER_CHARACTERS s_NODES s_CHARACTERS : Addr) (h0 : Heap) (n0 : Nat) (Z0 : n0 ≤ h0.size) (G : own_Ctx Z h0 s_EXPANSIONS s_PARAMETER_CHARACTERS s_NODES s_CHARACTERS)   :
    MetFree l (⟨"com/example/rattan/rattan/storage/xml/EntityLimit", "limit", "()I"⟩ : MethodName) (head1 (Jvm.Cond.code (⟨"com/example/rattan/rattan/storage/xml/EntityLimit", "limit", "()I"⟩ : MethodName) prog_87_method_6_code 1 (some .int) :: ws) ({ frames := 0, cells := 0, slots := 0, locals := 0 } : Room)) (fun a U => a = #[(.ref s_EXPANSIONS)] ∧ Z.Warmed39 U.vm ∧ U.heap = h0) (fun _ _ _ _ _ => True) (fun _ U o U' => ∃ v L, o = .returned v ∧ own_Q (some (.int (64000 : Int32))) h0 n0 v U'.heap L ∧ FrameEnd U o U' L ({ frames := 0, cells := 0, slots := 0, locals := 0 } : Room).cells ({ frames := 0, cells := 0, slots := 0, locals := 0 } : Room).slots) := by
  have G0 := G
  obtain ⟨S_EXPANSIONS, E_EXPANSIONS, O_EXPANSIONS, S_PARAMETER_CHARACTERS, E_PARAMETER_CHARACTERS, O_PARAMETER_CHARACTERS, S_NODES, E_NODES, O_NODES, S_CHARACTERS, E_CHARACTERS, O_CHARACTERS, F_limit_EXPANSIONS, F_limit_PARAMETER_CHARACTERS, F_limit_NODES, F_limit_CHARACTERS⟩ := G
  refine MetFree.of_bodySF (plainFor_of_name pn_0) hisR ?_
  intro p e s m args below meth c s₁ Bd hml0 hP hK
  obtain ⟨rfl, hZ, hh⟩ := hP
  have hx := Bd.exec
  have hby := Bd.bytes
  have hml : c.maxLocals = 1 := hml0
  have hown : s.vm.findClass "com/example/rattan/rattan/storage/xml/EntityLimit" = some m.cls := findClass_of_methodNamed Bd.named
  have hnm := (name_of_methodNamed Bd.named Bd.method).1
  have X0 : Stand p l e ({ frames := 0, cells := 0, slots := 0, locals := 0 } : Room) s m #[(.ref s_EXPANSIONS)] below meth c s₁ [] 0 0 := Stand.of_body Bd
  have e0 : s₁.heap = h0 := by rw [← hh, Bd.state]; rfl
  have N0 := Fr.nil n0
  have pre0 : ∀ t, Steps p.tables e below (s₁.setTop (mkF m 0 #[.val (.ref s_EXPANSIONS)] [])) t → Steps p.tables e below (s₁.setTop (entryFrame m #[(.ref s_EXPANSIONS)] 1)) t := fun t k => castTop (ef_2_1 m s_EXPANSIONS) k
  obtain ⟨T1, X1, e1, st1⟩ := getF X0 hx hZ hown (host := "") (Or.inl (hw _ (List.mem_of_getElem? (i := 10) rfl))) Via.refl e0 F_limit_EXPANSIONS (g := (mkF m 1 #[.val (.ref s_EXPANSIONS)] [(.ref s_EXPANSIONS)])) rfl rfl (hb hby d2_1)
  obtain ⟨fs, hr, hrun, hended, hW, hsame⟩ := X1.leave (v := some (.int (64000 : Int32))) (fun h => by rw [Bd.returns] at h; cases h)
  refine ⟨_, _, pre0 _ ?_, hrun, hended, _, _, rfl, ?_, ⟨_, rfl⟩, hW, hsame.mono (by decide) (by decide)⟩
  · show Steps p.tables e below (s₁.setTop (mkF m 0 #[.val (.ref s_EXPANSIONS)] [])) _
    refine XS.aloadN X0.here hx rfl (hb hby d2_0) rfl rfl ?_
    show Steps p.tables e below (s₁.setTop (mkF m 1 #[.val (.ref s_EXPANSIONS)] [(.ref s_EXPANSIONS)])) _
    refine st1 _ ?_
    show Steps p.tables e below (T1.setTop (mkF m 4 #[.val (.ref s_EXPANSIONS)] [(.int (64000 : Int32))])) _
    exact retI X1 hx Bd.returns (hb hby d2_4) hr
  · show own_Q (some (.int (64000 : Int32))) h0 n0 _ T1.heap _
    rw [e1]
    exact ⟨rfl, N0, rfl⟩
theorem pd_0 : parseMethodDescriptor "()I" = some ⟨[], some .int⟩ := by decide +kernel
theorem ef_0_2 (m : MethodId) (x0 : Int32) : entryFrame m #[(.int x0)] maxLocals = mkF m 0 #[.val (.int x0), .unset, .unset, .unset, .unset, .unset, .unset] [] := by first | (simp [entryFrame, mkF, argsToLocals, Value.category, maxLocals]; done) | rfl
theorem pn_1 : plainName "com/example/rattan/rattan/storage/xml/EntityLimitPropertyValuePinLaw" = true := by first | (simp [plainName, overriddenIn]; done) | decide +kernel
set_option maxRecDepth 65536 in
set_option maxHeartbeats 40000000 in
theorem r_law_0 (l : Launch) (Z : State) (a0 : Array Value) (hw : ∀ d ∈ tables_1, d.before a0 Z = true) (ws : List Jvm.Cond) (s_EXPANSIONS s_PARAMETER_CHARACTERS s_NODES s_CHARACTERS : Addr) (h0 : Heap) (n0 : Nat) (Z0 : n0 ≤ h0.size) (G : own_Ctx Z h0 s_EXPANSIONS s_PARAMETER_CHARACTERS s_NODES s_CHARACTERS) (p1 : Int32) (hk : p1 &&& (3 : Int32) = (0 : Int32)) :
    MetFree l x (head1 (Jvm.Cond.code x code maxLocals ret :: ws) room_1) (fun a U => a = #[(.int p1)] ∧ Z.Warmed39 U.vm ∧ U.heap = h0) (fun _ _ _ _ _ => True) (fun _ U o U' => ∃ v L, o = .returned v ∧ own_Q (some (.int (1 : Int32))) h0 n0 v U'.heap L ∧ FrameEnd U o U' L 0 0) := by
  have G0 := G
  obtain ⟨S_EXPANSIONS, E_EXPANSIONS, O_EXPANSIONS, S_PARAMETER_CHARACTERS, E_PARAMETER_CHARACTERS, O_PARAMETER_CHARACTERS, S_NODES, E_NODES, O_NODES, S_CHARACTERS, E_CHARACTERS, O_CHARACTERS, F_limit_EXPANSIONS, F_limit_PARAMETER_CHARACTERS, F_limit_NODES, F_limit_CHARACTERS⟩ := G
  refine MetFree.of_bodySF (plainFor_of_name pn_1) hisR ?_
  intro p e s m args below meth c s₁ Bd hml0 hP hK
  obtain ⟨rfl, hZ, hh⟩ := hP
  have hx := Bd.exec
  have hby := Bd.bytes
  have hml : c.maxLocals = 7 := hml0
  have hown : s.vm.findClass "com/example/rattan/rattan/storage/xml/EntityLimitPropertyValuePinLaw" = some m.cls := findClass_of_methodNamed Bd.named
  have hnm := (name_of_methodNamed Bd.named Bd.method).1
  have X0 : Stand p l e room_1 s m #[(.int p1)] below meth c s₁ [] 0 0 := Stand.of_body Bd
  have e0 : s₁.heap = h0 := by rw [← hh, Bd.state]; rfl
  have N0 := Fr.nil n0
  have pre0 : ∀ t, Steps p.tables e below (s₁.setTop (mkF m 0 #[.val (.int p1), .unset, .unset, .unset, .unset, .unset, .unset] [])) t → Steps p.tables e below (s₁.setTop (entryFrame m #[(.int p1)] maxLocals)) t := fun t k => castTop (ef_0_2 m p1) k
  obtain ⟨T1, X1, e1, st1⟩ := getS2 X0 hx hZ hown (host := "") (Or.inl (hw _ (List.mem_of_getElem? (i := 0) rfl))) Via.refl e0 S_EXPANSIONS (g := (mkF m 8 #[.val (.int p1), .val (.int (0 : Int32)), .unset, .unset, .unset, .unset, .unset] [])) rfl (hb hby at_8)
  obtain ⟨cq2, kq2, q2a, q2b, q2c⟩ := isOf hZ e1 E_EXPANSIONS
  obtain ⟨_, _, ⟨T2, L2, k2, n2⟩, -, X2, ⟨Lc2, hQ2, l2, y2, z2⟩, st2⟩ := X1.virtualBack hx (y := (⟨"com/example/rattan/rattan/storage/xml/EntityLimit", "propertyValue", "()I"⟩ : MethodName)) (z := (⟨"com/example/rattan/rattan/storage/xml/EntityLimit", "propertyValue", "()I"⟩ : MethodName)) hown (mvT hZ (hw _ (List.mem_of_getElem? (i := 4) rfl))) (mvT hZ (hw _ (List.mem_of_getElem? (i := 5) rfl))) (notFace_of_selects (args := #[]) (mvT hZ (hw _ (List.mem_of_getElem? (i := 7) rfl)))) (mvT hZ (hw _ (List.mem_of_getElem? (i := 7) rfl))) (mvT hZ (hw _ (List.mem_of_getElem? (i := 6) rfl))) (by decide) (backOf (W := 0) (r_val_0 l Z a0 hw [] s_EXPANSIONS s_PARAMETER_CHARACTERS s_NODES s_CHARACTERS h0 n0 Z0 G0) hZ (hw _ (List.mem_of_getElem? (i := 8) rfl)) (hw _ (List.mem_of_getElem? (i := 1) rfl)) (by decide) (by decide)) q2a q2c (g := (mkF m 68 #[.val (.int p1), .val (.int (0 : Int32)), .val (.ref s_EXPANSIONS), .val (.int (64001 : Int32)), .val (.int (1 : Int32)), .unset, .unset] [(.ref s_EXPANSIONS)])) rfl (by rw [hml]; rfl) (Steps.refl _) (argsL := []) (rest := []) (lenOf pd_0 rfl) rfl (by show 2 * 0 + _ ≤ _; exact Nat.le_of_eq rfl) (hb hby at_68) (fun _ _ => ⟨rfl, e1, (by decide : 0 + 0 ≤ _), (by decide : 0 + 0 ≤ _)⟩)
  dsimp only [Pt.U, Pt.locs, Pt.cells, Pt.slots] at X2 l2 y2 z2 st2 hQ2
  subst l2 y2 z2
  obtain ⟨rfl, N2q, e2⟩ := hQ2
  have N2 := Fr.app N0 N2q
  obtain ⟨cq3, kq3, q3a, q3b, q3c⟩ := isOf hZ e2 E_EXPANSIONS
  obtain ⟨_, _, ⟨T3, L3, k3, n3⟩, -, X3, ⟨Lc3, hQ3, l3, y3, z3⟩, st3⟩ := X2.virtualBack hx (y := (⟨"com/example/rattan/rattan/storage/xml/EntityLimit", "limit", "()I"⟩ : MethodName)) (z := (⟨"com/example/rattan/rattan/storage/xml/EntityLimit", "limit", "()I"⟩ : MethodName)) hown (mvT hZ (hw _ (List.mem_of_getElem? (i := 12) rfl))) (mvT hZ (hw _ (List.mem_of_getElem? (i := 13) rfl))) (notFace_of_selects (args := #[]) (mvT hZ (hw _ (List.mem_of_getElem? (i := 15) rfl)))) (mvT hZ (hw _ (List.mem_of_getElem? (i := 15) rfl))) (mvT hZ (hw _ (List.mem_of_getElem? (i := 14) rfl))) (by decide) (backOf (W := 0) (r_lim_0 l Z a0 hw [] s_EXPANSIONS s_PARAMETER_CHARACTERS s_NODES s_CHARACTERS h0 n0 Z0 G0) hZ (hw _ (List.mem_of_getElem? (i := 16) rfl)) (hw _ (List.mem_of_getElem? (i := 1) rfl)) (by decide) (by decide)) q3a q3c (g := (mkF m 74 #[.val (.int p1), .val (.int (0 : Int32)), .val (.ref s_EXPANSIONS), .val (.int (64001 : Int32)), .val (.int (1 : Int32)), .val (.int ((64000 : Int32) + (1 : Int32))), .unset] [(.ref s_EXPANSIONS)])) rfl (by rw [hml]; rfl) (Steps.refl _) (argsL := []) (rest := []) (lenOf pd_0 rfl) rfl (by show 2 * 0 + _ ≤ _; exact Nat.le_of_eq rfl) (hb hby at_74) (fun _ _ => ⟨rfl, e2, (by decide : 0 + 0 ≤ _), (by decide : 0 + 0 ≤ _)⟩)
  dsimp only [Pt.U, Pt.locs, Pt.cells, Pt.slots] at X3 l3 y3 z3 st3 hQ3
  subst l3 y3 z3
  obtain ⟨rfl, N3q, e3⟩ := hQ3
  have N3 := Fr.app N2 N3q
  obtain ⟨fs, hr, hrun, hended, hW, hsame⟩ := X3.leave (v := some (.int (1 : Int32))) (fun h => by rw [Bd.returns] at h; cases h)
  refine ⟨_, _, pre0 _ ?_, hrun, hended, _, _, rfl, ?_, ⟨_, rfl⟩, hW, hsame.mono (by decide) (by decide)⟩
  · show Steps p.tables e below (s₁.setTop (mkF m 0 #[.val (.int p1), .unset, .unset, .unset, .unset, .unset, .unset] [])) _
    refine XS.iloadN X0.here hx rfl (hb hby at_0) rfl ?_
    show Steps p.tables e below (s₁.setTop (mkF m 1 #[.val (.int p1), .unset, .unset, .unset, .unset, .unset, .unset] [(.int p1)])) _
    refine XS.iconst X0.here hx rfl (hb hby at_1) ?_
    show Steps p.tables e below (s₁.setTop (mkF m 2 #[.val (.int p1), .unset, .unset, .unset, .unset, .unset, .unset] [(.int (3 : Int32)), (.int p1)])) _
    refine XS.iand X0.here hx rfl (hb hby at_2) rfl ?_
    show Steps p.tables e below (s₁.setTop (mkF m 3 #[.val (.int p1), .unset, .unset, .unset, .unset, .unset, .unset] [(.int (p1 &&& (3 : Int32)))])) _
    rw [hk]
    show Steps p.tables e below (s₁.setTop (mkF m 3 #[.val (.int p1), .unset, .unset, .unset, .unset, .unset, .unset] [(.int (0 : Int32))])) _
    refine XS.istoreN X0.here hx rfl (hb hby at_3) rfl (l' := #[.val (.int p1), .val (.int (0 : Int32)), .unset, .unset, .unset, .unset, .unset]) rfl ?_
    show Steps p.tables e below (s₁.setTop (mkF m 4 #[.val (.int p1), .val (.int (0 : Int32)), .unset, .unset, .unset, .unset, .unset] [])) _
    refine XS.iloadN X0.here hx rfl (hb hby at_4) rfl ?_
    show Steps p.tables e below (s₁.setTop (mkF m 5 #[.val (.int p1), .val (.int (0 : Int32)), .unset, .unset, .unset, .unset, .unset] [(.int (0 : Int32))])) _
    refine XS.ifNo X0.here hx rfl (hb hby at_5) rfl ((if0 _ _).trans (teq (by decide : (0 : Int32) = (0 : Int32))).2) ?_
    show Steps p.tables e below (s₁.setTop (mkF m 8 #[.val (.int p1), .val (.int (0 : Int32)), .unset, .unset, .unset, .unset, .unset] [])) _
    refine st1 _ ?_
    show Steps p.tables e below (T1.setTop (mkF m 11 #[.val (.int p1), .val (.int (0 : Int32)), .unset, .unset, .unset, .unset, .unset] [(.ref s_EXPANSIONS)])) _
    refine XS.astoreN X1.here hx rfl (hb hby at_11) rfl rfl (l' := #[.val (.int p1), .val (.int (0 : Int32)), .val (.ref s_EXPANSIONS), .unset, .unset, .unset, .unset]) rfl ?_
    show Steps p.tables e below (T1.setTop (mkF m 12 #[.val (.int p1), .val (.int (0 : Int32)), .val (.ref s_EXPANSIONS), .unset, .unset, .unset, .unset] [])) _
    refine X1.ldcInt hx hown (mvT hZ (hw _ (List.mem_of_getElem? (i := 3) rfl))) (g := (mkF m 12 #[.val (.int p1), .val (.int (0 : Int32)), .val (.ref s_EXPANSIONS), .unset, .unset, .unset, .unset] [])) rfl (hb hby at_12) _ ?_
    show Steps p.tables e below (T1.setTop (mkF m 14 #[.val (.int p1), .val (.int (0 : Int32)), .val (.ref s_EXPANSIONS), .unset, .unset, .unset, .unset] [(.int (64001 : Int32))])) _
    refine XS.istoreN X1.here hx rfl (hb hby at_14) rfl (l' := #[.val (.int p1), .val (.int (0 : Int32)), .val (.ref s_EXPANSIONS), .val (.int (64001 : Int32)), .unset, .unset, .unset]) rfl ?_
    show Steps p.tables e below (T1.setTop (mkF m 15 #[.val (.int p1), .val (.int (0 : Int32)), .val (.ref s_EXPANSIONS), .val (.int (64001 : Int32)), .unset, .unset, .unset] [])) _
    refine XS.iconst X1.here hx rfl (hb hby at_15) ?_
    show Steps p.tables e below (T1.setTop (mkF m 16 #[.val (.int p1), .val (.int (0 : Int32)), .val (.ref s_EXPANSIONS), .val (.int (64001 : Int32)), .unset, .unset, .unset] [(.int (1 : Int32))])) _
    refine XS.istore X1.here hx rfl (hb hby at_16) rfl (l' := #[.val (.int p1), .val (.int (0 : Int32)), .val (.ref s_EXPANSIONS), .val (.int (64001 : Int32)), .val (.int (1 : Int32)), .unset, .unset]) rfl ?_
    show Steps p.tables e below (T1.setTop (mkF m 18 #[.val (.int p1), .val (.int (0 : Int32)), .val (.ref s_EXPANSIONS), .val (.int (64001 : Int32)), .val (.int (1 : Int32)), .unset, .unset] [])) _
    refine XS.goto X1.here hx rfl (pc0 := 18) (pc' := 67) rfl (hb hby at_18) (by decide) (by decide) ?_
    show Steps p.tables e below (T1.setTop (mkF m 67 #[.val (.int p1), .val (.int (0 : Int32)), .val (.ref s_EXPANSIONS), .val (.int (64001 : Int32)), .val (.int (1 : Int32)), .unset, .unset] [])) _
    refine XS.aloadN X1.here hx rfl (hb hby at_67) rfl rfl ?_
    show Steps p.tables e below (T1.setTop (mkF m 68 #[.val (.int p1), .val (.int (0 : Int32)), .val (.ref s_EXPANSIONS), .val (.int (64001 : Int32)), .val (.int (1 : Int32)), .unset, .unset] [(.ref s_EXPANSIONS)])) _
    refine st2.trans ?_
    show Steps p.tables e below (T2.setTop (mkF m 71 #[.val (.int p1), .val (.int (0 : Int32)), .val (.ref s_EXPANSIONS), .val (.int (64001 : Int32)), .val (.int (1 : Int32)), .unset, .unset] [(.int ((64000 : Int32) + (1 : Int32)))])) _
    refine XS.istore X2.here hx rfl (hb hby at_71) rfl (l' := #[.val (.int p1), .val (.int (0 : Int32)), .val (.ref s_EXPANSIONS), .val (.int (64001 : Int32)), .val (.int (1 : Int32)), .val (.int ((64000 : Int32) + (1 : Int32))), .unset]) rfl ?_
    show Steps p.tables e below (T2.setTop (mkF m 73 #[.val (.int p1), .val (.int (0 : Int32)), .val (.ref s_EXPANSIONS), .val (.int (64001 : Int32)), .val (.int (1 : Int32)), .val (.int ((64000 : Int32) + (1 : Int32))), .unset] [])) _
    refine XS.aloadN X2.here hx rfl (hb hby at_73) rfl rfl ?_
    show Steps p.tables e below (T2.setTop (mkF m 74 #[.val (.int p1), .val (.int (0 : Int32)), .val (.ref s_EXPANSIONS), .val (.int (64001 : Int32)), .val (.int (1 : Int32)), .val (.int ((64000 : Int32) + (1 : Int32))), .unset] [(.ref s_EXPANSIONS)])) _
    refine st3.trans ?_
    show Steps p.tables e below (T3.setTop (mkF m 77 #[.val (.int p1), .val (.int (0 : Int32)), .val (.ref s_EXPANSIONS), .val (.int (64001 : Int32)), .val (.int (1 : Int32)), .val (.int ((64000 : Int32) + (1 : Int32))), .unset] [(.int (64000 : Int32))])) _
    refine XS.istore X3.here hx rfl (hb hby at_77) rfl (l' := #[.val (.int p1), .val (.int (0 : Int32)), .val (.ref s_EXPANSIONS), .val (.int (64001 : Int32)), .val (.int (1 : Int32)), .val (.int ((64000 : Int32) + (1 : Int32))), .val (.int (64000 : Int32))]) rfl ?_
    show Steps p.tables e below (T3.setTop (mkF m 79 #[.val (.int p1), .val (.int (0 : Int32)), .val (.ref s_EXPANSIONS), .val (.int (64001 : Int32)), .val (.int (1 : Int32)), .val (.int ((64000 : Int32) + (1 : Int32))), .val (.int (64000 : Int32))] [])) _
    refine XS.iload X3.here hx rfl (hb hby at_79) rfl ?_
    show Steps p.tables e below (T3.setTop (mkF m 81 #[.val (.int p1), .val (.int (0 : Int32)), .val (.ref s_EXPANSIONS), .val (.int (64001 : Int32)), .val (.int (1 : Int32)), .val (.int ((64000 : Int32) + (1 : Int32))), .val (.int (64000 : Int32))] [(.int ((64000 : Int32) + (1 : Int32)))])) _
    refine XS.iloadN X3.here hx rfl (hb hby at_81) rfl ?_
    show Steps p.tables e below (T3.setTop (mkF m 82 #[.val (.int p1), .val (.int (0 : Int32)), .val (.ref s_EXPANSIONS), .val (.int (64001 : Int32)), .val (.int (1 : Int32)), .val (.int ((64000 : Int32) + (1 : Int32))), .val (.int (64000 : Int32))] [(.int (64001 : Int32)), (.int ((64000 : Int32) + (1 : Int32)))])) _
    refine XS.icmpNo X3.here hx rfl (hb hby at_82) rfl (teq (by decide : ((64000 : Int32) + (1 : Int32)) = (64001 : Int32))).2 ?_
    show Steps p.tables e below (T3.setTop (mkF m 85 #[.val (.int p1), .val (.int (0 : Int32)), .val (.ref s_EXPANSIONS), .val (.int (64001 : Int32)), .val (.int (1 : Int32)), .val (.int ((64000 : Int32) + (1 : Int32))), .val (.int (64000 : Int32))] [])) _
    refine XS.iload X3.here hx rfl (hb hby at_85) rfl ?_
    show Steps p.tables e below (T3.setTop (mkF m 87 #[.val (.int p1), .val (.int (0 : Int32)), .val (.ref s_EXPANSIONS), .val (.int (64001 : Int32)), .val (.int (1 : Int32)), .val (.int ((64000 : Int32) + (1 : Int32))), .val (.int (64000 : Int32))] [(.int ((64000 : Int32) + (1 : Int32)))])) _
    refine XS.iload X3.here hx rfl (hb hby at_87) rfl ?_
    show Steps p.tables e below (T3.setTop (mkF m 89 #[.val (.int p1), .val (.int (0 : Int32)), .val (.ref s_EXPANSIONS), .val (.int (64001 : Int32)), .val (.int (1 : Int32)), .val (.int ((64000 : Int32) + (1 : Int32))), .val (.int (64000 : Int32))] [(.int (64000 : Int32)), (.int ((64000 : Int32) + (1 : Int32)))])) _
    refine XS.isub X3.here hx rfl (hb hby at_89) rfl ?_
    show Steps p.tables e below (T3.setTop (mkF m 90 #[.val (.int p1), .val (.int (0 : Int32)), .val (.ref s_EXPANSIONS), .val (.int (64001 : Int32)), .val (.int (1 : Int32)), .val (.int ((64000 : Int32) + (1 : Int32))), .val (.int (64000 : Int32))] [(.int (((64000 : Int32) + (1 : Int32)) - (64000 : Int32)))])) _
    refine XS.iload X3.here hx rfl (hb hby at_90) rfl ?_
    show Steps p.tables e below (T3.setTop (mkF m 92 #[.val (.int p1), .val (.int (0 : Int32)), .val (.ref s_EXPANSIONS), .val (.int (64001 : Int32)), .val (.int (1 : Int32)), .val (.int ((64000 : Int32) + (1 : Int32))), .val (.int (64000 : Int32))] [(.int (1 : Int32)), (.int (((64000 : Int32) + (1 : Int32)) - (64000 : Int32)))])) _
    refine XS.icmpNo X3.here hx rfl (hb hby at_92) rfl (teq (by decide : (((64000 : Int32) + (1 : Int32)) - (64000 : Int32)) = (1 : Int32))).2 ?_
    show Steps p.tables e below (T3.setTop (mkF m 95 #[.val (.int p1), .val (.int (0 : Int32)), .val (.ref s_EXPANSIONS), .val (.int (64001 : Int32)), .val (.int (1 : Int32)), .val (.int ((64000 : Int32) + (1 : Int32))), .val (.int (64000 : Int32))] [])) _
    refine XS.iconst X3.here hx rfl (hb hby at_95) ?_
    show Steps p.tables e below (T3.setTop (mkF m 96 #[.val (.int p1), .val (.int (0 : Int32)), .val (.ref s_EXPANSIONS), .val (.int (64001 : Int32)), .val (.int (1 : Int32)), .val (.int ((64000 : Int32) + (1 : Int32))), .val (.int (64000 : Int32))] [(.int (1 : Int32))])) _
    refine XS.goto X3.here hx rfl (pc0 := 96) (pc' := 100) rfl (hb hby at_96) (by decide) (by decide) ?_
    show Steps p.tables e below (T3.setTop (mkF m 100 #[.val (.int p1), .val (.int (0 : Int32)), .val (.ref s_EXPANSIONS), .val (.int (64001 : Int32)), .val (.int (1 : Int32)), .val (.int ((64000 : Int32) + (1 : Int32))), .val (.int (64000 : Int32))] [(.int (1 : Int32))])) _
    exact retN X3 hx (t := .boolean) Bd.returns (by simp) (hb hby at_100) hr
  · show own_Q (some (.int (1 : Int32))) h0 n0 _ T3.heap _
    rw [e3]
    exact ⟨rfl, N3, rfl⟩
theorem d1_16 : decode prog_87_method_5_code 16 = .ok (.aload_n 0, 1) := by decide +kernel
theorem d1_17 : decode prog_87_method_5_code 17 = .ok (.getfield 39, 3) := by decide +kernel
set_option maxRecDepth 65536 in
set_option maxHeartbeats 40000000 in
theorem r_val_1 (l : Launch) (Z : State) (a0 : Array Value) (hw : ∀ d ∈ tables_1, d.before a0 Z = true) (ws : List Jvm.Cond) (s_EXPANSIONS s_PARAMETER_CHARACTERS s_NODES s_CHARACTERS : Addr) (h0 : Heap) (n0 : Nat) (Z0 : n0 ≤ h0.size) (G : own_Ctx Z h0 s_EXPANSIONS s_PARAMETER_CHARACTERS s_NODES s_CHARACTERS)   :
    MetFree l (⟨"com/example/rattan/rattan/storage/xml/EntityLimit", "propertyValue", "()I"⟩ : MethodName) (head1 (Jvm.Cond.code (⟨"com/example/rattan/rattan/storage/xml/EntityLimit", "propertyValue", "()I"⟩ : MethodName) prog_87_method_5_code 1 (some .int) :: ws) ({ frames := 0, cells := 0, slots := 0, locals := 0 } : Room)) (fun a U => a = #[(.ref s_CHARACTERS)] ∧ Z.Warmed39 U.vm ∧ U.heap = h0) (fun _ _ _ _ _ => True) (fun _ U o U' => ∃ v L, o = .returned v ∧ own_Q (some (.int (50000000 : Int32))) h0 n0 v U'.heap L ∧ FrameEnd U o U' L ({ frames := 0, cells := 0, slots := 0, locals := 0 } : Room).cells ({ frames := 0, cells := 0, slots := 0, locals := 0 } : Room).slots) := by
  have G0 := G
  obtain ⟨S_EXPANSIONS, E_EXPANSIONS, O_EXPANSIONS, S_PARAMETER_CHARACTERS, E_PARAMETER_CHARACTERS, O_PARAMETER_CHARACTERS, S_NODES, E_NODES, O_NODES, S_CHARACTERS, E_CHARACTERS, O_CHARACTERS, F_limit_EXPANSIONS, F_limit_PARAMETER_CHARACTERS, F_limit_NODES, F_limit_CHARACTERS⟩ := G
  refine MetFree.of_bodySF (plainFor_of_name pn_0) hisR ?_
  intro p e s m args below meth c s₁ Bd hml0 hP hK
  obtain ⟨rfl, hZ, hh⟩ := hP
  have hx := Bd.exec
  have hby := Bd.bytes
  have hml : c.maxLocals = 1 := hml0
  have hown : s.vm.findClass "com/example/rattan/rattan/storage/xml/EntityLimit" = some m.cls := findClass_of_methodNamed Bd.named
  have hnm := (name_of_methodNamed Bd.named Bd.method).1
  have X0 : Stand p l e ({ frames := 0, cells := 0, slots := 0, locals := 0 } : Room) s m #[(.ref s_CHARACTERS)] below meth c s₁ [] 0 0 := Stand.of_body Bd
  have e0 : s₁.heap = h0 := by rw [← hh, Bd.state]; rfl
  have N0 := Fr.nil n0
  have pre0 : ∀ t, Steps p.tables e below (s₁.setTop (mkF m 0 #[.val (.ref s_CHARACTERS)] [])) t → Steps p.tables e below (s₁.setTop (entryFrame m #[(.ref s_CHARACTERS)] 1)) t := fun t k => castTop (ef_1_0 m s_CHARACTERS) k
  obtain ⟨T1, X1, e1, st1⟩ := getS2 X0 hx hZ hown (host := "") (Or.inl (hw _ (List.mem_of_getElem? (i := 9) rfl))) Via.refl e0 S_EXPANSIONS (g := (mkF m 1 #[.val (.ref s_CHARACTERS)] [(.ref s_CHARACTERS)])) rfl (hb hby d1_1)
  obtain ⟨T2, X2, e2, st2⟩ := getF X1 hx hZ hown (host := "") (Or.inl (hw _ (List.mem_of_getElem? (i := 10) rfl))) Via.refl e1 F_limit_CHARACTERS (g := (mkF m 17 #[.val (.ref s_CHARACTERS)] [(.ref s_CHARACTERS)])) rfl rfl (hb hby d1_17)
  obtain ⟨fs, hr, hrun, hended, hW, hsame⟩ := X2.leave (v := some (.int (50000000 : Int32))) (fun h => by rw [Bd.returns] at h; cases h)
  refine ⟨_, _, pre0 _ ?_, hrun, hended, _, _, rfl, ?_, ⟨_, rfl⟩, hW, hsame.mono (by decide) (by decide)⟩
  · show Steps p.tables e below (s₁.setTop (mkF m 0 #[.val (.ref s_CHARACTERS)] [])) _
    refine XS.aloadN X0.here hx rfl (hb hby d1_0) rfl rfl ?_
    show Steps p.tables e below (s₁.setTop (mkF m 1 #[.val (.ref s_CHARACTERS)] [(.ref s_CHARACTERS)])) _
    refine st1 _ ?_
    show Steps p.tables e below (T1.setTop (mkF m 4 #[.val (.ref s_CHARACTERS)] [(.ref s_EXPANSIONS), (.ref s_CHARACTERS)])) _
    refine Jvm.RoadKit.acmp (g := (mkF m 4 #[.val (.ref s_CHARACTERS)] [(.ref s_EXPANSIONS), (.ref s_CHARACTERS)])) X1 hx rfl rfl rfl (pc0 := 4) (pc' := 16) (same := false) rfl (hb hby d1_4) rfl (decide_eq_false fun q => (Fld.ne O_CHARACTERS O_EXPANSIONS (fun q => absurd (Value.int.inj q) (by decide))) (Value.ref.inj q)) (by decide) (by decide) ?_
    show Steps p.tables e below (T1.setTop (mkF m 16 #[.val (.ref s_CHARACTERS)] [])) _
    refine XS.aloadN X1.here hx rfl (hb hby d1_16) rfl rfl ?_
    show Steps p.tables e below (T1.setTop (mkF m 17 #[.val (.ref s_CHARACTERS)] [(.ref s_CHARACTERS)])) _
    refine st2 _ ?_
    show Steps p.tables e below (T2.setTop (mkF m 20 #[.val (.ref s_CHARACTERS)] [(.int (50000000 : Int32))])) _
    exact retI X2 hx Bd.returns (hb hby d1_20) hr
  · show own_Q (some (.int (50000000 : Int32))) h0 n0 _ T2.heap _
    rw [e2]
    exact ⟨rfl, N0, rfl⟩
set_option maxRecDepth 65536 in
set_option maxHeartbeats 40000000 in
theorem r_lim_1 (l : Launch) (Z : State) (a0 : Array Value) (hw : ∀ d ∈ tables_1, d.before a0 Z = true) (ws : List Jvm.Cond) (s_EXPANSIONS s_PARAMETER_CHARACTERS s_NODES s_CHARACTERS : Addr) (h0 : Heap) (n0 : Nat) (Z0 : n0 ≤ h0.size) (G : own_Ctx Z h0 s_EXPANSIONS s_PARAMETER_CHARACTERS s_NODES s_CHARACTERS)   :
    MetFree l (⟨"com/example/rattan/rattan/storage/xml/EntityLimit", "limit", "()I"⟩ : MethodName) (head1 (Jvm.Cond.code (⟨"com/example/rattan/rattan/storage/xml/EntityLimit", "limit", "()I"⟩ : MethodName) prog_87_method_6_code 1 (some .int) :: ws) ({ frames := 0, cells := 0, slots := 0, locals := 0 } : Room)) (fun a U => a = #[(.ref s_CHARACTERS)] ∧ Z.Warmed39 U.vm ∧ U.heap = h0) (fun _ _ _ _ _ => True) (fun _ U o U' => ∃ v L, o = .returned v ∧ own_Q (some (.int (50000000 : Int32))) h0 n0 v U'.heap L ∧ FrameEnd U o U' L ({ frames := 0, cells := 0, slots := 0, locals := 0 } : Room).cells ({ frames := 0, cells := 0, slots := 0, locals := 0 } : Room).slots) := by
  have G0 := G
  obtain ⟨S_EXPANSIONS, E_EXPANSIONS, O_EXPANSIONS, S_PARAMETER_CHARACTERS, E_PARAMETER_CHARACTERS, O_PARAMETER_CHARACTERS, S_NODES, E_NODES, O_NODES, S_CHARACTERS, E_CHARACTERS, O_CHARACTERS, F_limit_EXPANSIONS, F_limit_PARAMETER_CHARACTERS, F_limit_NODES, F_limit_CHARACTERS⟩ := G
  refine MetFree.of_bodySF (plainFor_of_name pn_0) hisR ?_
  intro p e s m args below meth c s₁ Bd hml0 hP hK
  obtain ⟨rfl, hZ, hh⟩ := hP
  have hx := Bd.exec
  have hby := Bd.bytes
  have hml : c.maxLocals = 1 := hml0
  have hown : s.vm.findClass "com/example/rattan/rattan/storage/xml/EntityLimit" = some m.cls := findClass_of_methodNamed Bd.named
  have hnm := (name_of_methodNamed Bd.named Bd.method).1
  have X0 : Stand p l e ({ frames := 0, cells := 0, slots := 0, locals := 0 } : Room) s m #[(.ref s_CHARACTERS)] below meth c s₁ [] 0 0 := Stand.of_body Bd
  have e0 : s₁.heap = h0 := by rw [← hh, Bd.state]; rfl
  have N0 := Fr.nil n0
  have pre0 : ∀ t, Steps p.tables e below (s₁.setTop (mkF m 0 #[.val (.ref s_CHARACTERS)] [])) t → Steps p.tables e below (s₁.setTop (entryFrame m #[(.ref s_CHARACTERS)] 1)) t := fun t k => castTop (ef_2_1 m s_CHARACTERS) k
  obtain ⟨T1, X1, e1, st1⟩ := getF X0 hx hZ hown (host := "") (Or.inl (hw _ (List.mem_of_getElem? (i := 10) rfl))) Via.refl e0 F_limit_CHARACTERS (g := (mkF m 1 #[.val (.ref s_CHARACTERS)] [(.ref s_CHARACTERS)])) rfl rfl (hb hby d2_1)
  obtain ⟨fs, hr, hrun, hended, hW, hsame⟩ := X1.leave (v := some (.int (50000000 : Int32))) (fun h => by rw [Bd.returns] at h; cases h)
  refine ⟨_, _, pre0 _ ?_, hrun, hended, _, _, rfl, ?_, ⟨_, rfl⟩, hW, hsame.mono (by decide) (by decide)⟩
  · show Steps p.tables e below (s₁.setTop (mkF m 0 #[.val (.ref s_CHARACTERS)] [])) _
    refine XS.aloadN X0.here hx rfl (hb hby d2_0) rfl rfl ?_
    show Steps p.tables e below (s₁.setTop (mkF m 1 #[.val (.ref s_CHARACTERS)] [(.ref s_CHARACTERS)])) _
    refine st1 _ ?_
    show Steps p.tables e below (T1.setTop (mkF m 4 #[.val (.ref s_CHARACTERS)] [(.int (50000000 : Int32))])) _
    exact retI X1 hx Bd.returns (hb hby d2_4) hr
  · show own_Q (some (.int (50000000 : Int32))) h0 n0 _ T1.heap _
    rw [e1]
    exact ⟨rfl, N0, rfl⟩
set_option maxRecDepth 65536 in
set_option maxHeartbeats 40000000 in
theorem r_law_1 (l : Launch) (Z : State) (a0 : Array Value) (hw : ∀ d ∈ tables_1, d.before a0 Z = true) (ws : List Jvm.Cond) (s_EXPANSIONS s_PARAMETER_CHARACTERS s_NODES s_CHARACTERS : Addr) (h0 : Heap) (n0 : Nat) (Z0 : n0 ≤ h0.size) (G : own_Ctx Z h0 s_EXPANSIONS s_PARAMETER_CHARACTERS s_NODES s_CHARACTERS) (p1 : Int32) (hk : p1 &&& (3 : Int32) = (1 : Int32)) :
    MetFree l x (head1 (Jvm.Cond.code x code maxLocals ret :: ws) room_1) (fun a U => a = #[(.int p1)] ∧ Z.Warmed39 U.vm ∧ U.heap = h0) (fun _ _ _ _ _ => True) (fun _ U o U' => ∃ v L, o = .returned v ∧ own_Q (some (.int (1 : Int32))) h0 n0 v U'.heap L ∧ FrameEnd U o U' L 0 0) := by
  have G0 := G
  obtain ⟨S_EXPANSIONS, E_EXPANSIONS, O_EXPANSIONS, S_PARAMETER_CHARACTERS, E_PARAMETER_CHARACTERS, O_PARAMETER_CHARACTERS, S_NODES, E_NODES, O_NODES, S_CHARACTERS, E_CHARACTERS, O_CHARACTERS, F_limit_EXPANSIONS, F_limit_PARAMETER_CHARACTERS, F_limit_NODES, F_limit_CHARACTERS⟩ := G
  refine MetFree.of_bodySF (plainFor_of_name pn_1) hisR ?_
  intro p e s m args below meth c s₁ Bd hml0 hP hK
  obtain ⟨rfl, hZ, hh⟩ := hP
  have hx := Bd.exec
  have hby := Bd.bytes
  have hml : c.maxLocals = 7 := hml0
  have hown : s.vm.findClass "com/example/rattan/rattan/storage/xml/EntityLimitPropertyValuePinLaw" = some m.cls := findClass_of_methodNamed Bd.named
  have hnm := (name_of_methodNamed Bd.named Bd.method).1
  have X0 : Stand p l e room_1 s m #[(.int p1)] below meth c s₁ [] 0 0 := Stand.of_body Bd
  have e0 : s₁.heap = h0 := by rw [← hh, Bd.state]; rfl
  have N0 := Fr.nil n0
  have pre0 : ∀ t, Steps p.tables e below (s₁.setTop (mkF m 0 #[.val (.int p1), .unset, .unset, .unset, .unset, .unset, .unset] [])) t → Steps p.tables e below (s₁.setTop (entryFrame m #[(.int p1)] maxLocals)) t := fun t k => castTop (ef_0_2 m p1) k
  obtain ⟨T1, X1, e1, st1⟩ := getS2 X0 hx hZ hown (host := "") (Or.inl (hw _ (List.mem_of_getElem? (i := 23) rfl))) Via.refl e0 S_CHARACTERS (g := (mkF m 26 #[.val (.int p1), .val (.int (1 : Int32)), .unset, .unset, .unset, .unset, .unset] [])) rfl (hb hby at_26)
  obtain ⟨cq2, kq2, q2a, q2b, q2c⟩ := isOf hZ e1 E_CHARACTERS
  obtain ⟨_, _, ⟨T2, L2, k2, n2⟩, -, X2, ⟨Lc2, hQ2, l2, y2, z2⟩, st2⟩ := X1.virtualBack hx (y := (⟨"com/example/rattan/rattan/storage/xml/EntityLimit", "propertyValue", "()I"⟩ : MethodName)) (z := (⟨"com/example/rattan/rattan/storage/xml/EntityLimit", "propertyValue", "()I"⟩ : MethodName)) hown (mvT hZ (hw _ (List.mem_of_getElem? (i := 4) rfl))) (mvT hZ (hw _ (List.mem_of_getElem? (i := 5) rfl))) (notFace_of_selects (args := #[]) (mvT hZ (hw _ (List.mem_of_getElem? (i := 7) rfl)))) (mvT hZ (hw _ (List.mem_of_getElem? (i := 7) rfl))) (mvT hZ (hw _ (List.mem_of_getElem? (i := 6) rfl))) (by decide) (backOf (W := 0) (r_val_1 l Z a0 hw [] s_EXPANSIONS s_PARAMETER_CHARACTERS s_NODES s_CHARACTERS h0 n0 Z0 G0) hZ (hw _ (List.mem_of_getElem? (i := 8) rfl)) (hw _ (List.mem_of_getElem? (i := 1) rfl)) (by decide) (by decide)) q2a q2c (g := (mkF m 68 #[.val (.int p1), .val (.int (1 : Int32)), .val (.ref s_CHARACTERS), .val (.int (50000000 : Int32)), .val (.int (0 : Int32)), .unset, .unset] [(.ref s_CHARACTERS)])) rfl (by rw [hml]; rfl) (Steps.refl _) (argsL := []) (rest := []) (lenOf pd_0 rfl) rfl (by show 2 * 0 + _ ≤ _; exact Nat.le_of_eq rfl) (hb hby at_68) (fun _ _ => ⟨rfl, e1, (by decide : 0 + 0 ≤ _), (by decide : 0 + 0 ≤ _)⟩)
  dsimp only [Pt.U, Pt.locs, Pt.cells, Pt.slots] at X2 l2 y2 z2 st2 hQ2
  subst l2 y2 z2
  obtain ⟨rfl, N2q, e2⟩ := hQ2
  have N2 := Fr.app N0 N2q
  obtain ⟨cq3, kq3, q3a, q3b, q3c⟩ := isOf hZ e2 E_CHARACTERS
  obtain ⟨_, _, ⟨T3, L3, k3, n3⟩, -, X3, ⟨Lc3, hQ3, l3, y3, z3⟩, st3⟩ := X2.virtualBack hx (y := (⟨"com/example/rattan/rattan/storage/xml/EntityLimit", "limit", "()I"⟩ : MethodName)) (z := (⟨"com/example/rattan/rattan/storage/xml/EntityLimit", "limit", "()I"⟩ : MethodName)) hown (mvT hZ (hw _ (List.mem_of_getElem? (i := 12) rfl))) (mvT hZ (hw _ (List.mem_of_getElem? (i := 13) rfl))) (notFace_of_selects (args := #[]) (mvT hZ (hw _ (List.mem_of_getElem? (i := 15) rfl)))) (mvT hZ (hw _ (List.mem_of_getElem? (i := 15) rfl))) (mvT hZ (hw _ (List.mem_of_getElem? (i := 14) rfl))) (by decide) (backOf (W := 0) (r_lim_1 l Z a0 hw [] s_EXPANSIONS s_PARAMETER_CHARACTERS s_NODES s_CHARACTERS h0 n0 Z0 G0) hZ (hw _ (List.mem_of_getElem? (i := 16) rfl)) (hw _ (List.mem_of_getElem? (i := 1) rfl)) (by decide) (by decide)) q3a q3c (g := (mkF m 74 #[.val (.int p1), .val (.int (1 : Int32)), .val (.ref s_CHARACTERS), .val (.int (50000000 : Int32)), .val (.int (0 : Int32)), .val (.int (50000000 : Int32)), .unset] [(.ref s_CHARACTERS)])) rfl (by rw [hml]; rfl) (Steps.refl _) (argsL := []) (rest := []) (lenOf pd_0 rfl) rfl (by show 2 * 0 + _ ≤ _; exact Nat.le_of_eq rfl) (hb hby at_74) (fun _ _ => ⟨rfl, e2, (by decide : 0 + 0 ≤ _), (by decide : 0 + 0 ≤ _)⟩)
  dsimp only [Pt.U, Pt.locs, Pt.cells, Pt.slots] at X3 l3 y3 z3 st3 hQ3
  subst l3 y3 z3
  obtain ⟨rfl, N3q, e3⟩ := hQ3
  have N3 := Fr.app N2 N3q
  obtain ⟨fs, hr, hrun, hended, hW, hsame⟩ := X3.leave (v := some (.int (1 : Int32))) (fun h => by rw [Bd.returns] at h; cases h)
  refine ⟨_, _, pre0 _ ?_, hrun, hended, _, _, rfl, ?_, ⟨_, rfl⟩, hW, hsame.mono (by decide) (by decide)⟩
  · show Steps p.tables e below (s₁.setTop (mkF m 0 #[.val (.int p1), .unset, .unset, .unset, .unset, .unset, .unset] [])) _
    refine XS.iloadN X0.here hx rfl (hb hby at_0) rfl ?_
    show Steps p.tables e below (s₁.setTop (mkF m 1 #[.val (.int p1), .unset, .unset, .unset, .unset, .unset, .unset] [(.int p1)])) _
    refine XS.iconst X0.here hx rfl (hb hby at_1) ?_
    show Steps p.tables e below (s₁.setTop (mkF m 2 #[.val (.int p1), .unset, .unset, .unset, .unset, .unset, .unset] [(.int (3 : Int32)), (.int p1)])) _
    refine XS.iand X0.here hx rfl (hb hby at_2) rfl ?_
    show Steps p.tables e below (s₁.setTop (mkF m 3 #[.val (.int p1), .unset, .unset, .unset, .unset, .unset, .unset] [(.int (p1 &&& (3 : Int32)))])) _
    rw [hk]
    show Steps p.tables e below (s₁.setTop (mkF m 3 #[.val (.int p1), .unset, .unset, .unset, .unset, .unset, .unset] [(.int (1 : Int32))])) _
    refine XS.istoreN X0.here hx rfl (hb hby at_3) rfl (l' := #[.val (.int p1), .val (.int (1 : Int32)), .unset, .unset, .unset, .unset, .unset]) rfl ?_
    show Steps p.tables e below (s₁.setTop (mkF m 4 #[.val (.int p1), .val (.int (1 : Int32)), .unset, .unset, .unset, .unset, .unset] [])) _
    refine XS.iloadN X0.here hx rfl (hb hby at_4) rfl ?_
    show Steps p.tables e below (s₁.setTop (mkF m 5 #[.val (.int p1), .val (.int (1 : Int32)), .unset, .unset, .unset, .unset, .unset] [(.int (1 : Int32))])) _
    refine XS.ifYes X0.here hx rfl (pc0 := 5) (pc' := 21) rfl (hb hby at_5) rfl ((if0 _ _).trans (feq (by decide : ¬ ((1 : Int32) = (0 : Int32)))).2) (by decide) (by decide) ?_
    show Steps p.tables e below (s₁.setTop (mkF m 21 #[.val (.int p1), .val (.int (1 : Int32)), .unset, .unset, .unset, .unset, .unset] [])) _
    refine XS.iloadN X0.here hx rfl (hb hby at_21) rfl ?_
    show Steps p.tables e below (s₁.setTop (mkF m 22 #[.val (.int p1), .val (.int (1 : Int32)), .unset, .unset, .unset, .unset, .unset] [(.int (1 : Int32))])) _
    refine XS.iconst X0.here hx rfl (hb hby at_22) ?_
    show Steps p.tables e below (s₁.setTop (mkF m 23 #[.val (.int p1), .val (.int (1 : Int32)), .unset, .unset, .unset, .unset, .unset] [(.int (1 : Int32)), (.int (1 : Int32))])) _
    refine XS.icmpNo X0.here hx rfl (hb hby at_23) rfl (teq (by decide : (1 : Int32) = (1 : Int32))).2 ?_
    show Steps p.tables e below (s₁.setTop (mkF m 26 #[.val (.int p1), .val (.int (1 : Int32)), .unset, .unset, .unset, .unset, .unset] [])) _
    refine st1 _ ?_
    show Steps p.tables e below (T1.setTop (mkF m 29 #[.val (.int p1), .val (.int (1 : Int32)), .unset, .unset, .unset, .unset, .unset] [(.ref s_CHARACTERS)])) _
    refine XS.astoreN X1.here hx rfl (hb hby at_29) rfl rfl (l' := #[.val (.int p1), .val (.int (1 : Int32)), .val (.ref s_CHARACTERS), .unset, .unset, .unset, .unset]) rfl ?_
    show Steps p.tables e below (T1.setTop (mkF m 30 #[.val (.int p1), .val (.int (1 : Int32)), .val (.ref s_CHARACTERS), .unset, .unset, .unset, .unset] [])) _
    refine X1.ldcInt hx hown (mvT hZ (hw _ (List.mem_of_getElem? (i := 25) rfl))) (g := (mkF m 30 #[.val (.int p1), .val (.int (1 : Int32)), .val (.ref s_CHARACTERS), .unset, .unset, .unset, .unset] [])) rfl (hb hby at_30) _ ?_
    show Steps p.tables e below (T1.setTop (mkF m 32 #[.val (.int p1), .val (.int (1 : Int32)), .val (.ref s_CHARACTERS), .unset, .unset, .unset, .unset] [(.int (50000000 : Int32))])) _
    refine XS.istoreN X1.here hx rfl (hb hby at_32) rfl (l' := #[.val (.int p1), .val (.int (1 : Int32)), .val (.ref s_CHARACTERS), .val (.int (50000000 : Int32)), .unset, .unset, .unset]) rfl ?_
    show Steps p.tables e below (T1.setTop (mkF m 33 #[.val (.int p1), .val (.int (1 : Int32)), .val (.ref s_CHARACTERS), .val (.int (50000000 : Int32)), .unset, .unset, .unset] [])) _
    refine XS.iconst X1.here hx rfl (hb hby at_33) ?_
    show Steps p.tables e below (T1.setTop (mkF m 34 #[.val (.int p1), .val (.int (1 : Int32)), .val (.ref s_CHARACTERS), .val (.int (50000000 : Int32)), .unset, .unset, .unset] [(.int (0 : Int32))])) _
    refine XS.istore X1.here hx rfl (hb hby at_34) rfl (l' := #[.val (.int p1), .val (.int (1 : Int32)), .val (.ref s_CHARACTERS), .val (.int (50000000 : Int32)), .val (.int (0 : Int32)), .unset, .unset]) rfl ?_
    show Steps p.tables e below (T1.setTop (mkF m 36 #[.val (.int p1), .val (.int (1 : Int32)), .val (.ref s_CHARACTERS), .val (.int (50000000 : Int32)), .val (.int (0 : Int32)), .unset, .unset] [])) _
    refine XS.goto X1.here hx rfl (pc0 := 36) (pc' := 67) rfl (hb hby at_36) (by decide) (by decide) ?_
    show Steps p.tables e below (T1.setTop (mkF m 67 #[.val (.int p1), .val (.int (1 : Int32)), .val (.ref s_CHARACTERS), .val (.int (50000000 : Int32)), .val (.int (0 : Int32)), .unset, .unset] [])) _
    refine XS.aloadN X1.here hx rfl (hb hby at_67) rfl rfl ?_
    show Steps p.tables e below (T1.setTop (mkF m 68 #[.val (.int p1), .val (.int (1 : Int32)), .val (.ref s_CHARACTERS), .val (.int (50000000 : Int32)), .val (.int (0 : Int32)), .unset, .unset] [(.ref s_CHARACTERS)])) _
    refine st2.trans ?_
    show Steps p.tables e below (T2.setTop (mkF m 71 #[.val (.int p1), .val (.int (1 : Int32)), .val (.ref s_CHARACTERS), .val (.int (50000000 : Int32)), .val (.int (0 : Int32)), .unset, .unset] [(.int (50000000 : Int32))])) _
    refine XS.istore X2.here hx rfl (hb hby at_71) rfl (l' := #[.val (.int p1), .val (.int (1 : Int32)), .val (.ref s_CHARACTERS), .val (.int (50000000 : Int32)), .val (.int (0 : Int32)), .val (.int (50000000 : Int32)), .unset]) rfl ?_
    show Steps p.tables e below (T2.setTop (mkF m 73 #[.val (.int p1), .val (.int (1 : Int32)), .val (.ref s_CHARACTERS), .val (.int (50000000 : Int32)), .val (.int (0 : Int32)), .val (.int (50000000 : Int32)), .unset] [])) _
    refine XS.aloadN X2.here hx rfl (hb hby at_73) rfl rfl ?_
    show Steps p.tables e below (T2.setTop (mkF m 74 #[.val (.int p1), .val (.int (1 : Int32)), .val (.ref s_CHARACTERS), .val (.int (50000000 : Int32)), .val (.int (0 : Int32)), .val (.int (50000000 : Int32)), .unset] [(.ref s_CHARACTERS)])) _
    refine st3.trans ?_
    show Steps p.tables e below (T3.setTop (mkF m 77 #[.val (.int p1), .val (.int (1 : Int32)), .val (.ref s_CHARACTERS), .val (.int (50000000 : Int32)), .val (.int (0 : Int32)), .val (.int (50000000 : Int32)), .unset] [(.int (50000000 : Int32))])) _
    refine XS.istore X3.here hx rfl (hb hby at_77) rfl (l' := #[.val (.int p1), .val (.int (1 : Int32)), .val (.ref s_CHARACTERS), .val (.int (50000000 : Int32)), .val (.int (0 : Int32)), .val (.int (50000000 : Int32)), .val (.int (50000000 : Int32))]) rfl ?_
    show Steps p.tables e below (T3.setTop (mkF m 79 #[.val (.int p1), .val (.int (1 : Int32)), .val (.ref s_CHARACTERS), .val (.int (50000000 : Int32)), .val (.int (0 : Int32)), .val (.int (50000000 : Int32)), .val (.int (50000000 : Int32))] [])) _
    refine XS.iload X3.here hx rfl (hb hby at_79) rfl ?_
    show Steps p.tables e below (T3.setTop (mkF m 81 #[.val (.int p1), .val (.int (1 : Int32)), .val (.ref s_CHARACTERS), .val (.int (50000000 : Int32)), .val (.int (0 : Int32)), .val (.int (50000000 : Int32)), .val (.int (50000000 : Int32))] [(.int (50000000 : Int32))])) _
    refine XS.iloadN X3.here hx rfl (hb hby at_81) rfl ?_
    show Steps p.tables e below (T3.setTop (mkF m 82 #[.val (.int p1), .val (.int (1 : Int32)), .val (.ref s_CHARACTERS), .val (.int (50000000 : Int32)), .val (.int (0 : Int32)), .val (.int (50000000 : Int32)), .val (.int (50000000 : Int32))] [(.int (50000000 : Int32)), (.int (50000000 : Int32))])) _
    refine XS.icmpNo X3.here hx rfl (hb hby at_82) rfl (teq (by decide : (50000000 : Int32) = (50000000 : Int32))).2 ?_
    show Steps p.tables e below (T3.setTop (mkF m 85 #[.val (.int p1), .val (.int (1 : Int32)), .val (.ref s_CHARACTERS), .val (.int (50000000 : Int32)), .val (.int (0 : Int32)), .val (.int (50000000 : Int32)), .val (.int (50000000 : Int32))] [])) _
    refine XS.iload X3.here hx rfl (hb hby at_85) rfl ?_
    show Steps p.tables e below (T3.setTop (mkF m 87 #[.val (.int p1), .val (.int (1 : Int32)), .val (.ref s_CHARACTERS), .val (.int (50000000 : Int32)), .val (.int (0 : Int32)), .val (.int (50000000 : Int32)), .val (.int (50000000 : Int32))] [(.int (50000000 : Int32))])) _
    refine XS.iload X3.here hx rfl (hb hby at_87) rfl ?_
    show Steps p.tables e below (T3.setTop (mkF m 89 #[.val (.int p1), .val (.int (1 : Int32)), .val (.ref s_CHARACTERS), .val (.int (50000000 : Int32)), .val (.int (0 : Int32)), .val (.int (50000000 : Int32)), .val (.int (50000000 : Int32))] [(.int (50000000 : Int32)), (.int (50000000 : Int32))])) _
    refine XS.isub X3.here hx rfl (hb hby at_89) rfl ?_
    show Steps p.tables e below (T3.setTop (mkF m 90 #[.val (.int p1), .val (.int (1 : Int32)), .val (.ref s_CHARACTERS), .val (.int (50000000 : Int32)), .val (.int (0 : Int32)), .val (.int (50000000 : Int32)), .val (.int (50000000 : Int32))] [(.int ((50000000 : Int32) - (50000000 : Int32)))])) _
    refine XS.iload X3.here hx rfl (hb hby at_90) rfl ?_
    show Steps p.tables e below (T3.setTop (mkF m 92 #[.val (.int p1), .val (.int (1 : Int32)), .val (.ref s_CHARACTERS), .val (.int (50000000 : Int32)), .val (.int (0 : Int32)), .val (.int (50000000 : Int32)), .val (.int (50000000 : Int32))] [(.int (0 : Int32)), (.int ((50000000 : Int32) - (50000000 : Int32)))])) _
    refine XS.icmpNo X3.here hx rfl (hb hby at_92) rfl (teq (by decide : ((50000000 : Int32) - (50000000 : Int32)) = (0 : Int32))).2 ?_
    show Steps p.tables e below (T3.setTop (mkF m 95 #[.val (.int p1), .val (.int (1 : Int32)), .val (.ref s_CHARACTERS), .val (.int (50000000 : Int32)), .val (.int (0 : Int32)), .val (.int (50000000 : Int32)), .val (.int (50000000 : Int32))] [])) _
    refine XS.iconst X3.here hx rfl (hb hby at_95) ?_
    show Steps p.tables e below (T3.setTop (mkF m 96 #[.val (.int p1), .val (.int (1 : Int32)), .val (.ref s_CHARACTERS), .val (.int (50000000 : Int32)), .val (.int (0 : Int32)), .val (.int (50000000 : Int32)), .val (.int (50000000 : Int32))] [(.int (1 : Int32))])) _
    refine XS.goto X3.here hx rfl (pc0 := 96) (pc' := 100) rfl (hb hby at_96) (by decide) (by decide) ?_
    show Steps p.tables e below (T3.setTop (mkF m 100 #[.val (.int p1), .val (.int (1 : Int32)), .val (.ref s_CHARACTERS), .val (.int (50000000 : Int32)), .val (.int (0 : Int32)), .val (.int (50000000 : Int32)), .val (.int (50000000 : Int32))] [(.int (1 : Int32))])) _
    exact retN X3 hx (t := .boolean) Bd.returns (by simp) (hb hby at_100) hr
  · show own_Q (some (.int (1 : Int32))) h0 n0 _ T3.heap _
    rw [e3]
    exact ⟨rfl, N3, rfl⟩
set_option maxRecDepth 65536 in
set_option maxHeartbeats 40000000 in
theorem r_val_2 (l : Launch) (Z : State) (a0 : Array Value) (hw : ∀ d ∈ tables_1, d.before a0 Z = true) (ws : List Jvm.Cond) (s_EXPANSIONS s_PARAMETER_CHARACTERS s_NODES s_CHARACTERS : Addr) (h0 : Heap) (n0 : Nat) (Z0 : n0 ≤ h0.size) (G : own_Ctx Z h0 s_EXPANSIONS s_PARAMETER_CHARACTERS s_NODES s_CHARACTERS)   :
    MetFree l (⟨"com/example/rattan/rattan/storage/xml/EntityLimit", "propertyValue", "()I"⟩ : MethodName) (head1 (Jvm.Cond.code (⟨"com/example/rattan/rattan/storage/xml/EntityLimit", "propertyValue", "()I"⟩ : MethodName) prog_87_method_5_code 1 (some .int) :: ws) ({ frames := 0, cells := 0, slots := 0, locals := 0 } : Room)) (fun a U => a = #[(.ref s_NODES)] ∧ Z.Warmed39 U.vm ∧ U.heap = h0) (fun _ _ _ _ _ => True) (fun _ U o U' => ∃ v L, o = .returned v ∧ own_Q (some (.int (3000000 : Int32))) h0 n0 v U'.heap L ∧ FrameEnd U o U' L ({ frames := 0, cells := 0, slots := 0, locals := 0 } : Room).cells ({ frames := 0, cells := 0, slots := 0, locals := 0 } : Room).slots) := by
  have G0 := G
  obtain ⟨S_EXPANSIONS, E_EXPANSIONS, O_EXPANSIONS, S_PARAMETER_CHARACTERS, E_PARAMETER_CHARACTERS, O_PARAMETER_CHARACTERS, S_NODES, E_NODES, O_NODES, S_CHARACTERS, E_CHARACTERS, O_CHARACTERS, F_limit_EXPANSIONS, F_limit_PARAMETER_CHARACTERS, F_limit_NODES, F_limit_CHARACTERS⟩ := G
  refine MetFree.of_bodySF (plainFor_of_name pn_0) hisR ?_
  intro p e s m args below meth c s₁ Bd hml0 hP hK
  obtain ⟨rfl, hZ, hh⟩ := hP
  have hx := Bd.exec
  have hby := Bd.bytes
  have hml : c.maxLocals = 1 := hml0
  have hown : s.vm.findClass "com/example/rattan/rattan/storage/xml/EntityLimit" = some m.cls := findClass_of_methodNamed Bd.named
  have hnm := (name_of_methodNamed Bd.named Bd.method).1
  have X0 : Stand p l e ({ frames := 0, cells := 0, slots := 0, locals := 0 } : Room) s m #[(.ref s_NODES)] below meth c s₁ [] 0 0 := Stand.of_body Bd
  have e0 : s₁.heap = h0 := by rw [← hh, Bd.state]; rfl
  have N0 := Fr.nil n0
  have pre0 : ∀ t, Steps p.tables e below (s₁.setTop (mkF m 0 #[.val (.ref s_NODES)] [])) t → Steps p.tables e below (s₁.setTop (entryFrame m #[(.ref s_NODES)] 1)) t := fun t k => castTop (ef_1_0 m s_NODES) k
  obtain ⟨T1, X1, e1, st1⟩ := getS2 X0 hx hZ hown (host := "") (Or.inl (hw _ (List.mem_of_getElem? (i := 9) rfl))) Via.refl e0 S_EXPANSIONS (g := (mkF m 1 #[.val (.ref s_NODES)] [(.ref s_NODES)])) rfl (hb hby d1_1)
  obtain ⟨T2, X2, e2, st2⟩ := getF X1 hx hZ hown (host := "") (Or.inl (hw _ (List.mem_of_getElem? (i := 10) rfl))) Via.refl e1 F_limit_NODES (g := (mkF m 17 #[.val (.ref s_NODES)] [(.ref s_NODES)])) rfl rfl (hb hby d1_17)
  obtain ⟨fs, hr, hrun, hended, hW, hsame⟩ := X2.leave (v := some (.int (3000000 : Int32))) (fun h => by rw [Bd.returns] at h; cases h)
  refine ⟨_, _, pre0 _ ?_, hrun, hended, _, _, rfl, ?_, ⟨_, rfl⟩, hW, hsame.mono (by decide) (by decide)⟩
  · show Steps p.tables e below (s₁.setTop (mkF m 0 #[.val (.ref s_NODES)] [])) _
    refine XS.aloadN X0.here hx rfl (hb hby d1_0) rfl rfl ?_
    show Steps p.tables e below (s₁.setTop (mkF m 1 #[.val (.ref s_NODES)] [(.ref s_NODES)])) _
    refine st1 _ ?_
    show Steps p.tables e below (T1.setTop (mkF m 4 #[.val (.ref s_NODES)] [(.ref s_EXPANSIONS), (.ref s_NODES)])) _
    refine Jvm.RoadKit.acmp (g := (mkF m 4 #[.val (.ref s_NODES)] [(.ref s_EXPANSIONS), (.ref s_NODES)])) X1 hx rfl rfl rfl (pc0 := 4) (pc' := 16) (same := false) rfl (hb hby d1_4) rfl (decide_eq_false fun q => (Fld.ne O_NODES O_EXPANSIONS (fun q => absurd (Value.int.inj q) (by decide))) (Value.ref.inj q)) (by decide) (by decide) ?_
    show Steps p.tables e below (T1.setTop (mkF m 16 #[.val (.ref s_NODES)] [])) _
    refine XS.aloadN X1.here hx rfl (hb hby d1_16) rfl rfl ?_
    show Steps p.tables e below (T1.setTop (mkF m 17 #[.val (.ref s_NODES)] [(.ref s_NODES)])) _
    refine st2 _ ?_
    show Steps p.tables e below (T2.setTop (mkF m 20 #[.val (.ref s_NODES)] [(.int (3000000 : Int32))])) _
    exact retI X2 hx Bd.returns (hb hby d1_20) hr
  · show own_Q (some (.int (3000000 : Int32))) h0 n0 _ T2.heap _
    rw [e2]
    exact ⟨rfl, N0, rfl⟩
set_option maxRecDepth 65536 in
set_option maxHeartbeats 40000000 in
theorem r_lim_2 (l : Launch) (Z : State) (a0 : Array Value) (hw : ∀ d ∈ tables_1, d.before a0 Z = true) (ws : List Jvm.Cond) (s_EXPANSIONS s_PARAMETER_CHARACTERS s_NODES s_CHARACTERS : Addr) (h0 : Heap) (n0 : Nat) (Z0 : n0 ≤ h0.size) (G : own_Ctx Z h0 s_EXPANSIONS s_PARAMETER_CHARACTERS s_NODES s_CHARACTERS)   :
    MetFree l (⟨"com/example/rattan/rattan/storage/xml/EntityLimit", "limit", "()I"⟩ : MethodName) (head1 (Jvm.Cond.code (⟨"com/example/rattan/rattan/storage/xml/EntityLimit", "limit", "()I"⟩ : MethodName) prog_87_method_6_code 1 (some .int) :: ws) ({ frames := 0, cells := 0, slots := 0, locals := 0 } : Room)) (fun a U => a = #[(.ref s_NODES)] ∧ Z.Warmed39 U.vm ∧ U.heap = h0) (fun _ _ _ _ _ => True) (fun _ U o U' => ∃ v L, o = .returned v ∧ own_Q (some (.int (3000000 : Int32))) h0 n0 v U'.heap L ∧ FrameEnd U o U' L ({ frames := 0, cells := 0, slots := 0, locals := 0 } : Room).cells ({ frames := 0, cells := 0, slots := 0, locals := 0 } : Room).slots) := by
  have G0 := G
  obtain ⟨S_EXPANSIONS, E_EXPANSIONS, O_EXPANSIONS, S_PARAMETER_CHARACTERS, E_PARAMETER_CHARACTERS, O_PARAMETER_CHARACTERS, S_NODES, E_NODES, O_NODES, S_CHARACTERS, E_CHARACTERS, O_CHARACTERS, F_limit_EXPANSIONS, F_limit_PARAMETER_CHARACTERS, F_limit_NODES, F_limit_CHARACTERS⟩ := G
  refine MetFree.of_bodySF (plainFor_of_name pn_0) hisR ?_
  intro p e s m args below meth c s₁ Bd hml0 hP hK
  obtain ⟨rfl, hZ, hh⟩ := hP
  have hx := Bd.exec
  have hby := Bd.bytes
  have hml : c.maxLocals = 1 := hml0
  have hown : s.vm.findClass "com/example/rattan/rattan/storage/xml/EntityLimit" = some m.cls := findClass_of_methodNamed Bd.named
  have hnm := (name_of_methodNamed Bd.named Bd.method).1
  have X0 : Stand p l e ({ frames := 0, cells := 0, slots := 0, locals := 0 } : Room) s m #[(.ref s_NODES)] below meth c s₁ [] 0 0 := Stand.of_body Bd
  have e0 : s₁.heap = h0 := by rw [← hh, Bd.state]; rfl
  have N0 := Fr.nil n0
  have pre0 : ∀ t, Steps p.tables e below (s₁.setTop (mkF m 0 #[.val (.ref s_NODES)] [])) t → Steps p.tables e below (s₁.setTop (entryFrame m #[(.ref s_NODES)] 1)) t := fun t k => castTop (ef_2_1 m s_NODES) k
  obtain ⟨T1, X1, e1, st1⟩ := getF X0 hx hZ hown (host := "") (Or.inl (hw _ (List.mem_of_getElem? (i := 10) rfl))) Via.refl e0 F_limit_NODES (g := (mkF m 1 #[.val (.ref s_NODES)] [(.ref s_NODES)])) rfl rfl (hb hby d2_1)
  obtain ⟨fs, hr, hrun, hended, hW, hsame⟩ := X1.leave (v := some (.int (3000000 : Int32))) (fun h => by rw [Bd.returns] at h; cases h)
  refine ⟨_, _, pre0 _ ?_, hrun, hended, _, _, rfl, ?_, ⟨_, rfl⟩, hW, hsame.mono (by decide) (by decide)⟩
  · show Steps p.tables e below (s₁.setTop (mkF m 0 #[.val (.ref s_NODES)] [])) _
    refine XS.aloadN X0.here hx rfl (hb hby d2_0) rfl rfl ?_
    show Steps p.tables e below (s₁.setTop (mkF m 1 #[.val (.ref s_NODES)] [(.ref s_NODES)])) _
    refine st1 _ ?_
    show Steps p.tables e below (T1.setTop (mkF m 4 #[.val (.ref s_NODES)] [(.int (3000000 : Int32))])) _
    exact retI X1 hx Bd.returns (hb hby d2_4) hr
  · show own_Q (some (.int (3000000 : Int32))) h0 n0 _ T1.heap _
    rw [e1]
    exact ⟨rfl, N0, rfl⟩
set_option maxRecDepth 65536 in
set_option maxHeartbeats 40000000 in
theorem r_law_2 (l : Launch) (Z : State) (a0 : Array Value) (hw : ∀ d ∈ tables_1, d.before a0 Z = true) (ws : List Jvm.Cond) (s_EXPANSIONS s_PARAMETER_CHARACTERS s_NODES s_CHARACTERS : Addr) (h0 : Heap) (n0 : Nat) (Z0 : n0 ≤ h0.size) (G : own_Ctx Z h0 s_EXPANSIONS s_PARAMETER_CHARACTERS s_NODES s_CHARACTERS) (p1 : Int32) (hk : p1 &&& (3 : Int32) = (2 : Int32)) :
    MetFree l x (head1 (Jvm.Cond.code x code maxLocals ret :: ws) room_1) (fun a U => a = #[(.int p1)] ∧ Z.Warmed39 U.vm ∧ U.heap = h0) (fun _ _ _ _ _ => True) (fun _ U o U' => ∃ v L, o = .returned v ∧ own_Q (some (.int (1 : Int32))) h0 n0 v U'.heap L ∧ FrameEnd U o U' L 0 0) := by
  have G0 := G
  obtain ⟨S_EXPANSIONS, E_EXPANSIONS, O_EXPANSIONS, S_PARAMETER_CHARACTERS, E_PARAMETER_CHARACTERS, O_PARAMETER_CHARACTERS, S_NODES, E_NODES, O_NODES, S_CHARACTERS, E_CHARACTERS, O_CHARACTERS, F_limit_EXPANSIONS, F_limit_PARAMETER_CHARACTERS, F_limit_NODES, F_limit_CHARACTERS⟩ := G
  refine MetFree.of_bodySF (plainFor_of_name pn_1) hisR ?_
  intro p e s m args below meth c s₁ Bd hml0 hP hK
  obtain ⟨rfl, hZ, hh⟩ := hP
  have hx := Bd.exec
  have hby := Bd.bytes
  have hml : c.maxLocals = 7 := hml0
  have hown : s.vm.findClass "com/example/rattan/rattan/storage/xml/EntityLimitPropertyValuePinLaw" = some m.cls := findClass_of_methodNamed Bd.named
  have hnm := (name_of_methodNamed Bd.named Bd.method).1
  have X0 : Stand p l e room_1 s m #[(.int p1)] below meth c s₁ [] 0 0 := Stand.of_body Bd
  have e0 : s₁.heap = h0 := by rw [← hh, Bd.state]; rfl
  have N0 := Fr.nil n0
  have pre0 : ∀ t, Steps p.tables e below (s₁.setTop (mkF m 0 #[.val (.int p1), .unset, .unset, .unset, .unset, .unset, .unset] [])) t → Steps p.tables e below (s₁.setTop (entryFrame m #[(.int p1)] maxLocals)) t := fun t k => castTop (ef_0_2 m p1) k
  obtain ⟨T1, X1, e1, st1⟩ := getS2 X0 hx hZ hown (host := "") (Or.inl (hw _ (List.mem_of_getElem? (i := 20) rfl))) Via.refl e0 S_NODES (g := (mkF m 44 #[.val (.int p1), .val (.int (2 : Int32)), .unset, .unset, .unset, .unset, .unset] [])) rfl (hb hby at_44)
  obtain ⟨cq2, kq2, q2a, q2b, q2c⟩ := isOf hZ e1 E_NODES
  obtain ⟨_, _, ⟨T2, L2, k2, n2⟩, -, X2, ⟨Lc2, hQ2, l2, y2, z2⟩, st2⟩ := X1.virtualBack hx (y := (⟨"com/example/rattan/rattan/storage/xml/EntityLimit", "propertyValue", "()I"⟩ : MethodName)) (z := (⟨"com/example/rattan/rattan/storage/xml/EntityLimit", "propertyValue", "()I"⟩ : MethodName)) hown (mvT hZ (hw _ (List.mem_of_getElem? (i := 4) rfl))) (mvT hZ (hw _ (List.mem_of_getElem? (i := 5) rfl))) (notFace_of_selects (args := #[]) (mvT hZ (hw _ (List.mem_of_getElem? (i := 7) rfl)))) (mvT hZ (hw _ (List.mem_of_getElem? (i := 7) rfl))) (mvT hZ (hw _ (List.mem_of_getElem? (i := 6) rfl))) (by decide) (backOf (W := 0) (r_val_2 l Z a0 hw [] s_EXPANSIONS s_PARAMETER_CHARACTERS s_NODES s_CHARACTERS h0 n0 Z0 G0) hZ (hw _ (List.mem_of_getElem? (i := 8) rfl)) (hw _ (List.mem_of_getElem? (i := 1) rfl)) (by decide) (by decide)) q2a q2c (g := (mkF m 68 #[.val (.int p1), .val (.int (2 : Int32)), .val (.ref s_NODES), .val (.int (3000000 : Int32)), .val (.int (0 : Int32)), .unset, .unset] [(.ref s_NODES)])) rfl (by rw [hml]; rfl) (Steps.refl _) (argsL := []) (rest := []) (lenOf pd_0 rfl) rfl (by show 2 * 0 + _ ≤ _; exact Nat.le_of_eq rfl) (hb hby at_68) (fun _ _ => ⟨rfl, e1, (by decide : 0 + 0 ≤ _), (by decide : 0 + 0 ≤ _)⟩)
  dsimp only [Pt.U, Pt.locs, Pt.cells, Pt.slots] at X2 l2 y2 z2 st2 hQ2
  subst l2 y2 z2
  obtain ⟨rfl, N2q, e2⟩ := hQ2
  have N2 := Fr.app N0 N2q
  obtain ⟨cq3, kq3, q3a, q3b, q3c⟩ := isOf hZ e2 E_NODES
  obtain ⟨_, _, ⟨T3, L3, k3, n3⟩, -, X3, ⟨Lc3, hQ3, l3, y3, z3⟩, st3⟩ := X2.virtualBack hx (y := (⟨"com/example/rattan/rattan/storage/xml/EntityLimit", "limit", "()I"⟩ : MethodName)) (z := (⟨"com/example/rattan/rattan/storage/xml/EntityLimit", "limit", "()I"⟩ : MethodName)) hown (mvT hZ (hw _ (List.mem_of_getElem? (i := 12) rfl))) (mvT hZ (hw _ (List.mem_of_getElem? (i := 13) rfl))) (notFace_of_selects (args := #[]) (mvT hZ (hw _ (List.mem_of_getElem? (i := 15) rfl)))) (mvT hZ (hw _ (List.mem_of_getElem? (i := 15) rfl))) (mvT hZ (hw _ (List.mem_of_getElem? (i := 14) rfl))) (by decide) (backOf (W := 0) (r_lim_2 l Z a0 hw [] s_EXPANSIONS s_PARAMETER_CHARACTERS s_NODES s_CHARACTERS h0 n0 Z0 G0) hZ (hw _ (List.mem_of_getElem? (i := 16) rfl)) (hw _ (List.mem_of_getElem? (i := 1) rfl)) (by decide) (by decide)) q3a q3c (g := (mkF m 74 #[.val (.int p1), .val (.int (2 : Int32)), .val (.ref s_NODES), .val (.int (3000000 : Int32)), .val (.int (0 : Int32)), .val (.int (3000000 : Int32)), .unset] [(.ref s_NODES)])) rfl (by rw [hml]; rfl) (Steps.refl _) (argsL := []) (rest := []) (lenOf pd_0 rfl) rfl (by show 2 * 0 + _ ≤ _; exact Nat.le_of_eq rfl) (hb hby at_74) (fun _ _ => ⟨rfl, e2, (by decide : 0 + 0 ≤ _), (by decide : 0 + 0 ≤ _)⟩)
  dsimp only [Pt.U, Pt.locs, Pt.cells, Pt.slots] at X3 l3 y3 z3 st3 hQ3
  subst l3 y3 z3
  obtain ⟨rfl, N3q, e3⟩ := hQ3
  have N3 := Fr.app N2 N3q
  obtain ⟨fs, hr, hrun, hended, hW, hsame⟩ := X3.leave (v := some (.int (1 : Int32))) (fun h => by rw [Bd.returns] at h; cases h)
  refine ⟨_, _, pre0 _ ?_, hrun, hended, _, _, rfl, ?_, ⟨_, rfl⟩, hW, hsame.mono (by decide) (by decide)⟩
  · show Steps p.tables e below (s₁.setTop (mkF m 0 #[.val (.int p1), .unset, .unset, .unset, .unset, .unset, .unset] [])) _
    refine XS.iloadN X0.here hx rfl (hb hby at_0) rfl ?_
    show Steps p.tables e below (s₁.setTop (mkF m 1 #[.val (.int p1), .unset, .unset, .unset, .unset, .unset, .unset] [(.int p1)])) _
    refine XS.iconst X0.here hx rfl (hb hby at_1) ?_
    show Steps p.tables e below (s₁.setTop (mkF m 2 #[.val (.int p1), .unset, .unset, .unset, .unset, .unset, .unset] [(.int (3 : Int32)), (.int p1)])) _
    refine XS.iand X0.here hx rfl (hb hby at_2) rfl ?_
    show Steps p.tables e below (s₁.setTop (mkF m 3 #[.val (.int p1), .unset, .unset, .unset, .unset, .unset, .unset] [(.int (p1 &&& (3 : Int32)))])) _
    rw [hk]
    show Steps p.tables e below (s₁.setTop (mkF m 3 #[.val (.int p1), .unset, .unset, .unset, .unset, .unset, .unset] [(.int (2 : Int32))])) _
    refine XS.istoreN X0.here hx rfl (hb hby at_3) rfl (l' := #[.val (.int p1), .val (.int (2 : Int32)), .unset, .unset, .unset, .unset, .unset]) rfl ?_
    show Steps p.tables e below (s₁.setTop (mkF m 4 #[.val (.int p1), .val (.int (2 : Int32)), .unset, .unset, .unset, .unset, .unset] [])) _
    refine XS.iloadN X0.here hx rfl (hb hby at_4) rfl ?_
    show Steps p.tables e below (s₁.setTop (mkF m 5 #[.val (.int p1), .val (.int (2 : Int32)), .unset, .unset, .unset, .unset, .unset] [(.int (2 : Int32))])) _
    refine XS.ifYes X0.here hx rfl (pc0 := 5) (pc' := 21) rfl (hb hby at_5) rfl ((if0 _ _).trans (feq (by decide : ¬ ((2 : Int32) = (0 : Int32)))).2) (by decide) (by decide) ?_
    show Steps p.tables e below (s₁.setTop (mkF m 21 #[.val (.int p1), .val (.int (2 : Int32)), .unset, .unset, .unset, .unset, .unset] [])) _
    refine XS.iloadN X0.here hx rfl (hb hby at_21) rfl ?_
    show Steps p.tables e below (s₁.setTop (mkF m 22 #[.val (.int p1), .val (.int (2 : Int32)), .unset, .unset, .unset, .unset, .unset] [(.int (2 : Int32))])) _
    refine XS.iconst X0.here hx rfl (hb hby at_22) ?_
    show Steps p.tables e below (s₁.setTop (mkF m 23 #[.val (.int p1), .val (.int (2 : Int32)), .unset, .unset, .unset, .unset, .unset] [(.int (1 : Int32)), (.int (2 : Int32))])) _
    refine XS.icmpYes X0.here hx rfl (pc0 := 23) (pc' := 39) rfl (hb hby at_23) rfl (feq (by decide : ¬ ((2 : Int32) = (1 : Int32)))).2 (by decide) (by decide) ?_
    show Steps p.tables e below (s₁.setTop (mkF m 39 #[.val (.int p1), .val (.int (2 : Int32)), .unset, .unset, .unset, .unset, .unset] [])) _
    refine XS.iloadN X0.here hx rfl (hb hby at_39) rfl ?_
    show Steps p.tables e below (s₁.setTop (mkF m 40 #[.val (.int p1), .val (.int (2 : Int32)), .unset, .unset, .unset, .unset, .unset] [(.int (2 : Int32))])) _
    refine XS.iconst X0.here hx rfl (hb hby at_40) ?_
    show Steps p.tables e below (s₁.setTop (mkF m 41 #[.val (.int p1), .val (.int (2 : Int32)), .unset, .unset, .unset, .unset, .unset] [(.int (2 : Int32)), (.int (2 : Int32))])) _
    refine XS.icmpNo X0.here hx rfl (hb hby at_41) rfl (teq (by decide : (2 : Int32) = (2 : Int32))).2 ?_
    show Steps p.tables e below (s₁.setTop (mkF m 44 #[.val (.int p1), .val (.int (2 : Int32)), .unset, .unset, .unset, .unset, .unset] [])) _
    refine st1 _ ?_
    show Steps p.tables e below (T1.setTop (mkF m 47 #[.val (.int p1), .val (.int (2 : Int32)), .unset, .unset, .unset, .unset, .unset] [(.ref s_NODES)])) _
    refine XS.astoreN X1.here hx rfl (hb hby at_47) rfl rfl (l' := #[.val (.int p1), .val (.int (2 : Int32)), .val (.ref s_NODES), .unset, .unset, .unset, .unset]) rfl ?_
    show Steps p.tables e below (T1.setTop (mkF m 48 #[.val (.int p1), .val (.int (2 : Int32)), .val (.ref s_NODES), .unset, .unset, .unset, .unset] [])) _
    refine X1.ldcInt hx hown (mvT hZ (hw _ (List.mem_of_getElem? (i := 22) rfl))) (g := (mkF m 48 #[.val (.int p1), .val (.int (2 : Int32)), .val (.ref s_NODES), .unset, .unset, .unset, .unset] [])) rfl (hb hby at_48) _ ?_
    show Steps p.tables e below (T1.setTop (mkF m 50 #[.val (.int p1), .val (.int (2 : Int32)), .val (.ref s_NODES), .unset, .unset, .unset, .unset] [(.int (3000000 : Int32))])) _
    refine XS.istoreN X1.here hx rfl (hb hby at_50) rfl (l' := #[.val (.int p1), .val (.int (2 : Int32)), .val (.ref s_NODES), .val (.int (3000000 : Int32)), .unset, .unset, .unset]) rfl ?_
    show Steps p.tables e below (T1.setTop (mkF m 51 #[.val (.int p1), .val (.int (2 : Int32)), .val (.ref s_NODES), .val (.int (3000000 : Int32)), .unset, .unset, .unset] [])) _
    refine XS.iconst X1.here hx rfl (hb hby at_51) ?_
    show Steps p.tables e below (T1.setTop (mkF m 52 #[.val (.int p1), .val (.int (2 : Int32)), .val (.ref s_NODES), .val (.int (3000000 : Int32)), .unset, .unset, .unset] [(.int (0 : Int32))])) _
    refine XS.istore X1.here hx rfl (hb hby at_52) rfl (l' := #[.val (.int p1), .val (.int (2 : Int32)), .val (.ref s_NODES), .val (.int (3000000 : Int32)), .val (.int (0 : Int32)), .unset, .unset]) rfl ?_
    show Steps p.tables e below (T1.setTop (mkF m 54 #[.val (.int p1), .val (.int (2 : Int32)), .val (.ref s_NODES), .val (.int (3000000 : Int32)), .val (.int (0 : Int32)), .unset, .unset] [])) _
    refine XS.goto X1.here hx rfl (pc0 := 54) (pc' := 67) rfl (hb hby at_54) (by decide) (by decide) ?_
    show Steps p.tables e below (T1.setTop (mkF m 67 #[.val (.int p1), .val (.int (2 : Int32)), .val (.ref s_NODES), .val (.int (3000000 : Int32)), .val (.int (0 : Int32)), .unset, .unset] [])) _
    refine XS.aloadN X1.here hx rfl (hb hby at_67) rfl rfl ?_
    show Steps p.tables e below (T1.setTop (mkF m 68 #[.val (.int p1), .val (.int (2 : Int32)), .val (.ref s_NODES), .val (.int (3000000 : Int32)), .val (.int (0 : Int32)), .unset, .unset] [(.ref s_NODES)])) _
    refine st2.trans ?_
    show Steps p.tables e below (T2.setTop (mkF m 71 #[.val (.int p1), .val (.int (2 : Int32)), .val (.ref s_NODES), .val (.int (3000000 : Int32)), .val (.int (0 : Int32)), .unset, .unset] [(.int (3000000 : Int32))])) _
    refine XS.istore X2.here hx rfl (hb hby at_71) rfl (l' := #[.val (.int p1), .val (.int (2 : Int32)), .val (.ref s_NODES), .val (.int (3000000 : Int32)), .val (.int (0 : Int32)), .val (.int (3000000 : Int32)), .unset]) rfl ?_
    show Steps p.tables e below (T2.setTop (mkF m 73 #[.val (.int p1), .val (.int (2 : Int32)), .val (.ref s_NODES), .val (.int (3000000 : Int32)), .val (.int (0 : Int32)), .val (.int (3000000 : Int32)), .unset] [])) _
    refine XS.aloadN X2.here hx rfl (hb hby at_73) rfl rfl ?_
    show Steps p.tables e below (T2.setTop (mkF m 74 #[.val (.int p1), .val (.int (2 : Int32)), .val (.ref s_NODES), .val (.int (3000000 : Int32)), .val (.int (0 : Int32)), .val (.int (3000000 : Int32)), .unset] [(.ref s_NODES)])) _
    refine st3.trans ?_
    show Steps p.tables e below (T3.setTop (mkF m 77 #[.val (.int p1), .val (.int (2 : Int32)), .val (.ref s_NODES), .val (.int (3000000 : Int32)), .val (.int (0 : Int32)), .val (.int (3000000 : Int32)), .unset] [(.int (3000000 : Int32))])) _
    refine XS.istore X3.here hx rfl (hb hby at_77) rfl (l' := #[.val (.int p1), .val (.int (2 : Int32)), .val (.ref s_NODES), .val (.int (3000000 : Int32)), .val (.int (0 : Int32)), .val (.int (3000000 : Int32)), .val (.int (3000000 : Int32))]) rfl ?_
    show Steps p.tables e below (T3.setTop (mkF m 79 #[.val (.int p1), .val (.int (2 : Int32)), .val (.ref s_NODES), .val (.int (3000000 : Int32)), .val (.int (0 : Int32)), .val (.int (3000000 : Int32)), .val (.int (3000000 : Int32))] [])) _
    refine XS.iload X3.here hx rfl (hb hby at_79) rfl ?_
    show Steps p.tables e below (T3.setTop (mkF m 81 #[.val (.int p1), .val (.int (2 : Int32)), .val (.ref s_NODES), .val (.int (3000000 : Int32)), .val (.int (0 : Int32)), .val (.int (3000000 : Int32)), .val (.int (3000000 : Int32))] [(.int (3000000 : Int32))])) _
    refine XS.iloadN X3.here hx rfl (hb hby at_81) rfl ?_
    show Steps p.tables e below (T3.setTop (mkF m 82 #[.val (.int p1), .val (.int (2 : Int32)), .val (.ref s_NODES), .val (.int (3000000 : Int32)), .val (.int (0 : Int32)), .val (.int (3000000 : Int32)), .val (.int (3000000 : Int32))] [(.int (3000000 : Int32)), (.int (3000000 : Int32))])) _
    refine XS.icmpNo X3.here hx rfl (hb hby at_82) rfl (teq (by decide : (3000000 : Int32) = (3000000 : Int32))).2 ?_
    show Steps p.tables e below (T3.setTop (mkF m 85 #[.val (.int p1), .val (.int (2 : Int32)), .val (.ref s_NODES), .val (.int (3000000 : Int32)), .val (.int (0 : Int32)), .val (.int (3000000 : Int32)), .val (.int (3000000 : Int32))] [])) _
    refine XS.iload X3.here hx rfl (hb hby at_85) rfl ?_
    show Steps p.tables e below (T3.setTop (mkF m 87 #[.val (.int p1), .val (.int (2 : Int32)), .val (.ref s_NODES), .val (.int (3000000 : Int32)), .val (.int (0 : Int32)), .val (.int (3000000 : Int32)), .val (.int (3000000 : Int32))] [(.int (3000000 : Int32))])) _
    refine XS.iload X3.here hx rfl (hb hby at_87) rfl ?_
    show Steps p.tables e below (T3.setTop (mkF m 89 #[.val (.int p1), .val (.int (2 : Int32)), .val (.ref s_NODES), .val (.int (3000000 : Int32)), .val (.int (0 : Int32)), .val (.int (3000000 : Int32)), .val (.int (3000000 : Int32))] [(.int (3000000 : Int32)), (.int (3000000 : Int32))])) _
    refine XS.isub X3.here hx rfl (hb hby at_89) rfl ?_
    show Steps p.tables e below (T3.setTop (mkF m 90 #[.val (.int p1), .val (.int (2 : Int32)), .val (.ref s_NODES), .val (.int (3000000 : Int32)), .val (.int (0 : Int32)), .val (.int (3000000 : Int32)), .val (.int (3000000 : Int32))] [(.int ((3000000 : Int32) - (3000000 : Int32)))])) _
    refine XS.iload X3.here hx rfl (hb hby at_90) rfl ?_
    show Steps p.tables e below (T3.setTop (mkF m 92 #[.val (.int p1), .val (.int (2 : Int32)), .val (.ref s_NODES), .val (.int (3000000 : Int32)), .val (.int (0 : Int32)), .val (.int (3000000 : Int32)), .val (.int (3000000 : Int32))] [(.int (0 : Int32)), (.int ((3000000 : Int32) - (3000000 : Int32)))])) _
    refine XS.icmpNo X3.here hx rfl (hb hby at_92) rfl (teq (by decide : ((3000000 : Int32) - (3000000 : Int32)) = (0 : Int32))).2 ?_
    show Steps p.tables e below (T3.setTop (mkF m 95 #[.val (.int p1), .val (.int (2 : Int32)), .val (.ref s_NODES), .val (.int (3000000 : Int32)), .val (.int (0 : Int32)), .val (.int (3000000 : Int32)), .val (.int (3000000 : Int32))] [])) _
    refine XS.iconst X3.here hx rfl (hb hby at_95) ?_
    show Steps p.tables e below (T3.setTop (mkF m 96 #[.val (.int p1), .val (.int (2 : Int32)), .val (.ref s_NODES), .val (.int (3000000 : Int32)), .val (.int (0 : Int32)), .val (.int (3000000 : Int32)), .val (.int (3000000 : Int32))] [(.int (1 : Int32))])) _
    refine XS.goto X3.here hx rfl (pc0 := 96) (pc' := 100) rfl (hb hby at_96) (by decide) (by decide) ?_
    show Steps p.tables e below (T3.setTop (mkF m 100 #[.val (.int p1), .val (.int (2 : Int32)), .val (.ref s_NODES), .val (.int (3000000 : Int32)), .val (.int (0 : Int32)), .val (.int (3000000 : Int32)), .val (.int (3000000 : Int32))] [(.int (1 : Int32))])) _
    exact retN X3 hx (t := .boolean) Bd.returns (by simp) (hb hby at_100) hr
  · show own_Q (some (.int (1 : Int32))) h0 n0 _ T3.heap _
    rw [e3]
    exact ⟨rfl, N3, rfl⟩
set_option maxRecDepth 65536 in
set_option maxHeartbeats 40000000 in
theorem r_val_3 (l : Launch) (Z : State) (a0 : Array Value) (hw : ∀ d ∈ tables_1, d.before a0 Z = true) (ws : List Jvm.Cond) (s_EXPANSIONS s_PARAMETER_CHARACTERS s_NODES s_CHARACTERS : Addr) (h0 : Heap) (n0 : Nat) (Z0 : n0 ≤ h0.size) (G : own_Ctx Z h0 s_EXPANSIONS s_PARAMETER_CHARACTERS s_NODES s_CHARACTERS)   :
    MetFree l (⟨"com/example/rattan/rattan/storage/xml/EntityLimit", "propertyValue", "()I"⟩ : MethodName) (head1 (Jvm.Cond.code (⟨"com/example/rattan/rattan/storage/xml/EntityLimit", "propertyValue", "()I"⟩ : MethodName) prog_87_method_5_code 1 (some .int) :: ws) ({ frames := 0, cells := 0, slots := 0, locals := 0 } : Room)) (fun a U => a = #[(.ref s_PARAMETER_CHARACTERS)] ∧ Z.Warmed39 U.vm ∧ U.heap = h0) (fun _ _ _ _ _ => True) (fun _ U o U' => ∃ v L, o = .returned v ∧ own_Q (some (.int (1000000 : Int32))) h0 n0 v U'.heap L ∧ FrameEnd U o U' L ({ frames := 0, cells := 0, slots := 0, locals := 0 } : Room).cells ({ frames := 0, cells := 0, slots := 0, locals := 0 } : Room).slots) := by
  have G0 := G
  obtain ⟨S_EXPANSIONS, E_EXPANSIONS, O_EXPANSIONS, S_PARAMETER_CHARACTERS, E_PARAMETER_CHARACTERS, O_PARAMETER_CHARACTERS, S_NODES, E_NODES, O_NODES, S_CHARACTERS, E_CHARACTERS, O_CHARACTERS, F_limit_EXPANSIONS, F_limit_PARAMETER_CHARACTERS, F_limit_NODES, F_limit_CHARACTERS⟩ := G
  refine MetFree.of_bodySF (plainFor_of_name pn_0) hisR ?_
  intro p e s m args below meth c s₁ Bd hml0 hP hK
  obtain ⟨rfl, hZ, hh⟩ := hP
  have hx := Bd.exec
  have hby := Bd.bytes
  have hml : c.maxLocals = 1 := hml0
  have hown : s.vm.findClass "com/example/rattan/rattan/storage/xml/EntityLimit" = some m.cls := findClass_of_methodNamed Bd.named
  have hnm := (name_of_methodNamed Bd.named Bd.method).1
  have X0 : Stand p l e ({ frames := 0, cells := 0, slots := 0, locals := 0 } : Room) s m #[(.ref s_PARAMETER_CHARACTERS)] below meth c s₁ [] 0 0 := Stand.of_body Bd
  have e0 : s₁.heap = h0 := by rw [← hh, Bd.state]; rfl
  have N0 := Fr.nil n0
  have pre0 : ∀ t, Steps p.tables e below (s₁.setTop (mkF m 0 #[.val (.ref s_PARAMETER_CHARACTERS)] [])) t → Steps p.tables e below (s₁.setTop (entryFrame m #[(.ref s_PARAMETER_CHARACTERS)] 1)) t := fun t k => castTop (ef_1_0 m s_PARAMETER_CHARACTERS) k
  obtain ⟨T1, X1, e1, st1⟩ := getS2 X0 hx hZ hown (host := "") (Or.inl (hw _ (List.mem_of_getElem? (i := 9) rfl))) Via.refl e0 S_EXPANSIONS (g := (mkF m 1 #[.val (.ref s_PARAMETER_CHARACTERS)] [(.ref s_PARAMETER_CHARACTERS)])) rfl (hb hby d1_1)
  obtain ⟨T2, X2, e2, st2⟩ := getF X1 hx hZ hown (host := "") (Or.inl (hw _ (List.mem_of_getElem? (i := 10) rfl))) Via.refl e1 F_limit_PARAMETER_CHARACTERS (g := (mkF m 17 #[.val (.ref s_PARAMETER_CHARACTERS)] [(.ref s_PARAMETER_CHARACTERS)])) rfl rfl (hb hby d1_17)
  obtain ⟨fs, hr, hrun, hended, hW, hsame⟩ := X2.leave (v := some (.int (1000000 : Int32))) (fun h => by rw [Bd.returns] at h; cases h)
  refine ⟨_, _, pre0 _ ?_, hrun, hended, _, _, rfl, ?_, ⟨_, rfl⟩, hW, hsame.mono (by decide) (by decide)⟩
  · show Steps p.tables e below (s₁.setTop (mkF m 0 #[.val (.ref s_PARAMETER_CHARACTERS)] [])) _
    refine XS.aloadN X0.here hx rfl (hb hby d1_0) rfl rfl ?_
    show Steps p.tables e below (s₁.setTop (mkF m 1 #[.val (.ref s_PARAMETER_CHARACTERS)] [(.ref s_PARAMETER_CHARACTERS)])) _
    refine st1 _ ?_
    show Steps p.tables e below (T1.setTop (mkF m 4 #[.val (.ref s_PARAMETER_CHARACTERS)] [(.ref s_EXPANSIONS), (.ref s_PARAMETER_CHARACTERS)])) _
    refine Jvm.RoadKit.acmp (g := (mkF m 4 #[.val (.ref s_PARAMETER_CHARACTERS)] [(.ref s_EXPANSIONS), (.ref s_PARAMETER_CHARACTERS)])) X1 hx rfl rfl rfl (pc0 := 4) (pc' := 16) (same := false) rfl (hb hby d1_4) rfl (decide_eq_false fun q => (Fld.ne O_PARAMETER_CHARACTERS O_EXPANSIONS (fun q => absurd (Value.int.inj q) (by decide))) (Value.ref.inj q)) (by decide) (by decide) ?_
    show Steps p.tables e below (T1.setTop (mkF m 16 #[.val (.ref s_PARAMETER_CHARACTERS)] [])) _
    refine XS.aloadN X1.here hx rfl (hb hby d1_16) rfl rfl ?_
    show Steps p.tables e below (T1.setTop (mkF m 17 #[.val (.ref s_PARAMETER_CHARACTERS)] [(.ref s_PARAMETER_CHARACTERS)])) _
    refine st2 _ ?_
    show Steps p.tables e below (T2.setTop (mkF m 20 #[.val (.ref s_PARAMETER_CHARACTERS)] [(.int (1000000 : Int32))])) _
    exact retI X2 hx Bd.returns (hb hby d1_20) hr
  · show own_Q (some (.int (1000000 : Int32))) h0 n0 _ T2.heap _
    rw [e2]
    exact ⟨rfl, N0, rfl⟩
set_option maxRecDepth 65536 in
set_option maxHeartbeats 40000000 in
theorem r_lim_3 (l : Launch) (Z : State) (a0 : Array Value) (hw : ∀ d ∈ tables_1, d.before a0 Z = true) (ws : List Jvm.Cond) (s_EXPANSIONS s_PARAMETER_CHARACTERS s_NODES s_CHARACTERS : Addr) (h0 : Heap) (n0 : Nat) (Z0 : n0 ≤ h0.size) (G : own_Ctx Z h0 s_EXPANSIONS s_PARAMETER_CHARACTERS s_NODES s_CHARACTERS)   :
    MetFree l (⟨"com/example/rattan/rattan/storage/xml/EntityLimit", "limit", "()I"⟩ : MethodName) (head1 (Jvm.Cond.code (⟨"com/example/rattan/rattan/storage/xml/EntityLimit", "limit", "()I"⟩ : MethodName) prog_87_method_6_code 1 (some .int) :: ws) ({ frames := 0, cells := 0, slots := 0, locals := 0 } : Room)) (fun a U => a = #[(.ref s_PARAMETER_CHARACTERS)] ∧ Z.Warmed39 U.vm ∧ U.heap = h0) (fun _ _ _ _ _ => True) (fun _ U o U' => ∃ v L, o = .returned v ∧ own_Q (some (.int (1000000 : Int32))) h0 n0 v U'.heap L ∧ FrameEnd U o U' L ({ frames := 0, cells := 0, slots := 0, locals := 0 } : Room).cells ({ frames := 0, cells := 0, slots := 0, locals := 0 } : Room).slots) := by
  have G0 := G
  obtain ⟨S_EXPANSIONS, E_EXPANSIONS, O_EXPANSIONS, S_PARAMETER_CHARACTERS, E_PARAMETER_CHARACTERS, O_PARAMETER_CHARACTERS, S_NODES, E_NODES, O_NODES, S_CHARACTERS, E_CHARACTERS, O_CHARACTERS, F_limit_EXPANSIONS, F_limit_PARAMETER_CHARACTERS, F_limit_NODES, F_limit_CHARACTERS⟩ := G
  refine MetFree.of_bodySF (plainFor_of_name pn_0) hisR ?_
  intro p e s m args below meth c s₁ Bd hml0 hP hK
  obtain ⟨rfl, hZ, hh⟩ := hP
  have hx := Bd.exec
  have hby := Bd.bytes
  have hml : c.maxLocals = 1 := hml0
  have hown : s.vm.findClass "com/example/rattan/rattan/storage/xml/EntityLimit" = some m.cls := findClass_of_methodNamed Bd.named
  have hnm := (name_of_methodNamed Bd.named Bd.method).1
  have X0 : Stand p l e ({ frames := 0, cells := 0, slots := 0, locals := 0 } : Room) s m #[(.ref s_PARAMETER_CHARACTERS)] below meth c s₁ [] 0 0 := Stand.of_body Bd
  have e0 : s₁.heap = h0 := by rw [← hh, Bd.state]; rfl
  have N0 := Fr.nil n0
  have pre0 : ∀ t, Steps p.tables e below (s₁.setTop (mkF m 0 #[.val (.ref s_PARAMETER_CHARACTERS)] [])) t → Steps p.tables e below (s₁.setTop (entryFrame m #[(.ref s_PARAMETER_CHARACTERS)] 1)) t := fun t k => castTop (ef_2_1 m s_PARAMETER_CHARACTERS) k
  obtain ⟨T1, X1, e1, st1⟩ := getF X0 hx hZ hown (host := "") (Or.inl (hw _ (List.mem_of_getElem? (i := 10) rfl))) Via.refl e0 F_limit_PARAMETER_CHARACTERS (g := (mkF m 1 #[.val (.ref s_PARAMETER_CHARACTERS)] [(.ref s_PARAMETER_CHARACTERS)])) rfl rfl (hb hby d2_1)
  obtain ⟨fs, hr, hrun, hended, hW, hsame⟩ := X1.leave (v := some (.int (1000000 : Int32))) (fun h => by rw [Bd.returns] at h; cases h)
  refine ⟨_, _, pre0 _ ?_, hrun, hended, _, _, rfl, ?_, ⟨_, rfl⟩, hW, hsame.mono (by decide) (by decide)⟩
  · show Steps p.tables e below (s₁.setTop (mkF m 0 #[.val (.ref s_PARAMETER_CHARACTERS)] [])) _
    refine XS.aloadN X0.here hx rfl (hb hby d2_0) rfl rfl ?_
    show Steps p.tables e below (s₁.setTop (mkF m 1 #[.val (.ref s_PARAMETER_CHARACTERS)] [(.ref s_PARAMETER_CHARACTERS)])) _
    refine st1 _ ?_
    show Steps p.tables e below (T1.setTop (mkF m 4 #[.val (.ref s_PARAMETER_CHARACTERS)] [(.int (1000000 : Int32))])) _
    exact retI X1 hx Bd.returns (hb hby d2_4) hr
  · show own_Q (some (.int (1000000 : Int32))) h0 n0 _ T1.heap _
    rw [e1]
    exact ⟨rfl, N0, rfl⟩
set_option maxRecDepth 65536 in
set_option maxHeartbeats 40000000 in
theorem r_law_3 (l : Launch) (Z : State) (a0 : Array Value) (hw : ∀ d ∈ tables_1, d.before a0 Z = true) (ws : List Jvm.Cond) (s_EXPANSIONS s_PARAMETER_CHARACTERS s_NODES s_CHARACTERS : Addr) (h0 : Heap) (n0 : Nat) (Z0 : n0 ≤ h0.size) (G : own_Ctx Z h0 s_EXPANSIONS s_PARAMETER_CHARACTERS s_NODES s_CHARACTERS) (p1 : Int32) (hk : p1 &&& (3 : Int32) = (3 : Int32)) :
    MetFree l x (head1 (Jvm.Cond.code x code maxLocals ret :: ws) room_1) (fun a U => a = #[(.int p1)] ∧ Z.Warmed39 U.vm ∧ U.heap = h0) (fun _ _ _ _ _ => True) (fun _ U o U' => ∃ v L, o = .returned v ∧ own_Q (some (.int (1 : Int32))) h0 n0 v U'.heap L ∧ FrameEnd U o U' L 0 0) := by
  have G0 := G
  obtain ⟨S_EXPANSIONS, E_EXPANSIONS, O_EXPANSIONS, S_PARAMETER_CHARACTERS, E_PARAMETER_CHARACTERS, O_PARAMETER_CHARACTERS, S_NODES, E_NODES, O_NODES, S_CHARACTERS, E_CHARACTERS, O_CHARACTERS, F_limit_EXPANSIONS, F_limit_PARAMETER_CHARACTERS, F_limit_NODES, F_limit_CHARACTERS⟩ := G
  refine MetFree.of_bodySF (plainFor_of_name pn_1) hisR ?_
  intro p e s m args below meth c s₁ Bd hml0 hP hK
  obtain ⟨rfl, hZ, hh⟩ := hP
  have hx := Bd.exec
  have hby := Bd.bytes
  have hml : c.maxLocals = 7 := hml0
  have hown : s.vm.findClass "com/example/rattan/rattan/storage/xml/EntityLimitPropertyValuePinLaw" = some m.cls := findClass_of_methodNamed Bd.named
  have hnm := (name_of_methodNamed Bd.named Bd.method).1
  have X0 : Stand p l e room_1 s m #[(.int p1)] below meth c s₁ [] 0 0 := Stand.of_body Bd
  have e0 : s₁.heap = h0 := by rw [← hh, Bd.state]; rfl
  have N0 := Fr.nil n0
  have pre0 : ∀ t, Steps p.tables e below (s₁.setTop (mkF m 0 #[.val (.int p1), .unset, .unset, .unset, .unset, .unset, .unset] [])) t → Steps p.tables e below (s₁.setTop (entryFrame m #[(.int p1)] maxLocals)) t := fun t k => castTop (ef_0_2 m p1) k
  obtain ⟨T1, X1, e1, st1⟩ := getS2 X0 hx hZ hown (host := "") (Or.inl (hw _ (List.mem_of_getElem? (i := 17) rfl))) Via.refl e0 S_PARAMETER_CHARACTERS (g := (mkF m 57 #[.val (.int p1), .val (.int (3 : Int32)), .unset, .unset, .unset, .unset, .unset] [])) rfl (hb hby at_57)
  obtain ⟨cq2, kq2, q2a, q2b, q2c⟩ := isOf hZ e1 E_PARAMETER_CHARACTERS
  obtain ⟨_, _, ⟨T2, L2, k2, n2⟩, -, X2, ⟨Lc2, hQ2, l2, y2, z2⟩, st2⟩ := X1.virtualBack hx (y := (⟨"com/example/rattan/rattan/storage/xml/EntityLimit", "propertyValue", "()I"⟩ : MethodName)) (z := (⟨"com/example/rattan/rattan/storage/xml/EntityLimit", "propertyValue", "()I"⟩ : MethodName)) hown (mvT hZ (hw _ (List.mem_of_getElem? (i := 4) rfl))) (mvT hZ (hw _ (List.mem_of_getElem? (i := 5) rfl))) (notFace_of_selects (args := #[]) (mvT hZ (hw _ (List.mem_of_getElem? (i := 7) rfl)))) (mvT hZ (hw _ (List.mem_of_getElem? (i := 7) rfl))) (mvT hZ (hw _ (List.mem_of_getElem? (i := 6) rfl))) (by decide) (backOf (W := 0) (r_val_3 l Z a0 hw [] s_EXPANSIONS s_PARAMETER_CHARACTERS s_NODES s_CHARACTERS h0 n0 Z0 G0) hZ (hw _ (List.mem_of_getElem? (i := 8) rfl)) (hw _ (List.mem_of_getElem? (i := 1) rfl)) (by decide) (by decide)) q2a q2c (g := (mkF m 68 #[.val (.int p1), .val (.int (3 : Int32)), .val (.ref s_PARAMETER_CHARACTERS), .val (.int (1000000 : Int32)), .val (.int (0 : Int32)), .unset, .unset] [(.ref s_PARAMETER_CHARACTERS)])) rfl (by rw [hml]; rfl) (Steps.refl _) (argsL := []) (rest := []) (lenOf pd_0 rfl) rfl (by show 2 * 0 + _ ≤ _; exact Nat.le_of_eq rfl) (hb hby at_68) (fun _ _ => ⟨rfl, e1, (by decide : 0 + 0 ≤ _), (by decide : 0 + 0 ≤ _)⟩)
  dsimp only [Pt.U, Pt.locs, Pt.cells, Pt.slots] at X2 l2 y2 z2 st2 hQ2
  subst l2 y2 z2
  obtain ⟨rfl, N2q, e2⟩ := hQ2
  have N2 := Fr.app N0 N2q
  obtain ⟨cq3, kq3, q3a, q3b, q3c⟩ := isOf hZ e2 E_PARAMETER_CHARACTERS
  obtain ⟨_, _, ⟨T3, L3, k3, n3⟩, -, X3, ⟨Lc3, hQ3, l3, y3, z3⟩, st3⟩ := X2.virtualBack hx (y := (⟨"com/example/rattan/rattan/storage/xml/EntityLimit", "limit", "()I"⟩ : MethodName)) (z := (⟨"com/example/rattan/rattan/storage/xml/EntityLimit", "limit", "()I"⟩ : MethodName)) hown (mvT hZ (hw _ (List.mem_of_getElem? (i := 12) rfl))) (mvT hZ (hw _ (List.mem_of_getElem? (i := 13) rfl))) (notFace_of_selects (args := #[]) (mvT hZ (hw _ (List.mem_of_getElem? (i := 15) rfl)))) (mvT hZ (hw _ (List.mem_of_getElem? (i := 15) rfl))) (mvT hZ (hw _ (List.mem_of_getElem? (i := 14) rfl))) (by decide) (backOf (W := 0) (r_lim_3 l Z a0 hw [] s_EXPANSIONS s_PARAMETER_CHARACTERS s_NODES s_CHARACTERS h0 n0 Z0 G0) hZ (hw _ (List.mem_of_getElem? (i := 16) rfl)) (hw _ (List.mem_of_getElem? (i := 1) rfl)) (by decide) (by decide)) q3a q3c (g := (mkF m 74 #[.val (.int p1), .val (.int (3 : Int32)), .val (.ref s_PARAMETER_CHARACTERS), .val (.int (1000000 : Int32)), .val (.int (0 : Int32)), .val (.int (1000000 : Int32)), .unset] [(.ref s_PARAMETER_CHARACTERS)])) rfl (by rw [hml]; rfl) (Steps.refl _) (argsL := []) (rest := []) (lenOf pd_0 rfl) rfl (by show 2 * 0 + _ ≤ _; exact Nat.le_of_eq rfl) (hb hby at_74) (fun _ _ => ⟨rfl, e2, (by decide : 0 + 0 ≤ _), (by decide : 0 + 0 ≤ _)⟩)
  dsimp only [Pt.U, Pt.locs, Pt.cells, Pt.slots] at X3 l3 y3 z3 st3 hQ3
  subst l3 y3 z3
  obtain ⟨rfl, N3q, e3⟩ := hQ3
  have N3 := Fr.app N2 N3q
  obtain ⟨fs, hr, hrun, hended, hW, hsame⟩ := X3.leave (v := some (.int (1 : Int32))) (fun h => by rw [Bd.returns] at h; cases h)
  refine ⟨_, _, pre0 _ ?_, hrun, hended, _, _, rfl, ?_, ⟨_, rfl⟩, hW, hsame.mono (by decide) (by decide)⟩
  · show Steps p.tables e below (s₁.setTop (mkF m 0 #[.val (.int p1), .unset, .unset, .unset, .unset, .unset, .unset] [])) _
    refine XS.iloadN X0.here hx rfl (hb hby at_0) rfl ?_
    show Steps p.tables e below (s₁.setTop (mkF m 1 #[.val (.int p1), .unset, .unset, .unset, .unset, .unset, .unset] [(.int p1)])) _
    refine XS.iconst X0.here hx rfl (hb hby at_1) ?_
    show Steps p.tables e below (s₁.setTop (mkF m 2 #[.val (.int p1), .unset, .unset, .unset, .unset, .unset, .unset] [(.int (3 : Int32)), (.int p1)])) _
    refine XS.iand X0.here hx rfl (hb hby at_2) rfl ?_
    show Steps p.tables e below (s₁.setTop (mkF m 3 #[.val (.int p1), .unset, .unset, .unset, .unset, .unset, .unset] [(.int (p1 &&& (3 : Int32)))])) _
    rw [hk]
    show Steps p.tables e below (s₁.setTop (mkF m 3 #[.val (.int p1), .unset, .unset, .unset, .unset, .unset, .unset] [(.int (3 : Int32))])) _
    refine XS.istoreN X0.here hx rfl (hb hby at_3) rfl (l' := #[.val (.int p1), .val (.int (3 : Int32)), .unset, .unset, .unset, .unset, .unset]) rfl ?_
    show Steps p.tables e below (s₁.setTop (mkF m 4 #[.val (.int p1), .val (.int (3 : Int32)), .unset, .unset, .unset, .unset, .unset] [])) _
    refine XS.iloadN X0.here hx rfl (hb hby at_4) rfl ?_
    show Steps p.tables e below (s₁.setTop (mkF m 5 #[.val (.int p1), .val (.int (3 : Int32)), .unset, .unset, .unset, .unset, .unset] [(.int (3 : Int32))])) _
    refine XS.ifYes X0.here hx rfl (pc0 := 5) (pc' := 21) rfl (hb hby at_5) rfl ((if0 _ _).trans (feq (by decide : ¬ ((3 : Int32) = (0 : Int32)))).2) (by decide) (by decide) ?_
    show Steps p.tables e below (s₁.setTop (mkF m 21 #[.val (.int p1), .val (.int (3 : Int32)), .unset, .unset, .unset, .unset, .unset] [])) _
    refine XS.iloadN X0.here hx rfl (hb hby at_21) rfl ?_
    show Steps p.tables e below (s₁.setTop (mkF m 22 #[.val (.int p1), .val (.int (3 : Int32)), .unset, .unset, .unset, .unset, .unset] [(.int (3 : Int32))])) _
    refine XS.iconst X0.here hx rfl (hb hby at_22) ?_
    show Steps p.tables e below (s₁.setTop (mkF m 23 #[.val (.int p1), .val (.int (3 : Int32)), .unset, .unset, .unset, .unset, .unset] [(.int (1 : Int32)), (.int (3 : Int32))])) _
    refine XS.icmpYes X0.here hx rfl (pc0 := 23) (pc' := 39) rfl (hb hby at_23) rfl (feq (by decide : ¬ ((3 : Int32) = (1 : Int32)))).2 (by decide) (by decide) ?_
    show Steps p.tables e below (s₁.setTop (mkF m 39 #[.val (.int p1), .val (.int (3 : Int32)), .unset, .unset, .unset, .unset, .unset] [])) _
    refine XS.iloadN X0.here hx rfl (hb hby at_39) rfl ?_
    show Steps p.tables e below (s₁.setTop (mkF m 40 #[.val (.int p1), .val (.int (3 : Int32)), .unset, .unset, .unset, .unset, .unset] [(.int (3 : Int32))])) _
    refine XS.iconst X0.here hx rfl (hb hby at_40) ?_
    show Steps p.tables e below (s₁.setTop (mkF m 41 #[.val (.int p1), .val (.int (3 : Int32)), .unset, .unset, .unset, .unset, .unset] [(.int (2 : Int32)), (.int (3 : Int32))])) _
    refine XS.icmpYes X0.here hx rfl (pc0 := 41) (pc' := 57) rfl (hb hby at_41) rfl (feq (by decide : ¬ ((3 : Int32) = (2 : Int32)))).2 (by decide) (by decide) ?_
    show Steps p.tables e below (s₁.setTop (mkF m 57 #[.val (.int p1), .val (.int (3 : Int32)), .unset, .unset, .unset, .unset, .unset] [])) _
    refine st1 _ ?_
    show Steps p.tables e below (T1.setTop (mkF m 60 #[.val (.int p1), .val (.int (3 : Int32)), .unset, .unset, .unset, .unset, .unset] [(.ref s_PARAMETER_CHARACTERS)])) _
    refine XS.astoreN X1.here hx rfl (hb hby at_60) rfl rfl (l' := #[.val (.int p1), .val (.int (3 : Int32)), .val (.ref s_PARAMETER_CHARACTERS), .unset, .unset, .unset, .unset]) rfl ?_
    show Steps p.tables e below (T1.setTop (mkF m 61 #[.val (.int p1), .val (.int (3 : Int32)), .val (.ref s_PARAMETER_CHARACTERS), .unset, .unset, .unset, .unset] [])) _
    refine X1.ldcInt hx hown (mvT hZ (hw _ (List.mem_of_getElem? (i := 19) rfl))) (g := (mkF m 61 #[.val (.int p1), .val (.int (3 : Int32)), .val (.ref s_PARAMETER_CHARACTERS), .unset, .unset, .unset, .unset] [])) rfl (hb hby at_61) _ ?_
    show Steps p.tables e below (T1.setTop (mkF m 63 #[.val (.int p1), .val (.int (3 : Int32)), .val (.ref s_PARAMETER_CHARACTERS), .unset, .unset, .unset, .unset] [(.int (1000000 : Int32))])) _
    refine XS.istoreN X1.here hx rfl (hb hby at_63) rfl (l' := #[.val (.int p1), .val (.int (3 : Int32)), .val (.ref s_PARAMETER_CHARACTERS), .val (.int (1000000 : Int32)), .unset, .unset, .unset]) rfl ?_
    show Steps p.tables e below (T1.setTop (mkF m 64 #[.val (.int p1), .val (.int (3 : Int32)), .val (.ref s_PARAMETER_CHARACTERS), .val (.int (1000000 : Int32)), .unset, .unset, .unset] [])) _
    refine XS.iconst X1.here hx rfl (hb hby at_64) ?_
    show Steps p.tables e below (T1.setTop (mkF m 65 #[.val (.int p1), .val (.int (3 : Int32)), .val (.ref s_PARAMETER_CHARACTERS), .val (.int (1000000 : Int32)), .unset, .unset, .unset] [(.int (0 : Int32))])) _
    refine XS.istore X1.here hx rfl (hb hby at_65) rfl (l' := #[.val (.int p1), .val (.int (3 : Int32)), .val (.ref s_PARAMETER_CHARACTERS), .val (.int (1000000 : Int32)), .val (.int (0 : Int32)), .unset, .unset]) rfl ?_
    show Steps p.tables e below (T1.setTop (mkF m 67 #[.val (.int p1), .val (.int (3 : Int32)), .val (.ref s_PARAMETER_CHARACTERS), .val (.int (1000000 : Int32)), .val (.int (0 : Int32)), .unset, .unset] [])) _
    refine XS.aloadN X1.here hx rfl (hb hby at_67) rfl rfl ?_
    show Steps p.tables e below (T1.setTop (mkF m 68 #[.val (.int p1), .val (.int (3 : Int32)), .val (.ref s_PARAMETER_CHARACTERS), .val (.int (1000000 : Int32)), .val (.int (0 : Int32)), .unset, .unset] [(.ref s_PARAMETER_CHARACTERS)])) _
    refine st2.trans ?_
    show Steps p.tables e below (T2.setTop (mkF m 71 #[.val (.int p1), .val (.int (3 : Int32)), .val (.ref s_PARAMETER_CHARACTERS), .val (.int (1000000 : Int32)), .val (.int (0 : Int32)), .unset, .unset] [(.int (1000000 : Int32))])) _
    refine XS.istore X2.here hx rfl (hb hby at_71) rfl (l' := #[.val (.int p1), .val (.int (3 : Int32)), .val (.ref s_PARAMETER_CHARACTERS), .val (.int (1000000 : Int32)), .val (.int (0 : Int32)), .val (.int (1000000 : Int32)), .unset]) rfl ?_
    show Steps p.tables e below (T2.setTop (mkF m 73 #[.val (.int p1), .val (.int (3 : Int32)), .val (.ref s_PARAMETER_CHARACTERS), .val (.int (1000000 : Int32)), .val (.int (0 : Int32)), .val (.int (1000000 : Int32)), .unset] [])) _
    refine XS.aloadN X2.here hx rfl (hb hby at_73) rfl rfl ?_
    show Steps p.tables e below (T2.setTop (mkF m 74 #[.val (.int p1), .val (.int (3 : Int32)), .val (.ref s_PARAMETER_CHARACTERS), .val (.int (1000000 : Int32)), .val (.int (0 : Int32)), .val (.int (1000000 : Int32)), .unset] [(.ref s_PARAMETER_CHARACTERS)])) _
    refine st3.trans ?_
    show Steps p.tables e below (T3.setTop (mkF m 77 #[.val (.int p1), .val (.int (3 : Int32)), .val (.ref s_PARAMETER_CHARACTERS), .val (.int (1000000 : Int32)), .val (.int (0 : Int32)), .val (.int (1000000 : Int32)), .unset] [(.int (1000000 : Int32))])) _
    refine XS.istore X3.here hx rfl (hb hby at_77) rfl (l' := #[.val (.int p1), .val (.int (3 : Int32)), .val (.ref s_PARAMETER_CHARACTERS), .val (.int (1000000 : Int32)), .val (.int (0 : Int32)), .val (.int (1000000 : Int32)), .val (.int (1000000 : Int32))]) rfl ?_
    show Steps p.tables e below (T3.setTop (mkF m 79 #[.val (.int p1), .val (.int (3 : Int32)), .val (.ref s_PARAMETER_CHARACTERS), .val (.int (1000000 : Int32)), .val (.int (0 : Int32)), .val (.int (1000000 : Int32)), .val (.int (1000000 : Int32))] [])) _
    refine XS.iload X3.here hx rfl (hb hby at_79) rfl ?_
    show Steps p.tables e below (T3.setTop (mkF m 81 #[.val (.int p1), .val (.int (3 : Int32)), .val (.ref s_PARAMETER_CHARACTERS), .val (.int (1000000 : Int32)), .val (.int (0 : Int32)), .val (.int (1000000 : Int32)), .val (.int (1000000 : Int32))] [(.int (1000000 : Int32))])) _
    refine XS.iloadN X3.here hx rfl (hb hby at_81) rfl ?_
    show Steps p.tables e below (T3.setTop (mkF m 82 #[.val (.int p1), .val (.int (3 : Int32)), .val (.ref s_PARAMETER_CHARACTERS), .val (.int (1000000 : Int32)), .val (.int (0 : Int32)), .val (.int (1000000 : Int32)), .val (.int (1000000 : Int32))] [(.int (1000000 : Int32)), (.int (1000000 : Int32))])) _
    refine XS.icmpNo X3.here hx rfl (hb hby at_82) rfl (teq (by decide : (1000000 : Int32) = (1000000 : Int32))).2 ?_
    show Steps p.tables e below (T3.setTop (mkF m 85 #[.val (.int p1), .val (.int (3 : Int32)), .val (.ref s_PARAMETER_CHARACTERS), .val (.int (1000000 : Int32)), .val (.int (0 : Int32)), .val (.int (1000000 : Int32)), .val (.int (1000000 : Int32))] [])) _
    refine XS.iload X3.here hx rfl (hb hby at_85) rfl ?_
    show Steps p.tables e below (T3.setTop (mkF m 87 #[.val (.int p1), .val (.int (3 : Int32)), .val (.ref s_PARAMETER_CHARACTERS), .val (.int (1000000 : Int32)), .val (.int (0 : Int32)), .val (.int (1000000 : Int32)), .val (.int (1000000 : Int32))] [(.int (1000000 : Int32))])) _
    refine XS.iload X3.here hx rfl (hb hby at_87) rfl ?_
    show Steps p.tables e below (T3.setTop (mkF m 89 #[.val (.int p1), .val (.int (3 : Int32)), .val (.ref s_PARAMETER_CHARACTERS), .val (.int (1000000 : Int32)), .val (.int (0 : Int32)), .val (.int (1000000 : Int32)), .val (.int (1000000 : Int32))] [(.int (1000000 : Int32)), (.int (1000000 : Int32))])) _
    refine XS.isub X3.here hx rfl (hb hby at_89) rfl ?_
    show Steps p.tables e below (T3.setTop (mkF m 90 #[.val (.int p1), .val (.int (3 : Int32)), .val (.ref s_PARAMETER_CHARACTERS), .val (.int (1000000 : Int32)), .val (.int (0 : Int32)), .val (.int (1000000 : Int32)), .val (.int (1000000 : Int32))] [(.int ((1000000 : Int32) - (1000000 : Int32)))])) _
    refine XS.iload X3.here hx rfl (hb hby at_90) rfl ?_
    show Steps p.tables e below (T3.setTop (mkF m 92 #[.val (.int p1), .val (.int (3 : Int32)), .val (.ref s_PARAMETER_CHARACTERS), .val (.int (1000000 : Int32)), .val (.int (0 : Int32)), .val (.int (1000000 : Int32)), .val (.int (1000000 : Int32))] [(.int (0 : Int32)), (.int ((1000000 : Int32) - (1000000 : Int32)))])) _
    refine XS.icmpNo X3.here hx rfl (hb hby at_92) rfl (teq (by decide : ((1000000 : Int32) - (1000000 : Int32)) = (0 : Int32))).2 ?_
    show Steps p.tables e below (T3.setTop (mkF m 95 #[.val (.int p1), .val (.int (3 : Int32)), .val (.ref s_PARAMETER_CHARACTERS), .val (.int (1000000 : Int32)), .val (.int (0 : Int32)), .val (.int (1000000 : Int32)), .val (.int (1000000 : Int32))] [])) _
    refine XS.iconst X3.here hx rfl (hb hby at_95) ?_
    show Steps p.tables e below (T3.setTop (mkF m 96 #[.val (.int p1), .val (.int (3 : Int32)), .val (.ref s_PARAMETER_CHARACTERS), .val (.int (1000000 : Int32)), .val (.int (0 : Int32)), .val (.int (1000000 : Int32)), .val (.int (1000000 : Int32))] [(.int (1 : Int32))])) _
    refine XS.goto X3.here hx rfl (pc0 := 96) (pc' := 100) rfl (hb hby at_96) (by decide) (by decide) ?_
    show Steps p.tables e below (T3.setTop (mkF m 100 #[.val (.int p1), .val (.int (3 : Int32)), .val (.ref s_PARAMETER_CHARACTERS), .val (.int (1000000 : Int32)), .val (.int (0 : Int32)), .val (.int (1000000 : Int32)), .val (.int (1000000 : Int32))] [(.int (1 : Int32))])) _
    exact retN X3 hx (t := .boolean) Bd.returns (by simp) (hb hby at_100) hr
  · show own_Q (some (.int (1 : Int32))) h0 n0 _ T3.heap _
    rw [e3]
    exact ⟨rfl, N3, rfl⟩
theorem own_law (l : Launch) (Z : State) (a0 : Array Value) (hw : ∀ d ∈ tables_1, d.before a0 Z = true) (ws : List Jvm.Cond) (s_EXPANSIONS s_PARAMETER_CHARACTERS s_NODES s_CHARACTERS : Addr) (h0 : Heap) (n0 : Nat) (Z0 : n0 ≤ h0.size) (G : own_Ctx Z h0 s_EXPANSIONS s_PARAMETER_CHARACTERS s_NODES s_CHARACTERS) (p1 : Int32) : MetFree l x (head1 (Jvm.Cond.code x code maxLocals ret :: ws) room_1) (fun a U => a = #[(.int p1)] ∧ Z.Warmed39 U.vm ∧ U.heap = h0) (fun _ _ _ _ _ => True) (fun _ U o U' => ∃ v L, o = .returned v ∧ own_Q (some (.int (1 : Int32))) h0 n0 v U'.heap L ∧ FrameEnd U o U' L 0 0) := by
  rcases own_and p1 with hk | hk | hk | hk
  · exact r_law_0 l Z a0 hw ws s_EXPANSIONS s_PARAMETER_CHARACTERS s_NODES s_CHARACTERS h0 n0 Z0 G p1 hk
  · exact r_law_1 l Z a0 hw ws s_EXPANSIONS s_PARAMETER_CHARACTERS s_NODES s_CHARACTERS h0 n0 Z0 G p1 hk
  · exact r_law_2 l Z a0 hw ws s_EXPANSIONS s_PARAMETER_CHARACTERS s_NODES s_CHARACTERS h0 n0 Z0 G p1 hk
  · exact r_law_3 l Z a0 hw ws s_EXPANSIONS s_PARAMETER_CHARACTERS s_NODES s_CHARACTERS h0 n0 Z0 G p1 hk
set_option maxRecDepth 65536 in
set_option maxHeartbeats 40000000 in
theorem comes_1 {Post : Tables → Env → Array Value → State → Outcome → State → Prop} (hpost : ∀ tb e args s v u, (limb_1_1.after args s (.returned v) u = true ∧ limb_1_2.after args s (.returned v) u = true ∧ True) → FrameEnd s (.returned v) u (Jvm.fieldLocs frame_1_writes args s ++ Jvm.arrayLocs frame_1_arrays args s ++ Jvm.staticLocs frame_1_statics s) 0 0 → Post tb e args s (.returned v) u) :
    ArmFor flags0 classFile x code maxLocals ret World_1 tables_1 room_1 Calls_1 rest_1 Pre_1 Post := by
  intro l hfl _ _ p e ha hc hk s m args below hf hA hF happ hP
  obtain ⟨hcalls, hrest, hpre⟩ := hP
  obtain ⟨-, -, -, hnamed, -, -, -, hat⟩ := (Spec.applies_iff hf).mp happ
  obtain ⟨hg, hn⟩ := and_e (Cond.before_iff.mp (show (Jvm.Cond.and given_1 narrow_1).before args s = true from hpre))
  obtain ⟨hg0, hg1⟩ := and_e hg
  obtain ⟨w0, rfl⟩ : ∃ w0 : Value, args = #[w0] := by
    have hs : args.size = 1 := by simpa [Cond.value, given_1] using hg0
    obtain ⟨L⟩ := args
    match L, hs with
    | [w0], _ => exact ⟨w0, rfl⟩
  obtain ⟨i0, ei0⟩ := is_v hg1
  obtain rfl : w0 = (.int i0) := Option.some.inj ei0
  have hw := fun d (hd : d ∈ tables_1) => atoms_spec (ws := Jvm.Cond.code x code maxLocals ret :: tables_1) hat d (List.mem_cons_of_mem _ hd)
  have hfit : Fit s := fun {y c} hc i hi => by
    obtain ⟨ha, rfl⟩ := Array.getElem?_eq_some_iff.mp hc
    have q := List.all_eq_true.mp ((Array.all_eq_true_iff_forall_mem.mp hF) _ (Array.getElem_mem ha)) i (List.mem_range.mpr hi)
    simpa [Array.getElem?_eq_getElem hi] using q
  obtain ⟨hn0, hn1⟩ := and_e hn
  obtain ⟨hn10, hn11⟩ := and_e hn1
  obtain ⟨hn110, hn111⟩ := and_e hn11
  obtain ⟨hn1110, hn1111⟩ := and_e hn111
  obtain ⟨hn11110, hn11111⟩ := and_e hn1111
  obtain ⟨hn111110, hn111111⟩ := and_e hn11111
  obtain ⟨hn1111110, hn1111111⟩ := and_e hn111111
  obtain ⟨hn11111110, hn11111111⟩ := and_e hn1111111
  obtain ⟨hn111111110, hn111111111⟩ := and_e hn11111111
  obtain ⟨hn1111111110, hn1111111111⟩ := and_e hn111111111
  obtain ⟨hn11111111110, hn11111111111⟩ := and_e hn1111111111
  obtain ⟨s_EXPANSIONS, ev_EXPANSIONS⟩ := exa_v hn0
  have E_EXPANSIONS := Exa.start ev_EXPANSIONS hn0
  have S_EXPANSIONS := Sta.start ev_EXPANSIONS (Or.inr ⟨(hw _ (List.mem_of_getElem? (i := 1) rfl)), (hw _ (List.mem_of_getElem? (i := 2) rfl))⟩)
  have O_EXPANSIONS := Fld.start ((fld_at ev_EXPANSIONS).symm.trans (own_eqI hn11110))
  obtain ⟨s_PARAMETER_CHARACTERS, ev_PARAMETER_CHARACTERS⟩ := exa_v hn110
  have E_PARAMETER_CHARACTERS := Exa.start ev_PARAMETER_CHARACTERS hn110
  have S_PARAMETER_CHARACTERS := Sta.start ev_PARAMETER_CHARACTERS (Or.inr ⟨(hw _ (List.mem_of_getElem? (i := 1) rfl)), (hw _ (List.mem_of_getElem? (i := 18) rfl))⟩)
  have O_PARAMETER_CHARACTERS := Fld.start ((fld_at ev_PARAMETER_CHARACTERS).symm.trans (own_eqI hn1110))
  obtain ⟨s_NODES, ev_NODES⟩ := exa_v hn1111110
  have E_NODES := Exa.start ev_NODES hn1111110
  have S_NODES := Sta.start ev_NODES (Or.inr ⟨(hw _ (List.mem_of_getElem? (i := 1) rfl)), (hw _ (List.mem_of_getElem? (i := 21) rfl))⟩)
  have O_NODES := Fld.start ((fld_at ev_NODES).symm.trans (own_eqI hn11111110))
  obtain ⟨s_CHARACTERS, ev_CHARACTERS⟩ := exa_v hn1111111110
  have E_CHARACTERS := Exa.start ev_CHARACTERS hn1111111110
  have S_CHARACTERS := Sta.start ev_CHARACTERS (Or.inr ⟨(hw _ (List.mem_of_getElem? (i := 1) rfl)), (hw _ (List.mem_of_getElem? (i := 24) rfl))⟩)
  have O_CHARACTERS := Fld.start ((fld_at ev_CHARACTERS).symm.trans (own_eqI hn11111111110))
  have F_limit_EXPANSIONS := Fld.start ((fld_at ev_EXPANSIONS).symm.trans (own_eqI hn10))
  have F_limit_PARAMETER_CHARACTERS := Fld.start ((fld_at ev_PARAMETER_CHARACTERS).symm.trans (own_eqI hn111110))
  have F_limit_NODES := Fld.start ((fld_at ev_NODES).symm.trans (own_eqI hn111111110))
  have F_limit_CHARACTERS := Fld.start ((fld_at ev_CHARACTERS).symm.trans (own_eqI hn11111111111))
  have G : own_Ctx s s.heap s_EXPANSIONS s_PARAMETER_CHARACTERS s_NODES s_CHARACTERS := ⟨S_EXPANSIONS, E_EXPANSIONS, O_EXPANSIONS, S_PARAMETER_CHARACTERS, E_PARAMETER_CHARACTERS, O_PARAMETER_CHARACTERS, S_NODES, E_NODES, O_NODES, S_CHARACTERS, E_CHARACTERS, O_CHARACTERS, F_limit_EXPANSIONS, F_limit_PARAMETER_CHARACTERS, F_limit_NODES, F_limit_CHARACTERS⟩
  obtain ⟨n, o, h1, h2, h3, _, L, rfl, ⟨rfl, N, -⟩, hq⟩ := own_law l s _ hw tables_1 s_EXPANSIONS s_PARAMETER_CHARACTERS s_NODES s_CHARACTERS s.heap s.heap.size (Nat.le_refl _) G i0 p e ha hc hk s m _ below hf ((Spec.applies_iff_loose hf).mp happ).1 ⟨rfl, State.Warmed39.refl s, rfl⟩ trivial
  refine ⟨n, _, h1, h2, h3, hpost _ _ _ _ _ _ ⟨Cond.after_iff.mpr rfl, Cond.after_iff.mpr (eq_i res_at (Term.int_eval (1)) rfl), trivial⟩ ⟨hq.1, hq.2.1, (hq.2.2.sift fun y hy => Or.inr (N y hy)).mono (by decide) (by decide)⟩⟩
theorem main_1_1 : Claimed_1_1 := comes_1 fun _ _ _ _ _ _ h hF => ⟨h.1, hF⟩
theorem main_1_2 : Claimed_1_2 := comes_1 fun _ _ _ _ _ _ h hF => ⟨h.2.1, hF⟩
end Jvm.Pilot.@@N@@
namespace Jvm.Pilot.@@N@@
open Jvm Jvm.ClassFile Sem Op Lib Jvm.Free Jvm.Stand Jvm.Pilot.@@N@@.Jvm.D
/-! MADE BY PROGRAM (witnessworld.py) out of the Statement's table words and the real class files: 10 classes; the members and pool entries that the words name. The judged class is class 1, her method 1. -/
namespace start1
open Jvm.ClassFile
def u (s : String) : CpInfo := .utf8 (stringToUtf16 s)
/-- a pool by its gaps: so many unusable entries, then the entry; so many at the end -/
def gap : Nat → List CpInfo → List CpInfo
  | 0, r => r
  | n + 1, r => .unusable :: gap n r
def poolList (es : List (Nat × CpInfo)) (last : Nat) : List CpInfo := es.foldr (fun e r => gap e.1 (e.2 :: r)) (gap last [])
def pool (es : List (Nat × CpInfo)) (last : Nat) : Array CpInfo := ⟨poolList es last⟩
def fileOf (pool : Array CpInfo) (this : Nat) (attrs : Array Attribute := #[]) (ms : Array MethodInfo := #[]) (fl : Nat := 33) (sup : Nat := 0) (ifs : Array Nat := #[]) (fds : Array FieldInfo := #[]) : ClassFile where
  minorVersion := 0
  majorVersion := 65
  constantPool := pool
  accessFlags := fl
  thisClass := this
  superClass := sup
  interfaces := ifs
  fields := fds
  methods := ms
  attributes := attrs
def plain (name : String) (sup : Option ClassId) : Class where
  name := name
  kind := .ordinary
  loader := none
  accessFlags := 33
  super := sup
  interfaces := #[]
  cf := none
  fields := #[]
  methods := #[]
  instanceTypes := #[]
  staticTypes := #[]
  resolved := #[]
  callSites := []
  init := .initialized
  statics := none
  mirror := none

def pool0 : Array CpInfo := pool [(5, u "<init>"), (0, u "()V"), (1, .class_ 10), (1, u "java/lang/Object")] 113

def k0m0 : Method := { name := "<init>", desc := "()V", sig := { parameters := [], returnType := none }, accessFlags := 1, code := none }
/-- java/lang/Object -/
def k0 : Class := { plain "java/lang/Object" none with
  accessFlags := 33
  interfaces := #[]
  cf := some (fileOf pool0 8 #[] #[{ accessFlags := 1, nameIndex := 5, descriptorIndex := 6, attributes := #[] }] 33 0 #[] #[])
  fields := #[]
  methods := #[k0m0]
  instanceTypes := #[]
  staticTypes := #[]
  resolved := Array.replicate 124 none
  statics := none }

def pool1 : Array CpInfo := pool [(2, .class_ 4), (1, u "java/lang/Object"), (0, u "<init>"), (0, u "()V"), (0, .fieldref 8 9), (0, .class_ 10), (0, .nameAndType 11 12), (0, u "com/example/rattan/rattan/storage/xml/EntityLimit"), (0, u "EXPANSIONS"), (0, u "Lcom/example/rattan/rattan/storage/xml/EntityLimit;"), (0, .integer 64001), (0, .fieldref 8 15), (0, .nameAndType 16 12), (0, u "CHARACTERS"), (0, .integer 50000000), (0, .fieldref 8 19), (0, .nameAndType 20 12), (0, u "NODES"), (0, .integer 3000000), (0, .fieldref 8 23), (0, .nameAndType 24 12), (0, u "PARAMETER_CHARACTERS"), (0, .integer 1000000), (0, .methodref 8 27), (0, .nameAndType 28 29), (0, u "propertyValue"), (0, u "()I"), (0, .methodref 8 31), (0, .nameAndType 32 29), (0, u "limit"), (0, .class_ 34), (0, u "com/example/rattan/rattan/storage/xml/EntityLimitPropertyValuePinLaw"), (2, u "law"), (0, u "(I)Z")] 3

def k1m0 : Method := { name := "<init>", desc := "()V", sig := { parameters := [], returnType := none }, accessFlags := 2, code := none }
def k1c1 : Code := { maxStack := 2, maxLocals := 7, code := code, exceptionTable := #[], attributes := #[] }
def k1m1 : Method := { name := "law", desc := "(I)Z", sig := { parameters := [.int], returnType := some .boolean }, accessFlags := 9, code := some k1c1 }
/-- com/example/rattan/rattan/storage/xml/EntityLimitPropertyValuePinLaw -/
def k1 : Class := { plain "com/example/rattan/rattan/storage/xml/EntityLimitPropertyValuePinLaw" (some 0) with
  accessFlags := 49
  interfaces := #[]
  cf := some (fileOf pool1 33 #[] #[{ accessFlags := 2, nameIndex := 5, descriptorIndex := 6, attributes := #[] }, { accessFlags := 9, nameIndex := 37, descriptorIndex := 38, attributes := #[] }] 49 2 #[] #[])
  fields := #[]
  methods := #[k1m0, k1m1]
  instanceTypes := #[]
  staticTypes := #[]
  resolved := Array.replicate 42 none
  statics := none }

def pool2 : Array CpInfo := pool [(1, .class_ 2), (0, u "java/lang/constant/Constable"), (0, .class_ 4), (0, u "java/lang/Object")] 6

/-- java/lang/constant/Constable -/
def k2 : Class := { plain "java/lang/constant/Constable" (some 0) with
  accessFlags := 1537
  interfaces := #[]
  cf := some (fileOf pool2 1 #[] #[] 1537 3 #[] #[])
  fields := #[]
  methods := #[]
  instanceTypes := #[]
  staticTypes := #[]
  resolved := Array.replicate 11 none
  statics := none }

def pool3 : Array CpInfo := pool [(1, .class_ 2), (0, u "java/lang/Comparable"), (0, .class_ 4), (0, u "java/lang/Object")] 7

/-- java/lang/Comparable -/
def k3 : Class := { plain "java/lang/Comparable" (some 0) with
  accessFlags := 1537
  interfaces := #[]
  cf := some (fileOf pool3 1 #[] #[] 1537 3 #[] #[])
  fields := #[]
  methods := #[]
  instanceTypes := #[]
  staticTypes := #[]
  resolved := Array.replicate 12 none
  statics := none }

def pool4 : Array CpInfo := pool [(1, .class_ 2), (0, u "java/io/Serializable"), (0, .class_ 4), (0, u "java/lang/Object")] 2

/-- java/io/Serializable -/
def k4 : Class := { plain "java/io/Serializable" (some 0) with
  accessFlags := 1537
  interfaces := #[]
  cf := some (fileOf pool4 1 #[] #[] 1537 3 #[] #[])
  fields := #[]
  methods := #[]
  instanceTypes := #[]
  staticTypes := #[]
  resolved := Array.replicate 7 none
  statics := none }

def pool5 : Array CpInfo := pool [(2, .class_ 4), (1, u "java/lang/Enum"), (0, u "name"), (0, u "Ljava/lang/String;"), (2, u "ordinal"), (0, u "I"), (1, .class_ 14), (1, u "java/lang/Object"), (4, u "hash"), (86, .class_ 108), (1, u "java/lang/Enum$EnumDesc"), (2, .class_ 112), (0, u "java/lang/constant/Constable"), (0, .class_ 114), (0, u "java/lang/Comparable"), (0, .class_ 116), (0, u "java/io/Serializable")] 87

/-- java/lang/Enum -/
def k5 : Class := { plain "java/lang/Enum" (some 0) with
  accessFlags := 1057
  interfaces := #[2, 3, 4]
  cf := some (fileOf pool5 2 #[.nestMembers #[106]] #[] 1057 12 #[111, 113, 115] #[{ accessFlags := 18, nameIndex := 5, descriptorIndex := 6, attributes := #[] }, { accessFlags := 18, nameIndex := 9, descriptorIndex := 10, attributes := #[] }, { accessFlags := 2, nameIndex := 19, descriptorIndex := 10, attributes := #[] }])
  fields := #[{ name := "name", type := (.object "java/lang/String"), accessFlags := 18, slot := 0, constantValue := 0 }, { name := "ordinal", type := .int, accessFlags := 18, slot := 1, constantValue := 0 }, { name := "hash", type := .int, accessFlags := 2, slot := 2, constantValue := 0 }]
  methods := #[]
  instanceTypes := #[(.object "java/lang/String"), .int, .int]
  staticTypes := #[]
  resolved := Array.replicate 204 none
  statics := none }

def pool6 : Array CpInfo := pool [(1, .class_ 2), (0, u "com/example/rattan/rattan/storage/xml/EntityLimit"), (0, .fieldref 1 4), (0, .nameAndType 5 6), (0, u "EXPANSIONS"), (0, u "Lcom/example/rattan/rattan/storage/xml/EntityLimit;"), (2, u "CHARACTERS"), (2, u "NODES"), (2, u "PARAMETER_CHARACTERS"), (2, u "$VALUES"), (0, u "[Lcom/example/rattan/rattan/storage/xml/EntityLimit;"), (6, .class_ 28), (1, u "java/lang/Enum"), (8, u "property"), (0, u "Ljava/lang/String;"), (0, .fieldref 1 40), (0, .nameAndType 41 42), (0, u "limit"), (0, u "I"), (2, u "code"), (2, u "subject"), (2, u "unit"), (53, u "propertyValue"), (0, u "()I")] 6

def k6c0 : Code := { maxStack := 2, maxLocals := 1, code := prog_87_method_5_code, exceptionTable := #[], attributes := #[] }
def k6m0 : Method := { name := "propertyValue", desc := "()I", sig := { parameters := [], returnType := some .int }, accessFlags := 0, code := some k6c0 }
def k6c1 : Code := { maxStack := 1, maxLocals := 1, code := prog_87_method_6_code, exceptionTable := #[], attributes := #[] }
def k6m1 : Method := { name := "limit", desc := "()I", sig := { parameters := [], returnType := some .int }, accessFlags := 0, code := some k6c1 }
/-- com/example/rattan/rattan/storage/xml/EntityLimit -/
def k6 : Class := { plain "com/example/rattan/rattan/storage/xml/EntityLimit" (some 5) with
  accessFlags := 16432
  interfaces := #[]
  cf := some (fileOf pool6 1 #[] #[{ accessFlags := 0, nameIndex := 105, descriptorIndex := 106, attributes := #[] }, { accessFlags := 0, nameIndex := 41, descriptorIndex := 106, attributes := #[] }] 16432 26 #[] #[{ accessFlags := 16409, nameIndex := 5, descriptorIndex := 6, attributes := #[] }, { accessFlags := 16409, nameIndex := 9, descriptorIndex := 6, attributes := #[] }, { accessFlags := 16409, nameIndex := 12, descriptorIndex := 6, attributes := #[] }, { accessFlags := 16409, nameIndex := 15, descriptorIndex := 6, attributes := #[] }, { accessFlags := 18, nameIndex := 37, descriptorIndex := 38, attributes := #[] }, { accessFlags := 18, nameIndex := 41, descriptorIndex := 42, attributes := #[] }, { accessFlags := 18, nameIndex := 45, descriptorIndex := 38, attributes := #[] }, { accessFlags := 18, nameIndex := 48, descriptorIndex := 38, attributes := #[] }, { accessFlags := 18, nameIndex := 51, descriptorIndex := 38, attributes := #[] }, { accessFlags := 4122, nameIndex := 18, descriptorIndex := 19, attributes := #[] }])
  fields := #[{ name := "EXPANSIONS", type := (.object "com/example/rattan/rattan/storage/xml/EntityLimit"), accessFlags := 16409, slot := 0, constantValue := 0 }, { name := "CHARACTERS", type := (.object "com/example/rattan/rattan/storage/xml/EntityLimit"), accessFlags := 16409, slot := 1, constantValue := 0 }, { name := "NODES", type := (.object "com/example/rattan/rattan/storage/xml/EntityLimit"), accessFlags := 16409, slot := 2, constantValue := 0 }, { name := "PARAMETER_CHARACTERS", type := (.object "com/example/rattan/rattan/storage/xml/EntityLimit"), accessFlags := 16409, slot := 3, constantValue := 0 }, { name := "property", type := (.object "java/lang/String"), accessFlags := 18, slot := 3, constantValue := 0 }, { name := "limit", type := .int, accessFlags := 18, slot := 4, constantValue := 0 }, { name := "code", type := (.object "java/lang/String"), accessFlags := 18, slot := 5, constantValue := 0 }, { name := "subject", type := (.object "java/lang/String"), accessFlags := 18, slot := 6, constantValue := 0 }, { name := "unit", type := (.object "java/lang/String"), accessFlags := 18, slot := 7, constantValue := 0 }, { name := "$VALUES", type := (.array (.object "com/example/rattan/rattan/storage/xml/EntityLimit")), accessFlags := 4122, slot := 4, constantValue := 0 }]
  methods := #[k6m0, k6m1]
  instanceTypes := #[(.object "java/lang/String"), .int, .int, (.object "java/lang/String"), .int, (.object "java/lang/String"), (.object "java/lang/String"), (.object "java/lang/String")]
  staticTypes := #[(.object "com/example/rattan/rattan/storage/xml/EntityLimit"), (.object "com/example/rattan/rattan/storage/xml/EntityLimit"), (.object "com/example/rattan/rattan/storage/xml/EntityLimit"), (.object "com/example/rattan/rattan/storage/xml/EntityLimit"), (.array (.object "com/example/rattan/rattan/storage/xml/EntityLimit"))]
  resolved := Array.replicate 113 none
  statics := some 0 }

def pool7 : Array CpInfo := pool [(1, u "java/lang/Cloneable"), (0, .class_ 1), (0, u "java/lang/Object"), (0, .class_ 3)] 3

/-- java/lang/Cloneable -/
def k7 : Class := { plain "java/lang/Cloneable" (some 0) with
  accessFlags := 1537
  interfaces := #[]
  cf := some (fileOf pool7 2 #[] #[] 1537 4 #[] #[])
  fields := #[]
  methods := #[]
  instanceTypes := #[]
  staticTypes := #[]
  resolved := Array.replicate 8 none
  statics := none }

/-- the primitive byte -/
def k8 : Class := { plain "byte" none with kind := .primitive 'B', accessFlags := 0x411 }
/-- [B -/
def k9 : Class := { plain "[B" (some 0) with kind := .array 8 .byte, interfaces := #[7, 4], accessFlags := 1041 }

def heap : Heap := #[{ cls := 6, slots := #[.ref 1, .ref 4, .ref 3, .ref 2, .null], vm := .statics 6 },
  { cls := 6, slots := #[.null, .int 0, .int 0, .null, .int 64000, .null, .null, .null], vm := .none },
  { cls := 6, slots := #[.null, .int 3, .int 0, .null, .int 1000000, .null, .null, .null], vm := .none },
  { cls := 6, slots := #[.null, .int 2, .int 0, .null, .int 3000000, .null, .null, .null], vm := .none },
  { cls := 6, slots := #[.null, .int 1, .int 0, .null, .int 50000000, .null, .null, .null], vm := .none }]
def classes : Array Class := #[k0, k1, k2, k3, k4, k5, k6, k7, k8, k9]
def interned : List (Array UInt16 × Addr) := []
def slotsUsed : Nat := 37
def theMethod : MethodId := ⟨1, 1⟩
def args0 : Array Value := #[.int 5]
def aboutOver (below : List Frame) : State where
  vm := { classes := classes, interned := interned.toArray }
  heap := heap
  slotsUsed := slotsUsed
  threads := #[{ frames := .invoking theMethod args0 :: below }]
def below0 : List Frame := [.native { method := ⟨0, 0⟩, args := #[] }]
def about1 : State := aboutOver below0
def p0 : Program := .bare "" "" ""
def e0 : Env := launch0.env 0 0 0
theorem w_frames : about1.frames = Frame.invoking theMethod args0 :: below0 := rfl
set_option maxRecDepth 65536 in
theorem w_args : argsFit about1.vm theMethod args0 = true := by decide +kernel
set_option maxRecDepth 65536 in
theorem w_heap : heapFits about1 = true := by decide +kernel
set_option maxRecDepth 65536 in
theorem w_runnable : about1.curStatus? = some .runnable := by decide +kernel
set_option maxRecDepth 65536 in
theorem w_alone : about1.alone = true := by decide +kernel
set_option maxRecDepth 65536 in
theorem w_named : about1.methodNamed? x = some theMethod := by decide +kernel
set_option maxRecDepth 65536 in
theorem w_hears : about1.hears theMethod below0 = true := by decide +kernel
set_option maxRecDepth 65536 in
theorem w_ripe : about1.ripe theMethod args0 below0 = true := by decide +kernel
theorem w_running : about1.status = .running := rfl
set_option maxRecDepth 65536 in
theorem w_room : about1.hasRoom e0.platform room_1 = true :=
  launch0.hasRoom_least _ room_1 (by decide +kernel) (by decide +kernel) (by decide +kernel) (by decide +kernel) (by decide +kernel) (by decide +kernel)
theorem allAtoms_all (ts : List Jvm.Cond) (a : Array Jvm.Value) (st : Jvm.State) : (allAtoms ts).before a st = ts.all (fun c => c.before a st) := by
  induction ts with
  | nil => rfl
  | cons c t ih =>
    show (Jvm.Cond.and c (allAtoms t)).before a st = _
    rw [Jvm.Cond.before_and, ih, List.all_cons]
def words1 : List Jvm.Cond := Jvm.Cond.code x code maxLocals ret :: tables_1
/-- a 'code' word, met by the world's own term for the bytes: nothing is compared byte by byte -/
theorem code_word {y : MethodName} {bytes : ByteArray} {mx : Nat} {rt : Option FieldType} {a : Array Value} {s : State} {m : MethodId} {meth : Method} {c : Code} (h1 : s.methodNamed? y = some m) (h2 : s.vm.method? m = some meth) (h3 : meth.code = some c) (h4 : c.code = bytes)
    (h5 : (c.maxLocals == mx && c.exceptionTable.isEmpty && decide (c.maxStack ≤ mostOperands) && decide (meth.sig.returnType = rt) && !meth.locks && decide (parseMethodDescriptor y.desc = some meth.sig)) = true) : (Jvm.Cond.code y bytes mx rt).before a s = true := by
  simp only [Bool.and_eq_true, beq_iff_eq, Bool.not_eq_true', decide_eq_true_eq] at h5
  obtain ⟨⟨⟨⟨⟨g1, g2⟩, g3⟩, g4⟩, g5⟩, g6⟩ := h5
  simp [Cond.before, Cond.holds, Cond.value, h1, h2, h3, h4, g1, g2, g3, g4, g5, g6]
def isCode : Jvm.Cond → Bool
  | .code _ _ _ _ => true
  | _ => false
theorem all_split {L : List Jvm.Cond} {P : Jvm.Cond → Bool} (h1 : L.all (fun c => isCode c || P c) = true) (h2 : ∀ c ∈ L.filter isCode, P c = true) : L.all P = true := by
  refine List.all_eq_true.mpr fun c hc => ?_
  have h := List.all_eq_true.mp h1 c hc
  rcases Bool.eq_false_or_eq_true (isCode c) with hi | hi
  · exact h2 c (List.mem_filter.mpr ⟨hc, hi⟩)
  · simpa [hi] using h
set_option maxRecDepth 65536 in
theorem w_c0 : (Jvm.Cond.code x code maxLocals ret).before args0 about1 = true := code_word (m := ⟨1, 1⟩) (meth := k1m1) (c := k1c1) (by decide +kernel) rfl rfl rfl (by decide +kernel)
set_option maxRecDepth 65536 in
theorem w_c1 : (Jvm.Cond.code ({ cls := "com/example/rattan/rattan/storage/xml/EntityLimit", name := "propertyValue", desc := "()I" } : Jvm.MethodName) prog_87_method_5_code (1 : Nat) (Option.some Jvm.ClassFile.FieldType.int)).before args0 about1 = true := code_word (m := ⟨6, 0⟩) (meth := k6m0) (c := k6c0) (by decide +kernel) rfl rfl rfl (by decide +kernel)
set_option maxRecDepth 65536 in
theorem w_c2 : (Jvm.Cond.code ({ cls := "com/example/rattan/rattan/storage/xml/EntityLimit", name := "limit", desc := "()I" } : Jvm.MethodName) prog_87_method_6_code (1 : Nat) (Option.some Jvm.ClassFile.FieldType.int)).before args0 about1 = true := code_word (m := ⟨6, 1⟩) (meth := k6m1) (c := k6c1) (by decide +kernel) rfl rfl rfl (by decide +kernel)
def codes1 : List Jvm.Cond := [Jvm.Cond.code x code maxLocals ret, Jvm.Cond.code ({ cls := "com/example/rattan/rattan/storage/xml/EntityLimit", name := "propertyValue", desc := "()I" } : Jvm.MethodName) prog_87_method_5_code (1 : Nat) (Option.some Jvm.ClassFile.FieldType.int), Jvm.Cond.code ({ cls := "com/example/rattan/rattan/storage/xml/EntityLimit", name := "limit", desc := "()I" } : Jvm.MethodName) prog_87_method_6_code (1 : Nat) (Option.some Jvm.ClassFile.FieldType.int)]
set_option maxRecDepth 65536 in
theorem codes_eq : words1.filter isCode = codes1 := rfl
theorem w_codes : ∀ c ∈ words1.filter isCode, c.before args0 about1 = true := by
  rw [codes_eq]
  intro c hc
  simp only [codes1, List.mem_cons, List.not_mem_nil, or_false] at hc
  rcases hc with rfl | rfl | rfl
  · exact w_c0
  · exact w_c1
  · exact w_c2
set_option maxRecDepth 65536 in
theorem w_t1 : (words1.take 24).all (fun c => isCode c || c.before args0 about1) = true := by decide +kernel
set_option maxRecDepth 65536 in
theorem w_t2 : (words1.drop 24).all (fun c => isCode c || c.before args0 about1) = true := by decide +kernel
theorem w_tables : (allAtoms (Jvm.Cond.code x code maxLocals ret :: tables_1)).before args0 about1 = true := by
  rw [allAtoms_all]
  show words1.all (fun c => c.before args0 about1) = true
  refine all_split ?_ w_codes
  rw [← List.take_append_drop 24 words1, List.all_append, w_t1, w_t2]
  rfl
set_option maxRecDepth 65536 in
theorem w_case : (Jvm.Cond.and given_1 narrow_1).before args0 about1 = true := by decide +kernel
theorem w_applies : (headSpec (Jvm.Cond.code x code maxLocals ret :: tables_1) room_1).applies x e0.platform about1 = true :=
  (Spec.applies_iff w_frames).mpr ⟨w_running, w_runnable, w_alone, w_named, w_hears, w_ripe, w_room, w_tables⟩
theorem atStart : AtStart classFile x code maxLocals ret World_1 tables_1 room_1 Calls_1 rest_1 Pre_1 launch0 p0 e0 about1 theMethod args0 below0 :=
  ⟨lists_1, trivial, launch0.admits_env _ _ _, launch0.least_env, fairChoices_fair.cas, fairChoices_fair.clock, w_frames, w_args, w_heap, w_applies, trivial, trivial, w_case⟩
end start1
theorem witness_1 : WitnessClaimed_1 := ⟨start1.p0, start1.e0, start1.about1, start1.theMethod, start1.args0, start1.below0, start1.atStart⟩
end Jvm.Pilot.@@N@@
