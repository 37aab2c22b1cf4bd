import JvmDerived
import JvmDerived.Pilot.@@N@@Statement
import JvmDerived.Pilot.@@N@@Code
set_option linter.unusedVariables false
set_option linter.unusedSimpArgs false
@@BLOCK:NumsL.lean.txt@@
namespace Jvm.RoadKit
open Sem ClassFile Op Lib Jvm.Stand Jvm.Free Jvm.LawKit
section New
variable {p : Program} {l : Launch} {e : Env} {R : Room} {s : State} {m : MethodId} {args : Array Value} {below : List Frame} {meth : Method} {c : Code} {T : State} {locs : List Loc} {cells slots : Nat}
theorem retI (X : Stand p l e R s m args below meth c T locs cells slots) (hx : p.tables.exec = Jvm.exec) {pc : Nat} {Ls : Array Slot} {z : Int32} {rest : List Value} (hret : meth.sig.returnType = some .int) (hd : decode c.code pc = .ok (.ireturn, 1)) {fs : List Frame}
    (hl : ∀ (f : JFrame) (acts : List Action), f.method = m → f.locked = none → f.entered = [] → (doReturn e (T.setTop f) acts (some (.int z))).1 = T.setFrames fs) : Steps p.tables e below (T.setTop (mkF m pc Ls (.int z :: rest))) (T.setFrames fs) := by
  have hm' : T.vm.method? m = some meth := X.method'
  have hn : narrow .int (.int z) = .int z := rfl
  show Steps p.tables e below (T.setTop { method := m, pc := pc, locals := Ls, stack := _ :: rest, locked := none }) _
  jvm_step X.here [X.here.top, hx, hd, hm', hret, hn]
  first | (intro acts; rw [hl _ acts rfl rfl rfl]) | rw [hl _ _ rfl rfl rfl]
  exact Steps.refl _
end New
end Jvm.RoadKit
namespace Jvm.Pilot.@@N@@
open Jvm Jvm.ClassFile Sem Op Lib Jvm.Free Jvm.Stand Jvm.LawKit Jvm.RoadKit Bundle Jvm.Pilot.@@N@@.Jvm.D
def own_Q (r : Option Value) (h0 : Heap) (n0 : Nat) (v : Option Value) (h : Heap) (L : List Loc) : Prop := v = r ∧ Fr n0 L ∧ h = h0
theorem own_eqI {args : Array Value} {Z : State} {t : Term} {k : Int32} (h : (Cond.eq t (Term.int k)).value args Z none Z [] = some true) : t.eval args Z none [] Z = some (.int k) := by
  simp only [Cond.value, Term.eval] at h
  cases ht : t.eval args Z none [] Z with
  | none => simp [ht] at h
  | some v => cases v <;> simp [ht] at h ⊢ <;> exact h
theorem own_eqR {args : Array Value} {Z : State} {t u : Term} {y : Addr} (h : (Cond.eq t u).value args Z none Z [] = some true) (hu : u.eval args Z none [] Z = some (.ref y)) : t.eval args Z none [] Z = some (.ref y) := by
  simp only [Cond.value, hu] at h
  cases ht : t.eval args Z none [] Z with
  | none => simp [ht] at h
  | some v => cases v <;> simp [ht] at h ⊢ <;> exact h
theorem own_selP {Z s : State} {a0 args : Array Value} {y : MethodName} {n : Nat} (hZ : Z.Warmed39 s.vm) (wi : (Cond.instantiable y.cls n).before a0 Z = true) (wm : (Cond.instanceMethod y).before a0 Z = true) (wp : (Cond.privateMethod y).before a0 Z = true) (hy : y.cls ≠ "java/lang/invoke/MethodHandle" ∧ y.cls ≠ "java/lang/invoke/VarHandle") : (Cond.selects y.cls y y).before args s = true := by
  have wi' : (Cond.instantiable y.cls n).before args s = true := mvT hZ wi
  have wm' : (Cond.instanceMethod y).before args s = true := mvT hZ wm
  have wp' : s.PrivateAt y := Cond.privateMethod_at (args := args) (mvP hZ wp)
  obtain ⟨c, k, h1, h2, -, h3, -⟩ := Cond.instantiable_spec wi'
  exact Stand.selects_self_of_private h1 h2 (Bool.or_eq_false_iff.mp h3).1 wp' wm' hy
theorem own_len {args : Array Value} {Z : State} {t : Term} {a : Addr} {cl : Cell} {ty : FieldType} {z : Int32} (A : Arr Z Z.heap a cl ty) (ht : t.eval args Z none [] Z = some (.ref a)) (hl : (Term.length t).eval args Z none [] Z = some (.int z)) : cl.slots.size < 2 ^ 31 ∧ cl.slots.size.toInt32 = z := by
  have ha : Z.arrayAt? a = some cl := Arr.fin (State.Warmed39.refl Z).alike A
  by_cases q : cl.slots.size < 2 ^ 31
  · rw [len_f ht ha q] at hl; exact ⟨q, Value.int.inj (Option.some.inj hl)⟩
  · simp [Term.eval, ht, ha, q] at hl
def own_Ctx (Z : State) (h : Heap) (s_T s_Z s_1 m_Z : Addr) (k_Z : ClassId) : Prop := (Sta Z h "com/example/hodos/hodos/model/Time" "ZERO" "Lcom/example/hodos/hodos/model/Time;" (.ref s_T)) ∧ (Exa Z h s_T "com/example/hodos/hodos/model/Time") ∧ (Fld Z h s_T "com/example/hodos/hodos/model/Time" "numerator" "Ljava/math/BigInteger;" (.ref s_Z)) ∧ (Fld Z h s_T "com/example/hodos/hodos/model/Time" "denominator" "Ljava/math/BigInteger;" (.ref s_1)) ∧ (Sta Z h "java/math/BigInteger" "ZERO" "Ljava/math/BigInteger;" (.ref s_Z)) ∧ (Exa Z h s_Z "java/math/BigInteger") ∧ (Fld Z h s_Z "java/math/BigInteger" "signum" "I" (.int (0 : Int32))) ∧ (Fld Z h s_Z "java/math/BigInteger" "mag" "[I" (.ref m_Z)) ∧ (Arv Z h m_Z k_Z .int (0 : Int32) [] (.int (0 : Int32))) ∧ (Sta Z h "java/math/BigInteger" "ONE" "Ljava/math/BigInteger;" (.ref s_1)) ∧ (Exa Z h s_1 "java/math/BigInteger") ∧ (Fld Z h s_1 "java/math/BigInteger" "signum" "I" (.int (1 : Int32)))
def own_QzI (Z : State) (a1 : Addr) (p2 : Int32) (a3 : Addr) (q4 : Int64) (h0 : Heap) (n0 : Nat) (v : Option Value) (h : Heap) (L : List Loc) : Prop := v = none ∧ Fr n0 L ∧ Keep h0 h [a1] ∧ (Fld Z h a1 "com/example/hodos/hodos/analysis/Zone" "size" "I" (.int p2)) ∧ (Fld Z h a1 "com/example/hodos/hodos/analysis/Zone" "numerators" "[J" (.ref a3)) ∧ (Fld Z h a1 "com/example/hodos/hodos/analysis/Zone" "denominator" "J" (.long q4)) ∧ (Fld Z h a1 "com/example/hodos/hodos/analysis/Zone" "exact" "[Lcom/example/hodos/hodos/model/Time;" .null)
theorem d2_0 : decode prog_20_method_1_code 0 = .ok (.aload_n 0, 1) := by decide +kernel
theorem d2_1 : decode prog_20_method_1_code 1 = .ok (.invokespecial 3, 3) := by decide +kernel
theorem d2_4 : decode prog_20_method_1_code 4 = .ok (.aload_n 0, 1) := by decide +kernel
theorem d2_5 : decode prog_20_method_1_code 5 = .ok (.iload_n 1, 1) := by decide +kernel
theorem d2_6 : decode prog_20_method_1_code 6 = .ok (.putfield 9, 3) := by decide +kernel
theorem d2_9 : decode prog_20_method_1_code 9 = .ok (.aload_n 0, 1) := by decide +kernel
theorem d2_10 : decode prog_20_method_1_code 10 = .ok (.aload_n 2, 1) := by decide +kernel
theorem d2_11 : decode prog_20_method_1_code 11 = .ok (.putfield 15, 3) := by decide +kernel
theorem d2_14 : decode prog_20_method_1_code 14 = .ok (.aload_n 0, 1) := by decide +kernel
theorem d2_15 : decode prog_20_method_1_code 15 = .ok (.lload_n 3, 1) := by decide +kernel
theorem d2_16 : decode prog_20_method_1_code 16 = .ok (.putfield 19, 3) := by decide +kernel
theorem d2_19 : decode prog_20_method_1_code 19 = .ok (.aload_n 0, 1) := by decide +kernel
theorem d2_20 : decode prog_20_method_1_code 20 = .ok (.aload 5, 2) := by decide +kernel
theorem d2_22 : decode prog_20_method_1_code 22 = .ok (.putfield 23, 3) := by decide +kernel
theorem d2_25 : decode prog_20_method_1_code 25 = .ok (.return_, 1) := by decide +kernel
theorem ef_2_0 (m : MethodId) (x0 : Addr) (x1 : Int32) (x2 : Addr) (x3 : Int64) : entryFrame m #[(.ref x0), (.int x1), (.ref x2), (.long x3), .null] 6 = mkF m 0 #[.val (.ref x0), .val (.int x1), .val (.ref x2), .val (.long x3), .second, .val .null] [] := by first | (simp [entryFrame, mkF, argsToLocals, Value.category]; done) | rfl
theorem pn_0 : plainName "com/example/hodos/hodos/analysis/Zone" = true := by first | (simp [plainName, overriddenIn]; done) | decide +kernel
set_option maxRecDepth 65536 in
set_option maxHeartbeats 40000000 in
theorem r_zinit (l : Launch) (Z : State) (a0 : Array Value) (hw : ∀ d ∈ tables_1, d.before a0 Z = true) (ws : List Jvm.Cond) (s_T s_Z s_1 m_Z : Addr) (k_Z : ClassId) (h0 : Heap) (n0 : Nat) (O0 : Old Z n0 h0) (G : own_Ctx Z Z.heap s_T s_Z s_1 m_Z k_Z) (a1 : Addr) (p2 : Int32) (a3 : Addr) (q4 : Int64) (Ea : Exa Z h0 a1 "com/example/hodos/hodos/analysis/Zone") (ga : n0 ≤ a1) (F_size : Fld Z h0 a1 "com/example/hodos/hodos/analysis/Zone" "size" "I" (.int (0 : Int32))) (F_numerators : Fld Z h0 a1 "com/example/hodos/hodos/analysis/Zone" "numerators" "[J" .null) (F_denominator : Fld Z h0 a1 "com/example/hodos/hodos/analysis/Zone" "denominator" "J" (.long (0 : Int64))) (F_exact : Fld Z h0 a1 "com/example/hodos/hodos/analysis/Zone" "exact" "[Lcom/example/hodos/hodos/model/Time;" .null) :
    MetFree l (⟨"com/example/hodos/hodos/analysis/Zone", "<init>", "(I[JJ[Lcom/example/hodos/hodos/model/Time;)V"⟩ : MethodName) (head1 (Jvm.Cond.code (⟨"com/example/hodos/hodos/analysis/Zone", "<init>", "(I[JJ[Lcom/example/hodos/hodos/model/Time;)V"⟩ : MethodName) prog_20_method_1_code 6 none :: ws) ({ frames := 1, cells := 0, slots := 0, locals := 12 } : Room)) (fun a U => a = #[(.ref a1), (.int p2), (.ref a3), (.long q4), .null] ∧ Z.Warmed39 U.vm ∧ U.heap = h0) (fun _ _ _ _ _ => True) (fun _ U o U' => ∃ v L, o = .returned v ∧ own_QzI Z a1 p2 a3 q4 h0 n0 v U'.heap L ∧ FrameEnd U o U' L ({ frames := 1, cells := 0, slots := 0, locals := 12 } : Room).cells ({ frames := 1, cells := 0, slots := 0, locals := 12 } : Room).slots) := by
  have G0 := G
  obtain ⟨S_T, E_T, N_T, D_T, S_Z, E_Z, G_Z, M_Z, V_Z, S_1, E_1, G_1⟩ := G
  refine MetFree.of_bodySF (plainFor_of_name pn_0) hisR ?_
  intro p e s m args below meth c s₁ Bd hml0 hP hK
  obtain ⟨rfl, hZ, hh⟩ := hP
  have hx := Bd.exec
  have hby := Bd.bytes
  have hml : c.maxLocals = 6 := hml0
  have hown : s.vm.findClass "com/example/hodos/hodos/analysis/Zone" = some m.cls := findClass_of_methodNamed Bd.named
  have hnm := (name_of_methodNamed Bd.named Bd.method).1
  have X0 : Stand p l e ({ frames := 1, cells := 0, slots := 0, locals := 12 } : Room) s m #[(.ref a1), (.int p2), (.ref a3), (.long q4), .null] below meth c s₁ [] 0 0 := Stand.of_body Bd
  have e0 : s₁.heap = h0 := by rw [← hh, Bd.state]; rfl
  have N0 := Fr.nil n0
  have pre0 : ∀ t, Steps p.tables e below (s₁.setTop (mkF m 0 #[.val (.ref a1), .val (.int p2), .val (.ref a3), .val (.long q4), .second, .val .null] [])) t → Steps p.tables e below (s₁.setTop (entryFrame m #[(.ref a1), (.int p2), (.ref a3), (.long q4), .null] 6)) t := fun t k => castTop (ef_2_0 m a1 p2 a3 q4) k
  obtain ⟨T1, X1, e1, st1⟩ := initO X0 hx hZ hown (hw _ (List.mem_of_getElem? (i := 10) rfl)) (hw _ (List.mem_of_getElem? (i := 11) rfl)) (hw _ (List.mem_of_getElem? (i := 12) rfl)) e0 (g := (mkF m 1 #[.val (.ref a1), .val (.int p2), .val (.ref a3), .val (.long q4), .second, .val .null] [(.ref a1)])) rfl (by rw [hml]; rfl) rfl (hb hby d2_1) (by decide) (W := 0) (by show 2 * 0 + _ ≤ _; exact Nat.le_of_eq rfl) (by decide)
  obtain ⟨T2, h2, X2, e2, W2, st2⟩ := putF X1 hx hZ hown (host := "") (Or.inl (hw _ (List.mem_of_getElem? (i := 13) rfl))) Via.refl e1 F_size Ea (Or.inr ⟨(hw _ (List.mem_of_getElem? (i := 14) rfl)), rfl, hnm⟩) (hw _ (List.mem_of_getElem? (i := 5) rfl)) (ty := .int) (by decide) rfl rfl (g := (mkF m 6 #[.val (.ref a1), .val (.int p2), .val (.ref a3), .val (.long q4), .second, .val .null] [(.int p2), (.ref a1)])) rfl rfl (hb hby d2_6)
  have f3 := Ea.wr W2
  have f4 := F_numerators.other W2 (Or.inr (slot_ne (Or.inr (hw _ (List.mem_of_getElem? (i := 16) rfl))) (Or.inr (hw _ (List.mem_of_getElem? (i := 14) rfl))) (by decide) (t := (.array .long)) (t' := .int) (by decide) (by decide)))
  have f5 := F_denominator.other W2 (Or.inr (slot_ne (Or.inr (hw _ (List.mem_of_getElem? (i := 18) rfl))) (Or.inr (hw _ (List.mem_of_getElem? (i := 14) rfl))) (by decide) (t := .long) (t' := .int) (by decide) (by decide)))
  have f6 := F_exact.other W2 (Or.inr (slot_ne (Or.inr (hw _ (List.mem_of_getElem? (i := 20) rfl))) (Or.inr (hw _ (List.mem_of_getElem? (i := 14) rfl))) (by decide) (t := (.array (.object "com/example/hodos/hodos/model/Time"))) (t' := .int) (by decide) (by decide)))
  have O2 := O0.wr W2 ga
  have K2 : Keep h0 h2 [a1] := (Keep.refl h0 [a1]).wr W2 (Or.inl (List.mem_of_getElem? (i := 0) rfl))
  have N2 := Fr.snoc X2 N0 ga
  have f7 := F_size.same W2
  obtain ⟨T8, h8, X8, e8, W8, st8⟩ := putF X2 hx hZ hown (host := "") (Or.inl (hw _ (List.mem_of_getElem? (i := 15) rfl))) Via.refl e2 f4 f3 (Or.inr ⟨(hw _ (List.mem_of_getElem? (i := 16) rfl)), rfl, hnm⟩) (hw _ (List.mem_of_getElem? (i := 5) rfl)) (ty := (.array .long)) (by decide) rfl rfl (g := (mkF m 11 #[.val (.ref a1), .val (.int p2), .val (.ref a3), .val (.long q4), .second, .val .null] [(.ref a3), (.ref a1)])) rfl rfl (hb hby d2_11)
  have f9 := f3.wr W8
  have f10 := f7.other W8 (Or.inr (slot_ne (Or.inr (hw _ (List.mem_of_getElem? (i := 14) rfl))) (Or.inr (hw _ (List.mem_of_getElem? (i := 16) rfl))) (by decide) (t := .int) (t' := (.array .long)) (by decide) (by decide)))
  have f11 := f5.other W8 (Or.inr (slot_ne (Or.inr (hw _ (List.mem_of_getElem? (i := 18) rfl))) (Or.inr (hw _ (List.mem_of_getElem? (i := 16) rfl))) (by decide) (t := .long) (t' := (.array .long)) (by decide) (by decide)))
  have f12 := f6.other W8 (Or.inr (slot_ne (Or.inr (hw _ (List.mem_of_getElem? (i := 20) rfl))) (Or.inr (hw _ (List.mem_of_getElem? (i := 16) rfl))) (by decide) (t := (.array (.object "com/example/hodos/hodos/model/Time"))) (t' := (.array .long)) (by decide) (by decide)))
  have O8 := O2.wr W8 ga
  have K8 : Keep h0 h8 [a1] := K2.wr W8 (Or.inl (List.mem_of_getElem? (i := 0) rfl))
  have N8 := Fr.snoc X8 N2 ga
  have f13 := f4.same W8
  obtain ⟨T14, h14, X14, e14, W14, st14⟩ := putF X8 hx hZ hown (host := "") (Or.inl (hw _ (List.mem_of_getElem? (i := 17) rfl))) Via.refl e8 f11 f9 (Or.inr ⟨(hw _ (List.mem_of_getElem? (i := 18) rfl)), rfl, hnm⟩) (hw _ (List.mem_of_getElem? (i := 5) rfl)) (ty := .long) (by decide) rfl rfl (g := (mkF m 16 #[.val (.ref a1), .val (.int p2), .val (.ref a3), .val (.long q4), .second, .val .null] [(.long q4), (.ref a1)])) rfl rfl (hb hby d2_16)
  have f15 := f9.wr W14
  have f16 := f10.other W14 (Or.inr (slot_ne (Or.inr (hw _ (List.mem_of_getElem? (i := 14) rfl))) (Or.inr (hw _ (List.mem_of_getElem? (i := 18) rfl))) (by decide) (t := .int) (t' := .long) (by decide) (by decide)))
  have f17 := f13.other W14 (Or.inr (slot_ne (Or.inr (hw _ (List.mem_of_getElem? (i := 16) rfl))) (Or.inr (hw _ (List.mem_of_getElem? (i := 18) rfl))) (by decide) (t := (.array .long)) (t' := .long) (by decide) (by decide)))
  have f18 := f12.other W14 (Or.inr (slot_ne (Or.inr (hw _ (List.mem_of_getElem? (i := 20) rfl))) (Or.inr (hw _ (List.mem_of_getElem? (i := 18) rfl))) (by decide) (t := (.array (.object "com/example/hodos/hodos/model/Time"))) (t' := .long) (by decide) (by decide)))
  have O14 := O8.wr W14 ga
  have K14 : Keep h0 h14 [a1] := K8.wr W14 (Or.inl (List.mem_of_getElem? (i := 0) rfl))
  have N14 := Fr.snoc X14 N8 ga
  have f19 := f11.same W14
  obtain ⟨T20, h20, X20, e20, W20, st20⟩ := putF X14 hx hZ hown (host := "") (Or.inl (hw _ (List.mem_of_getElem? (i := 19) rfl))) Via.refl e14 f18 f15 (Or.inr ⟨(hw _ (List.mem_of_getElem? (i := 20) rfl)), rfl, hnm⟩) (hw _ (List.mem_of_getElem? (i := 5) rfl)) (ty := (.array (.object "com/example/hodos/hodos/model/Time"))) (by decide) rfl rfl (g := (mkF m 22 #[.val (.ref a1), .val (.int p2), .val (.ref a3), .val (.long q4), .second, .val .null] [.null, (.ref a1)])) rfl rfl (hb hby d2_22)
  have f21 := f15.wr W20
  have f22 := f16.other W20 (Or.inr (slot_ne (Or.inr (hw _ (List.mem_of_getElem? (i := 14) rfl))) (Or.inr (hw _ (List.mem_of_getElem? (i := 20) rfl))) (by decide) (t := .int) (t' := (.array (.object "com/example/hodos/hodos/model/Time"))) (by decide) (by decide)))
  have f23 := f17.other W20 (Or.inr (slot_ne (Or.inr (hw _ (List.mem_of_getElem? (i := 16) rfl))) (Or.inr (hw _ (List.mem_of_getElem? (i := 20) rfl))) (by decide) (t := (.array .long)) (t' := (.array (.object "com/example/hodos/hodos/model/Time"))) (by decide) (by decide)))
  have f24 := f19.other W20 (Or.inr (slot_ne (Or.inr (hw _ (List.mem_of_getElem? (i := 18) rfl))) (Or.inr (hw _ (List.mem_of_getElem? (i := 20) rfl))) (by decide) (t := .long) (t' := (.array (.object "com/example/hodos/hodos/model/Time"))) (by decide) (by decide)))
  have O20 := O14.wr W20 ga
  have K20 : Keep h0 h20 [a1] := K14.wr W20 (Or.inl (List.mem_of_getElem? (i := 0) rfl))
  have N20 := Fr.snoc X20 N14 ga
  have f25 := f18.same W20
  obtain ⟨fs, hr, hrun, hended, hW, hsame⟩ := X20.leave (v := none) (fun _ => rfl)
  refine ⟨_, _, pre0 _ ?_, hrun, hended, _, _, rfl, ?_, ⟨_, rfl⟩, hW, hsame.mono (by decide) (by decide)⟩
  · show Steps p.tables e below (s₁.setTop (mkF m 0 #[.val (.ref a1), .val (.int p2), .val (.ref a3), .val (.long q4), .second, .val .null] [])) _
    refine XS.aloadN X0.here hx rfl (hb hby d2_0) rfl rfl ?_
    show Steps p.tables e below (s₁.setTop (mkF m 1 #[.val (.ref a1), .val (.int p2), .val (.ref a3), .val (.long q4), .second, .val .null] [(.ref a1)])) _
    refine st1 _ ?_
    show Steps p.tables e below (T1.setTop (mkF m 4 #[.val (.ref a1), .val (.int p2), .val (.ref a3), .val (.long q4), .second, .val .null] [])) _
    refine XS.aloadN X1.here hx rfl (hb hby d2_4) rfl rfl ?_
    show Steps p.tables e below (T1.setTop (mkF m 5 #[.val (.ref a1), .val (.int p2), .val (.ref a3), .val (.long q4), .second, .val .null] [(.ref a1)])) _
    refine XS.iloadN X1.here hx rfl (hb hby d2_5) rfl ?_
    show Steps p.tables e below (T1.setTop (mkF m 6 #[.val (.ref a1), .val (.int p2), .val (.ref a3), .val (.long q4), .second, .val .null] [(.int p2), (.ref a1)])) _
    refine st2 _ ?_
    show Steps p.tables e below (T2.setTop (mkF m 9 #[.val (.ref a1), .val (.int p2), .val (.ref a3), .val (.long q4), .second, .val .null] [])) _
    refine XS.aloadN X2.here hx rfl (hb hby d2_9) rfl rfl ?_
    show Steps p.tables e below (T2.setTop (mkF m 10 #[.val (.ref a1), .val (.int p2), .val (.ref a3), .val (.long q4), .second, .val .null] [(.ref a1)])) _
    refine XS.aloadN X2.here hx rfl (hb hby d2_10) rfl rfl ?_
    show Steps p.tables e below (T2.setTop (mkF m 11 #[.val (.ref a1), .val (.int p2), .val (.ref a3), .val (.long q4), .second, .val .null] [(.ref a3), (.ref a1)])) _
    refine st8 _ ?_
    show Steps p.tables e below (T8.setTop (mkF m 14 #[.val (.ref a1), .val (.int p2), .val (.ref a3), .val (.long q4), .second, .val .null] [])) _
    refine XS.aloadN X8.here hx rfl (hb hby d2_14) rfl rfl ?_
    show Steps p.tables e below (T8.setTop (mkF m 15 #[.val (.ref a1), .val (.int p2), .val (.ref a3), .val (.long q4), .second, .val .null] [(.ref a1)])) _
    refine XS.lloadN X8.here hx rfl (hb hby d2_15) rfl ?_
    show Steps p.tables e below (T8.setTop (mkF m 16 #[.val (.ref a1), .val (.int p2), .val (.ref a3), .val (.long q4), .second, .val .null] [(.long q4), (.ref a1)])) _
    refine st14 _ ?_
    show Steps p.tables e below (T14.setTop (mkF m 19 #[.val (.ref a1), .val (.int p2), .val (.ref a3), .val (.long q4), .second, .val .null] [])) _
    refine XS.aloadN X14.here hx rfl (hb hby d2_19) rfl rfl ?_
    show Steps p.tables e below (T14.setTop (mkF m 20 #[.val (.ref a1), .val (.int p2), .val (.ref a3), .val (.long q4), .second, .val .null] [(.ref a1)])) _
    refine XS.aload X14.here hx rfl (hb hby d2_20) rfl rfl ?_
    show Steps p.tables e below (T14.setTop (mkF m 22 #[.val (.ref a1), .val (.int p2), .val (.ref a3), .val (.long q4), .second, .val .null] [.null, (.ref a1)])) _
    refine st20 _ ?_
    show Steps p.tables e below (T20.setTop (mkF m 25 #[.val (.ref a1), .val (.int p2), .val (.ref a3), .val (.long q4), .second, .val .null] [])) _
    exact X20.returnOut hx Bd.returns (hb hby d2_25) hr
  · show own_QzI Z a1 p2 a3 q4 h0 n0 _ T20.heap _
    rw [e20]
    exact ⟨rfl, N20, K20, f22, f23, f24, f25⟩
def own_Qor (Z : State) (n : Int32) (h0 : Heap) (n0 : Nat) (v : Option Value) (h : Heap) (L : List Loc) : Prop := ∃ (z ar : Addr) (kk : ClassId), v = some (.ref z) ∧ Fr n0 L ∧ Keep h0 h [] ∧ (Exa Z h z "com/example/hodos/hodos/analysis/Zone") ∧ (Fld Z h z "com/example/hodos/hodos/analysis/Zone" "size" "I" (.int (n + (1 : Int32)))) ∧ (Fld Z h z "com/example/hodos/hodos/analysis/Zone" "numerators" "[J" (.ref ar)) ∧ (Fld Z h z "com/example/hodos/hodos/analysis/Zone" "denominator" "J" (.long (1 : Int64))) ∧ (Fld Z h z "com/example/hodos/hodos/analysis/Zone" "exact" "[Lcom/example/hodos/hodos/model/Time;" .null) ∧ (Arv Z h ar kk .long ((n + (1 : Int32)) * (n + (1 : Int32))) [] (.long (0 : Int64)))
theorem d1_0 : decode prog_20_method_4_code 0 = .ok (.iload_n 0, 1) := by decide +kernel
theorem d1_1 : decode prog_20_method_4_code 1 = .ok (.ifCond .ge 17, 3) := by decide +kernel
theorem d1_18 : decode prog_20_method_4_code 18 = .ok (.new 10, 3) := by decide +kernel
theorem d1_21 : decode prog_20_method_4_code 21 = .ok (.dup, 1) := by decide +kernel
theorem d1_22 : decode prog_20_method_4_code 22 = .ok (.iload_n 0, 1) := by decide +kernel
theorem d1_23 : decode prog_20_method_4_code 23 = .ok (.iconst 1, 1) := by decide +kernel
theorem d1_24 : decode prog_20_method_4_code 24 = .ok (.iadd, 1) := by decide +kernel
theorem d1_25 : decode prog_20_method_4_code 25 = .ok (.iload_n 0, 1) := by decide +kernel
theorem d1_26 : decode prog_20_method_4_code 26 = .ok (.iconst 1, 1) := by decide +kernel
theorem d1_27 : decode prog_20_method_4_code 27 = .ok (.iadd, 1) := by decide +kernel
theorem d1_28 : decode prog_20_method_4_code 28 = .ok (.iload_n 0, 1) := by decide +kernel
theorem d1_29 : decode prog_20_method_4_code 29 = .ok (.iconst 1, 1) := by decide +kernel
theorem d1_30 : decode prog_20_method_4_code 30 = .ok (.iadd, 1) := by decide +kernel
theorem d1_31 : decode prog_20_method_4_code 31 = .ok (.imul, 1) := by decide +kernel
theorem d1_32 : decode prog_20_method_4_code 32 = .ok (.newarray .long, 2) := by decide +kernel
theorem d1_34 : decode prog_20_method_4_code 34 = .ok (.lconst 1, 1) := by decide +kernel
theorem d1_35 : decode prog_20_method_4_code 35 = .ok (.aconst_null, 1) := by decide +kernel
theorem d1_36 : decode prog_20_method_4_code 36 = .ok (.invokespecial 39, 3) := by decide +kernel
theorem pd_0 : parseMethodDescriptor "(I[JJ[Lcom/example/hodos/hodos/model/Time;)V" = some ⟨[.int, (.array .long), .long, (.array (.object "com/example/hodos/hodos/model/Time"))], none⟩ := by decide +kernel
theorem d1_39 : decode prog_20_method_4_code 39 = .ok (.areturn, 1) := by decide +kernel
theorem ef_1_1 (m : MethodId) (x0 : Int32) : entryFrame m #[(.int x0)] 1 = mkF m 0 #[.val (.int x0)] [] := by first | (simp [entryFrame, mkF, argsToLocals, Value.category]; done) | rfl
set_option maxRecDepth 65536 in
set_option maxHeartbeats 40000000 in
theorem r_origin (l : Launch) (Z : State) (a0 : Array Value) (hw : ∀ d ∈ tables_1, d.before a0 Z = true) (ws : List Jvm.Cond) (s_T s_Z s_1 m_Z : Addr) (k_Z : ClassId) (h0 : Heap) (n0 : Nat) (O0 : Old Z n0 h0) (G : own_Ctx Z Z.heap s_T s_Z s_1 m_Z k_Z) (n : Int32) (hn0 : ¬ (n < (0 : Int32))) (hm0 : ¬ ((n + (1 : Int32)) * (n + (1 : Int32)) < 0)) (hm1 : ((n + (1 : Int32)) * (n + (1 : Int32))).toNatClampNeg ≤ 4096) :
    MetFree l (⟨"com/example/hodos/hodos/analysis/Zone", "origin", "(I)Lcom/example/hodos/hodos/analysis/Zone;"⟩ : MethodName) (head1 (Jvm.Cond.code (⟨"com/example/hodos/hodos/analysis/Zone", "origin", "(I)Lcom/example/hodos/hodos/analysis/Zone;"⟩ : MethodName) prog_20_method_4_code 1 (some (.object "com/example/hodos/hodos/analysis/Zone")) :: ws) ({ frames := 2, cells := 2, slots := 4100, locals := 30 } : Room)) (fun a U => a = #[(.int n)] ∧ Z.Warmed39 U.vm ∧ U.heap = h0) (fun _ _ _ _ _ => True) (fun _ U o U' => ∃ v L, o = .returned v ∧ own_Qor Z n h0 n0 v U'.heap L ∧ FrameEnd U o U' L ({ frames := 2, cells := 2, slots := 4100, locals := 30 } : Room).cells ({ frames := 2, cells := 2, slots := 4100, locals := 30 } : Room).slots) := by
  have G0 := G
  obtain ⟨S_T, E_T, N_T, D_T, S_Z, E_Z, G_Z, M_Z, V_Z, S_1, E_1, G_1⟩ := G
  refine MetFree.of_bodySF (plainFor_of_name pn_0) hisR ?_
  intro p e s m args below meth c s₁ Bd hml0 hP hK
  obtain ⟨rfl, hZ, hh⟩ := hP
  have hx := Bd.exec
  have hby := Bd.bytes
  have hml : c.maxLocals = 1 := hml0
  have hown : s.vm.findClass "com/example/hodos/hodos/analysis/Zone" = some m.cls := findClass_of_methodNamed Bd.named
  have hnm := (name_of_methodNamed Bd.named Bd.method).1
  have X0 : Stand p l e ({ frames := 2, cells := 2, slots := 4100, locals := 30 } : Room) s m #[(.int n)] below meth c s₁ [] 0 0 := Stand.of_body Bd
  have e0 : s₁.heap = h0 := by rw [← hh, Bd.state]; rfl
  have N0 := Fr.nil n0
  have pre0 : ∀ t, Steps p.tables e below (s₁.setTop (mkF m 0 #[.val (.int n)] [])) t → Steps p.tables e below (s₁.setTop (entryFrame m #[(.int n)] 1)) t := fun t k => castTop (ef_1_1 m n) k
  obtain ⟨T1, h1, X1, e1, E1, A1, D1, -, st1⟩ := newO X0 hx hZ hown (hw _ (List.mem_of_getElem? (i := 4) rfl)) (hw _ (List.mem_of_getElem? (i := 5) rfl)) (hw _ (List.mem_of_getElem? (i := 2) rfl)) e0 (g := (mkF m 18 #[.val (.int n)] [])) rfl (hb hby d1_18) (by decide) (by decide)
  obtain ⟨b1, g1⟩ : ∃ z, z = h0.size := ⟨_, rfl⟩
  have ne_s_T_b1 : s_T ≠ b1 := Nat.ne_of_lt (Nat.lt_of_lt_of_le (E_T.ext O0.2).lt (Nat.le_of_eq g1.symm))
  have ne_s_Z_b1 : s_Z ≠ b1 := Nat.ne_of_lt (Nat.lt_of_lt_of_le (E_Z.ext O0.2).lt (Nat.le_of_eq g1.symm))
  have ne_s_1_b1 : s_1 ≠ b1 := Nat.ne_of_lt (Nat.lt_of_lt_of_le (E_1.ext O0.2).lt (Nat.le_of_eq g1.symm))
  have g_b1 : n0 ≤ b1 := Nat.le_trans (O0.1 ▸ O0.2.1) (Nat.le_of_eq g1.symm)
  have sz_b1 : h0.size ≤ b1 := Nat.le_trans (Keep.refl h0 []).1 (Nat.le_of_eq g1.symm)
  rw [← g1] at A1 D1 st1
  have O1 := O0.ext E1
  have K1 : Keep h0 h1 [] := (Keep.refl h0 []).ext E1
  have F1_14 : Fld Z h1 b1 "com/example/hodos/hodos/analysis/Zone" "size" "I" (.int (0 : Int32)) := D1 (Or.inr (hw _ (List.mem_of_getElem? (i := 14) rfl))) (ty := .int) (by decide)
  have F1_16 : Fld Z h1 b1 "com/example/hodos/hodos/analysis/Zone" "numerators" "[J" .null := D1 (Or.inr (hw _ (List.mem_of_getElem? (i := 16) rfl))) (ty := (.array .long)) (by decide)
  have F1_18 : Fld Z h1 b1 "com/example/hodos/hodos/analysis/Zone" "denominator" "J" (.long (0 : Int64)) := D1 (Or.inr (hw _ (List.mem_of_getElem? (i := 18) rfl))) (ty := .long) (by decide)
  have F1_20 : Fld Z h1 b1 "com/example/hodos/hodos/analysis/Zone" "exact" "[Lcom/example/hodos/hodos/model/Time;" .null := D1 (Or.inr (hw _ (List.mem_of_getElem? (i := 20) rfl))) (ty := (.array (.object "com/example/hodos/hodos/model/Time"))) (by decide)
  obtain ⟨T2, h2, k2, X2, e2, E2, A2, st2⟩ := newP X1 hx hZ (hw _ (List.mem_of_getElem? (i := 6) rfl)) e1 (g := (mkF m 32 #[.val (.int n)] [(.int ((n + (1 : Int32)) * (n + (1 : Int32)))), (.int (n + (1 : Int32))), (.ref b1), (.ref b1)])) rfl (hb hby d1_32) rfl hm0 (cap := 4096) hm1 (by decide) (by decide) (by decide)
  obtain ⟨b2, g2⟩ : ∃ z, z = h1.size := ⟨_, rfl⟩
  have ne_b1_b2 : b1 ≠ b2 := Nat.ne_of_lt (Nat.lt_of_lt_of_le A1.lt (Nat.le_of_eq g2.symm))
  have ne_s_T_b2 : s_T ≠ b2 := Nat.ne_of_lt (Nat.lt_of_lt_of_le (E_T.ext O1.2).lt (Nat.le_of_eq g2.symm))
  have ne_s_Z_b2 : s_Z ≠ b2 := Nat.ne_of_lt (Nat.lt_of_lt_of_le (E_Z.ext O1.2).lt (Nat.le_of_eq g2.symm))
  have ne_s_1_b2 : s_1 ≠ b2 := Nat.ne_of_lt (Nat.lt_of_lt_of_le (E_1.ext O1.2).lt (Nat.le_of_eq g2.symm))
  have g_b2 : n0 ≤ b2 := Nat.le_trans (O1.1 ▸ O1.2.1) (Nat.le_of_eq g2.symm)
  have sz_b2 : h0.size ≤ b2 := Nat.le_trans K1.1 (Nat.le_of_eq g2.symm)
  rw [← g2] at A2 st2
  have f3 := A1.ext E2
  have f4 := F1_14.ext E2
  have f5 := F1_16.ext E2
  have f6 := F1_18.ext E2
  have f7 := F1_20.ext E2
  have O2 := O1.ext E2
  have K2 : Keep h0 h2 [] := K1.ext E2
  have V2 : Arv Z h2 b2 k2 .long ((n + (1 : Int32)) * (n + (1 : Int32))) [] (.long (0 : Int64)) := Arv.new A2 hm0
  obtain ⟨_, _, ⟨T8, L8, k8, n8⟩, -, X8, ⟨Lc8, hQ8, l8, y8, z8⟩, st8⟩ := X2.specialBack hx (y := (⟨"com/example/hodos/hodos/analysis/Zone", "<init>", "(I[JJ[Lcom/example/hodos/hodos/model/Time;)V"⟩ : MethodName)) rfl hown (mvT hZ (hw _ (List.mem_of_getElem? (i := 7) rfl))) (mvT hZ (hw _ (List.mem_of_getElem? (i := 8) rfl))) (mvT hZ (hw _ (List.mem_of_getElem? (i := 9) rfl))) (by decide) (backOf (W := 1) (r_zinit l Z a0 hw [] s_T s_Z s_1 m_Z k_Z h2 n0 O2 G0 b1 (n + (1 : Int32)) b2 (1 : Int64) f3 g_b1 f4 f5 f6 f7) hZ (hw _ (List.mem_of_getElem? (i := 9) rfl)) (hw _ (List.mem_of_getElem? (i := 2) rfl)) (by decide) (by decide)) (g := (mkF m 36 #[.val (.int n)] [.null, (.long (1 : Int64)), (.ref b2), (.int (n + (1 : Int32))), (.ref b1), (.ref b1)])) rfl (by rw [hml]; rfl) (Steps.refl _) (a := b1) (argsL := [(.int (n + (1 : Int32))), (.ref b2), (.long (1 : Int64)), .null]) (rest := [(.ref b1)]) (lenOf pd_0 rfl) rfl (by show 2 * 0 + _ ≤ _; exact Nat.le_of_eq rfl) (hb hby d1_36) (fun _ _ => ⟨rfl, e2, (by decide : 2 + 0 ≤ _), (by decide : 4100 + 0 ≤ _)⟩)
  dsimp only [Pt.U, Pt.locs, Pt.cells, Pt.slots] at X8 l8 y8 z8 st8 hQ8
  subst l8 y8 z8
  obtain ⟨rfl, N8q, Kq8, Fa8, Fb8, Fc8, Fd8⟩ := hQ8
  have N8 := Fr.app N0 N8q
  have f9 := f3.keep Kq8
  have f10 := V2.keep Kq8 (fun q => (List.mem_cons.mp q).elim (Ne.symm ne_b1_b2) (fun q => nomatch q))
  have O8 := O2.keep Kq8 (allS g_b1 all0)
  have K8 : Keep h0 T8.heap [] := K2.trans Kq8 (allS (Or.inr sz_b1) all0)
  obtain ⟨fs, hr, hrun, hended, hW, hsame⟩ := X8.leave (v := some (.ref b1)) (fun h => by rw [Bd.returns] at h; cases h)
  refine ⟨_, _, pre0 _ ?_, hrun, hended, _, _, rfl, ?_, ⟨_, rfl⟩, hW, hsame.mono (by decide) (by decide)⟩
  · show Steps p.tables e below (s₁.setTop (mkF m 0 #[.val (.int n)] [])) _
    refine XS.iloadN X0.here hx rfl (hb hby d1_0) rfl ?_
    show Steps p.tables e below (s₁.setTop (mkF m 1 #[.val (.int n)] [(.int n)])) _
    refine XS.ifYes X0.here hx rfl (pc0 := 1) (pc' := 18) rfl (hb hby d1_1) rfl ((if0 _ _).trans (flt (hn0 : ¬ (n < (0 : Int32)))).2.1) (by decide) (by decide) ?_
    show Steps p.tables e below (s₁.setTop (mkF m 18 #[.val (.int n)] [])) _
    refine st1 _ ?_
    show Steps p.tables e below (T1.setTop (mkF m 21 #[.val (.int n)] [(.ref b1)])) _
    refine XS.dup X1.here hx rfl (hb hby d1_21) rfl rfl ?_
    show Steps p.tables e below (T1.setTop (mkF m 22 #[.val (.int n)] [(.ref b1), (.ref b1)])) _
    refine XS.iloadN X1.here hx rfl (hb hby d1_22) rfl ?_
    show Steps p.tables e below (T1.setTop (mkF m 23 #[.val (.int n)] [(.int n), (.ref b1), (.ref b1)])) _
    refine XS.iconst X1.here hx rfl (hb hby d1_23) ?_
    show Steps p.tables e below (T1.setTop (mkF m 24 #[.val (.int n)] [(.int (1 : Int32)), (.int n), (.ref b1), (.ref b1)])) _
    refine XS.iadd X1.here hx rfl (hb hby d1_24) rfl ?_
    show Steps p.tables e below (T1.setTop (mkF m 25 #[.val (.int n)] [(.int (n + (1 : Int32))), (.ref b1), (.ref b1)])) _
    refine XS.iloadN X1.here hx rfl (hb hby d1_25) rfl ?_
    show Steps p.tables e below (T1.setTop (mkF m 26 #[.val (.int n)] [(.int n), (.int (n + (1 : Int32))), (.ref b1), (.ref b1)])) _
    refine XS.iconst X1.here hx rfl (hb hby d1_26) ?_
    show Steps p.tables e below (T1.setTop (mkF m 27 #[.val (.int n)] [(.int (1 : Int32)), (.int n), (.int (n + (1 : Int32))), (.ref b1), (.ref b1)])) _
    refine XS.iadd X1.here hx rfl (hb hby d1_27) rfl ?_
    show Steps p.tables e below (T1.setTop (mkF m 28 #[.val (.int n)] [(.int (n + (1 : Int32))), (.int (n + (1 : Int32))), (.ref b1), (.ref b1)])) _
    refine XS.iloadN X1.here hx rfl (hb hby d1_28) rfl ?_
    show Steps p.tables e below (T1.setTop (mkF m 29 #[.val (.int n)] [(.int n), (.int (n + (1 : Int32))), (.int (n + (1 : Int32))), (.ref b1), (.ref b1)])) _
    refine XS.iconst X1.here hx rfl (hb hby d1_29) ?_
    show Steps p.tables e below (T1.setTop (mkF m 30 #[.val (.int n)] [(.int (1 : Int32)), (.int n), (.int (n + (1 : Int32))), (.int (n + (1 : Int32))), (.ref b1), (.ref b1)])) _
    refine XS.iadd X1.here hx rfl (hb hby d1_30) rfl ?_
    show Steps p.tables e below (T1.setTop (mkF m 31 #[.val (.int n)] [(.int (n + (1 : Int32))), (.int (n + (1 : Int32))), (.int (n + (1 : Int32))), (.ref b1), (.ref b1)])) _
    refine XS.imul X1.here hx rfl (hb hby d1_31) rfl ?_
    show Steps p.tables e below (T1.setTop (mkF m 32 #[.val (.int n)] [(.int ((n + (1 : Int32)) * (n + (1 : Int32)))), (.int (n + (1 : Int32))), (.ref b1), (.ref b1)])) _
    refine st2 _ ?_
    show Steps p.tables e below (T2.setTop (mkF m 34 #[.val (.int n)] [(.ref b2), (.int (n + (1 : Int32))), (.ref b1), (.ref b1)])) _
    refine XS.lconst X2.here hx rfl (hb hby d1_34) ?_
    show Steps p.tables e below (T2.setTop (mkF m 35 #[.val (.int n)] [(.long (1 : Int64)), (.ref b2), (.int (n + (1 : Int32))), (.ref b1), (.ref b1)])) _
    refine XS.aconstNull X2.here hx rfl (hb hby d1_35) ?_
    show Steps p.tables e below (T2.setTop (mkF m 36 #[.val (.int n)] [.null, (.long (1 : Int64)), (.ref b2), (.int (n + (1 : Int32))), (.ref b1), (.ref b1)])) _
    refine st8.trans ?_
    show Steps p.tables e below (T8.setTop (mkF m 39 #[.val (.int n)] [(.ref b1)])) _
    exact retOut X8 hx Bd.returns rfl (Or.inr (Or.inr (Or.inr (Or.inr ⟨rfl, rfl, rfl⟩)))) (hb hby d1_39) hr
  · show own_Qor Z n h0 n0 _ T8.heap _
    exact ⟨b1, b2, k2, rfl, N8, K8, f9, Fa8, Fb8, Fc8, Fd8, f10⟩
theorem d4_0 : decode prog_20_method_5_code 0 = .ok (.aload_n 0, 1) := by decide +kernel
theorem d4_1 : decode prog_20_method_5_code 1 = .ok (.getfield 9, 3) := by decide +kernel
theorem d4_4 : decode prog_20_method_5_code 4 = .ok (.iconst 1, 1) := by decide +kernel
theorem d4_5 : decode prog_20_method_5_code 5 = .ok (.isub, 1) := by decide +kernel
theorem d4_6 : decode prog_20_method_5_code 6 = .ok (.ireturn, 1) := by decide +kernel
theorem ef_4_2 (m : MethodId) (x0 : Addr) : entryFrame m #[(.ref x0)] 1 = mkF m 0 #[.val (.ref x0)] [] := by first | (simp [entryFrame, mkF, argsToLocals, Value.category]; done) | rfl
set_option maxRecDepth 65536 in
set_option maxHeartbeats 40000000 in
theorem r_comp (l : Launch) (Z : State) (a0 : Array Value) (hw : ∀ d ∈ tables_1, d.before a0 Z = true) (ws : List Jvm.Cond) (s_T s_Z s_1 m_Z : Addr) (k_Z : ClassId) (h0 : Heap) (n0 : Nat) (O0 : Old Z n0 h0) (G : own_Ctx Z Z.heap s_T s_Z s_1 m_Z k_Z) (z ar : Addr) (kk : ClassId) (n : Int32) (Ez : Exa Z h0 z "com/example/hodos/hodos/analysis/Zone") (Fa : Fld Z h0 z "com/example/hodos/hodos/analysis/Zone" "size" "I" (.int (n + (1 : Int32)))) (Fb : Fld Z h0 z "com/example/hodos/hodos/analysis/Zone" "numerators" "[J" (.ref ar)) (Fc : Fld Z h0 z "com/example/hodos/hodos/analysis/Zone" "denominator" "J" (.long (1 : Int64))) (Fd : Fld Z h0 z "com/example/hodos/hodos/analysis/Zone" "exact" "[Lcom/example/hodos/hodos/model/Time;" .null) (Va : Arv Z h0 ar kk .long ((n + (1 : Int32)) * (n + (1 : Int32))) [] (.long (0 : Int64))) :
    MetFree l (⟨"com/example/hodos/hodos/analysis/Zone", "components", "()I"⟩ : MethodName) (head1 (Jvm.Cond.code (⟨"com/example/hodos/hodos/analysis/Zone", "components", "()I"⟩ : MethodName) prog_20_method_5_code 1 (some .int) :: ws) ({ frames := 0, cells := 0, slots := 0, locals := 0 } : Room)) (fun a U => a = #[(.ref z)] ∧ Z.Warmed39 U.vm ∧ U.heap = h0) (fun _ _ _ _ _ => True) (fun _ U o U' => ∃ v L, o = .returned v ∧ own_Q (some (.int ((n + (1 : Int32)) - (1 : Int32)))) h0 n0 v U'.heap L ∧ FrameEnd U o U' L ({ frames := 0, cells := 0, slots := 0, locals := 0 } : Room).cells ({ frames := 0, cells := 0, slots := 0, locals := 0 } : Room).slots) := by
  have G0 := G
  obtain ⟨S_T, E_T, N_T, D_T, S_Z, E_Z, G_Z, M_Z, V_Z, S_1, E_1, G_1⟩ := G
  refine MetFree.of_bodySF (plainFor_of_name pn_0) hisR ?_
  intro p e s m args below meth c s₁ Bd hml0 hP hK
  obtain ⟨rfl, hZ, hh⟩ := hP
  have hx := Bd.exec
  have hby := Bd.bytes
  have hml : c.maxLocals = 1 := hml0
  have hown : s.vm.findClass "com/example/hodos/hodos/analysis/Zone" = some m.cls := findClass_of_methodNamed Bd.named
  have hnm := (name_of_methodNamed Bd.named Bd.method).1
  have X0 : Stand p l e ({ frames := 0, cells := 0, slots := 0, locals := 0 } : Room) s m #[(.ref z)] below meth c s₁ [] 0 0 := Stand.of_body Bd
  have e0 : s₁.heap = h0 := by rw [← hh, Bd.state]; rfl
  have N0 := Fr.nil n0
  have pre0 : ∀ t, Steps p.tables e below (s₁.setTop (mkF m 0 #[.val (.ref z)] [])) t → Steps p.tables e below (s₁.setTop (entryFrame m #[(.ref z)] 1)) t := fun t k => castTop (ef_4_2 m z) k
  obtain ⟨T1, X1, e1, st1⟩ := getF X0 hx hZ hown (host := "") (Or.inl (hw _ (List.mem_of_getElem? (i := 13) rfl))) Via.refl e0 Fa (g := (mkF m 1 #[.val (.ref z)] [(.ref z)])) rfl rfl (hb hby d4_1)
  obtain ⟨fs, hr, hrun, hended, hW, hsame⟩ := X1.leave (v := some (.int ((n + (1 : Int32)) - (1 : Int32)))) (fun h => by rw [Bd.returns] at h; cases h)
  refine ⟨_, _, pre0 _ ?_, hrun, hended, _, _, rfl, ?_, ⟨_, rfl⟩, hW, hsame.mono (by decide) (by decide)⟩
  · show Steps p.tables e below (s₁.setTop (mkF m 0 #[.val (.ref z)] [])) _
    refine XS.aloadN X0.here hx rfl (hb hby d4_0) rfl rfl ?_
    show Steps p.tables e below (s₁.setTop (mkF m 1 #[.val (.ref z)] [(.ref z)])) _
    refine st1 _ ?_
    show Steps p.tables e below (T1.setTop (mkF m 4 #[.val (.ref z)] [(.int (n + (1 : Int32)))])) _
    refine XS.iconst X1.here hx rfl (hb hby d4_4) ?_
    show Steps p.tables e below (T1.setTop (mkF m 5 #[.val (.ref z)] [(.int (1 : Int32)), (.int (n + (1 : Int32)))])) _
    refine XS.isub X1.here hx rfl (hb hby d4_5) rfl ?_
    show Steps p.tables e below (T1.setTop (mkF m 6 #[.val (.ref z)] [(.int ((n + (1 : Int32)) - (1 : Int32)))])) _
    exact retI X1 hx Bd.returns (hb hby d4_6) hr
  · show own_Q (some (.int ((n + (1 : Int32)) - (1 : Int32)))) h0 n0 _ T1.heap _
    rw [e1]
    exact ⟨rfl, N0, rfl⟩
theorem d8_0 : decode jdk_41_method_11_code 0 = .ok (.iload_n 0, 1) := by decide +kernel
theorem d8_1 : decode jdk_41_method_11_code 1 = .ok (.ifCond .lt 8, 3) := by decide +kernel
theorem d8_4 : decode jdk_41_method_11_code 4 = .ok (.iload_n 0, 1) := by decide +kernel
theorem d8_5 : decode jdk_41_method_11_code 5 = .ok (.iload_n 1, 1) := by decide +kernel
theorem d8_6 : decode jdk_41_method_11_code 6 = .ok (.if_icmp .lt 10, 3) := by decide +kernel
theorem d8_16 : decode jdk_41_method_11_code 16 = .ok (.iload_n 0, 1) := by decide +kernel
theorem d8_17 : decode jdk_41_method_11_code 17 = .ok (.ireturn, 1) := by decide +kernel
theorem ef_8_3 (m : MethodId) (x0 : Int32) (x1 : Int32) : entryFrame m #[(.int x0), (.int x1), .null] 3 = mkF m 0 #[.val (.int x0), .val (.int x1), .val .null] [] := by first | (simp [entryFrame, mkF, argsToLocals, Value.category]; done) | rfl
theorem pn_1 : plainName "jdk/internal/util/Preconditions" = true := by first | (simp [plainName, overriddenIn]; done) | decide +kernel
set_option maxRecDepth 65536 in
set_option maxHeartbeats 40000000 in
theorem r_chk (l : Launch) (Z : State) (a0 : Array Value) (hw : ∀ d ∈ tables_1, d.before a0 Z = true) (ws : List Jvm.Cond) (s_T s_Z s_1 m_Z : Addr) (k_Z : ClassId) (h0 : Heap) (n0 : Nat) (O0 : Old Z n0 h0) (G : own_Ctx Z Z.heap s_T s_Z s_1 m_Z k_Z) (i j : Int32) (h1 : ¬ (i < (0 : Int32))) (h2 : i < j) :
    MetFree l (⟨"jdk/internal/util/Preconditions", "checkIndex", "(IILjava/util/function/BiFunction;)I"⟩ : MethodName) (head1 (Jvm.Cond.code (⟨"jdk/internal/util/Preconditions", "checkIndex", "(IILjava/util/function/BiFunction;)I"⟩ : MethodName) jdk_41_method_11_code 3 (some .int) :: ws) ({ frames := 0, cells := 0, slots := 0, locals := 0 } : Room)) (fun a U => a = #[(.int i), (.int j), .null] ∧ Z.Warmed39 U.vm ∧ U.heap = h0) (fun _ _ _ _ _ => True) (fun _ U o U' => ∃ v L, o = .returned v ∧ own_Q (some (.int i)) h0 n0 v U'.heap L ∧ FrameEnd U o U' L ({ frames := 0, cells := 0, slots := 0, locals := 0 } : Room).cells ({ frames := 0, cells := 0, slots := 0, locals := 0 } : Room).slots) := by
  have G0 := G
  obtain ⟨S_T, E_T, N_T, D_T, S_Z, E_Z, G_Z, M_Z, V_Z, S_1, E_1, G_1⟩ := G
  refine MetFree.of_bodySF (plainFor_of_name pn_1) hisR ?_
  intro p e s m args below meth c s₁ Bd hml0 hP hK
  obtain ⟨rfl, hZ, hh⟩ := hP
  have hx := Bd.exec
  have hby := Bd.bytes
  have hml : c.maxLocals = 3 := hml0
  have hown : s.vm.findClass "jdk/internal/util/Preconditions" = some m.cls := findClass_of_methodNamed Bd.named
  have hnm := (name_of_methodNamed Bd.named Bd.method).1
  have X0 : Stand p l e ({ frames := 0, cells := 0, slots := 0, locals := 0 } : Room) s m #[(.int i), (.int j), .null] below meth c s₁ [] 0 0 := Stand.of_body Bd
  have e0 : s₁.heap = h0 := by rw [← hh, Bd.state]; rfl
  have N0 := Fr.nil n0
  have pre0 : ∀ t, Steps p.tables e below (s₁.setTop (mkF m 0 #[.val (.int i), .val (.int j), .val .null] [])) t → Steps p.tables e below (s₁.setTop (entryFrame m #[(.int i), (.int j), .null] 3)) t := fun t k => castTop (ef_8_3 m i j) k
  obtain ⟨fs, hr, hrun, hended, hW, hsame⟩ := X0.leave (v := some (.int i)) (fun h => by rw [Bd.returns] at h; cases h)
  refine ⟨_, _, pre0 _ ?_, hrun, hended, _, _, rfl, ?_, ⟨_, rfl⟩, hW, hsame.mono (by decide) (by decide)⟩
  · show Steps p.tables e below (s₁.setTop (mkF m 0 #[.val (.int i), .val (.int j), .val .null] [])) _
    refine XS.iloadN X0.here hx rfl (hb hby d8_0) rfl ?_
    show Steps p.tables e below (s₁.setTop (mkF m 1 #[.val (.int i), .val (.int j), .val .null] [(.int i)])) _
    refine XS.ifNo X0.here hx rfl (hb hby d8_1) rfl ((if0 _ _).trans (flt (h1 : ¬ (i < (0 : Int32)))).1) ?_
    show Steps p.tables e below (s₁.setTop (mkF m 4 #[.val (.int i), .val (.int j), .val .null] [])) _
    refine XS.iloadN X0.here hx rfl (hb hby d8_4) rfl ?_
    show Steps p.tables e below (s₁.setTop (mkF m 5 #[.val (.int i), .val (.int j), .val .null] [(.int i)])) _
    refine XS.iloadN X0.here hx rfl (hb hby d8_5) rfl ?_
    show Steps p.tables e below (s₁.setTop (mkF m 6 #[.val (.int i), .val (.int j), .val .null] [(.int j), (.int i)])) _
    refine XS.icmpYes X0.here hx rfl (pc0 := 6) (pc' := 16) rfl (hb hby d8_6) rfl (tlt (h2 : i < j)).1 (by decide) (by decide) ?_
    show Steps p.tables e below (s₁.setTop (mkF m 16 #[.val (.int i), .val (.int j), .val .null] [])) _
    refine XS.iloadN X0.here hx rfl (hb hby d8_16) rfl ?_
    show Steps p.tables e below (s₁.setTop (mkF m 17 #[.val (.int i), .val (.int j), .val .null] [(.int i)])) _
    exact retI X0 hx Bd.returns (hb hby d8_17) hr
  · show own_Q (some (.int i)) h0 n0 _ s₁.heap _
    rw [e0]
    exact ⟨rfl, N0, rfl⟩
theorem d7_0 : decode jdk_31_method_17_code 0 = .ok (.iload_n 0, 1) := by decide +kernel
theorem d7_1 : decode jdk_31_method_17_code 1 = .ok (.iload_n 1, 1) := by decide +kernel
theorem d7_2 : decode jdk_31_method_17_code 2 = .ok (.aconst_null, 1) := by decide +kernel
theorem d7_3 : decode jdk_31_method_17_code 3 = .ok (.invokestatic 105, 3) := by decide +kernel
theorem pd_1 : parseMethodDescriptor "(IILjava/util/function/BiFunction;)I" = some ⟨[.int, .int, (.object "java/util/function/BiFunction")], some .int⟩ := by decide +kernel
theorem d7_6 : decode jdk_31_method_17_code 6 = .ok (.ireturn, 1) := by decide +kernel
theorem ef_7_4 (m : MethodId) (x0 : Int32) (x1 : Int32) : entryFrame m #[(.int x0), (.int x1)] 2 = mkF m 0 #[.val (.int x0), .val (.int x1)] [] := by first | (simp [entryFrame, mkF, argsToLocals, Value.category]; done) | rfl
theorem pn_2 : plainName "java/util/Objects" = true := by first | (simp [plainName, overriddenIn]; done) | decide +kernel
set_option maxRecDepth 65536 in
set_option maxHeartbeats 40000000 in
theorem r_ochk (l : Launch) (Z : State) (a0 : Array Value) (hw : ∀ d ∈ tables_1, d.before a0 Z = true) (ws : List Jvm.Cond) (s_T s_Z s_1 m_Z : Addr) (k_Z : ClassId) (h0 : Heap) (n0 : Nat) (O0 : Old Z n0 h0) (G : own_Ctx Z Z.heap s_T s_Z s_1 m_Z k_Z) (i j : Int32) (h1 : ¬ (i < (0 : Int32))) (h2 : i < j) :
    MetFree l (⟨"java/util/Objects", "checkIndex", "(II)I"⟩ : MethodName) (head1 (Jvm.Cond.code (⟨"java/util/Objects", "checkIndex", "(II)I"⟩ : MethodName) jdk_31_method_17_code 2 (some .int) :: ws) ({ frames := 1, cells := 0, slots := 0, locals := 14 } : Room)) (fun a U => a = #[(.int i), (.int j)] ∧ Z.Warmed39 U.vm ∧ U.heap = h0) (fun _ _ _ _ _ => True) (fun _ U o U' => ∃ v L, o = .returned v ∧ own_Q (some (.int i)) h0 n0 v U'.heap L ∧ FrameEnd U o U' L ({ frames := 1, cells := 0, slots := 0, locals := 14 } : Room).cells ({ frames := 1, cells := 0, slots := 0, locals := 14 } : Room).slots) := by
  have G0 := G
  obtain ⟨S_T, E_T, N_T, D_T, S_Z, E_Z, G_Z, M_Z, V_Z, S_1, E_1, G_1⟩ := G
  refine MetFree.of_bodySF (plainFor_of_name pn_2) hisR ?_
  intro p e s m args below meth c s₁ Bd hml0 hP hK
  obtain ⟨rfl, hZ, hh⟩ := hP
  have hx := Bd.exec
  have hby := Bd.bytes
  have hml : c.maxLocals = 2 := hml0
  have hown : s.vm.findClass "java/util/Objects" = some m.cls := findClass_of_methodNamed Bd.named
  have hnm := (name_of_methodNamed Bd.named Bd.method).1
  have X0 : Stand p l e ({ frames := 1, cells := 0, slots := 0, locals := 14 } : Room) s m #[(.int i), (.int j)] below meth c s₁ [] 0 0 := Stand.of_body Bd
  have e0 : s₁.heap = h0 := by rw [← hh, Bd.state]; rfl
  have N0 := Fr.nil n0
  have pre0 : ∀ t, Steps p.tables e below (s₁.setTop (mkF m 0 #[.val (.int i), .val (.int j)] [])) t → Steps p.tables e below (s₁.setTop (entryFrame m #[(.int i), (.int j)] 2)) t := fun t k => castTop (ef_7_4 m i j) k
  obtain ⟨_, _, ⟨T1, L1, k1, n1⟩, -, X1, ⟨Lc1, hQ1, l1, y1, z1⟩, st1⟩ := Jvm.LawKit.callS X0 hx (y := (⟨"jdk/internal/util/Preconditions", "checkIndex", "(IILjava/util/function/BiFunction;)I"⟩ : MethodName)) hown (mvT hZ (hw _ (List.mem_of_getElem? (i := 43) rfl))) (mvT hZ (hw _ (List.mem_of_getElem? (i := 44) rfl))) (mvT hZ (hw _ (List.mem_of_getElem? (i := 45) rfl))) (mvT hZ (hw _ (List.mem_of_getElem? (i := 46) rfl))) (by decide) (backOf (W := 0) (r_chk l Z a0 hw [] s_T s_Z s_1 m_Z k_Z h0 n0 O0 G0 i j h1 h2) hZ (hw _ (List.mem_of_getElem? (i := 46) rfl)) (hw _ (List.mem_of_getElem? (i := 45) rfl)) (by decide) (by decide)) (g := (mkF m 3 #[.val (.int i), .val (.int j)] [.null, (.int j), (.int i)])) rfl (by rw [hml]; rfl) (argsL := [(.int i), (.int j), .null]) (rest := []) (lenOf pd_1 rfl) rfl (by show 2 * 0 + _ ≤ _; exact Nat.le_of_eq rfl) (hb hby d7_3) (fun _ _ => ⟨rfl, e0, (by decide : 0 + 0 ≤ _), (by decide : 0 + 0 ≤ _)⟩)
  dsimp only [Pt.U, Pt.locs, Pt.cells, Pt.slots] at X1 l1 y1 z1 st1 hQ1
  subst l1 y1 z1
  obtain ⟨rfl, N1q, e1⟩ := hQ1
  have N1 := Fr.app N0 N1q
  obtain ⟨fs, hr, hrun, hended, hW, hsame⟩ := X1.leave (v := some (.int i)) (fun h => by rw [Bd.returns] at h; cases h)
  refine ⟨_, _, pre0 _ ?_, hrun, hended, _, _, rfl, ?_, ⟨_, rfl⟩, hW, hsame.mono (by decide) (by decide)⟩
  · show Steps p.tables e below (s₁.setTop (mkF m 0 #[.val (.int i), .val (.int j)] [])) _
    refine XS.iloadN X0.here hx rfl (hb hby d7_0) rfl ?_
    show Steps p.tables e below (s₁.setTop (mkF m 1 #[.val (.int i), .val (.int j)] [(.int i)])) _
    refine XS.iloadN X0.here hx rfl (hb hby d7_1) rfl ?_
    show Steps p.tables e below (s₁.setTop (mkF m 2 #[.val (.int i), .val (.int j)] [(.int j), (.int i)])) _
    refine XS.aconstNull X0.here hx rfl (hb hby d7_2) ?_
    show Steps p.tables e below (s₁.setTop (mkF m 3 #[.val (.int i), .val (.int j)] [.null, (.int j), (.int i)])) _
    refine st1 _ ?_
    show Steps p.tables e below (T1.setTop (mkF m 6 #[.val (.int i), .val (.int j)] [(.int i)])) _
    exact retI X1 hx Bd.returns (hb hby d7_6) hr
  · show own_Q (some (.int i)) h0 n0 _ T1.heap _
    rw [e1]
    exact ⟨rfl, N1, rfl⟩
theorem d6_0 : decode prog_20_method_24_code 0 = .ok (.iload_n 1, 1) := by decide +kernel
theorem d6_1 : decode prog_20_method_24_code 1 = .ok (.aload_n 0, 1) := by decide +kernel
theorem d6_2 : decode prog_20_method_24_code 2 = .ok (.getfield 9, 3) := by decide +kernel
theorem d6_5 : decode prog_20_method_24_code 5 = .ok (.iconst 1, 1) := by decide +kernel
theorem d6_6 : decode prog_20_method_24_code 6 = .ok (.isub, 1) := by decide +kernel
theorem d6_7 : decode prog_20_method_24_code 7 = .ok (.invokestatic 199, 3) := by decide +kernel
theorem pd_2 : parseMethodDescriptor "(II)I" = some ⟨[.int, .int], some .int⟩ := by decide +kernel
theorem d6_10 : decode prog_20_method_24_code 10 = .ok (.iconst 1, 1) := by decide +kernel
theorem d6_11 : decode prog_20_method_24_code 11 = .ok (.iadd, 1) := by decide +kernel
theorem d6_12 : decode prog_20_method_24_code 12 = .ok (.ireturn, 1) := by decide +kernel
theorem ef_6_5 (m : MethodId) (x0 : Addr) (x1 : Int32) : entryFrame m #[(.ref x0), (.int x1)] 2 = mkF m 0 #[.val (.ref x0), .val (.int x1)] [] := by first | (simp [entryFrame, mkF, argsToLocals, Value.category]; done) | rfl
set_option maxRecDepth 65536 in
set_option maxHeartbeats 40000000 in
theorem r_row (l : Launch) (Z : State) (a0 : Array Value) (hw : ∀ d ∈ tables_1, d.before a0 Z = true) (ws : List Jvm.Cond) (s_T s_Z s_1 m_Z : Addr) (k_Z : ClassId) (h0 : Heap) (n0 : Nat) (O0 : Old Z n0 h0) (G : own_Ctx Z Z.heap s_T s_Z s_1 m_Z k_Z) (z ar : Addr) (kk : ClassId) (n : Int32) (i : Int32) (Ez : Exa Z h0 z "com/example/hodos/hodos/analysis/Zone") (Fa : Fld Z h0 z "com/example/hodos/hodos/analysis/Zone" "size" "I" (.int (n + (1 : Int32)))) (Fb : Fld Z h0 z "com/example/hodos/hodos/analysis/Zone" "numerators" "[J" (.ref ar)) (Fc : Fld Z h0 z "com/example/hodos/hodos/analysis/Zone" "denominator" "J" (.long (1 : Int64))) (Fd : Fld Z h0 z "com/example/hodos/hodos/analysis/Zone" "exact" "[Lcom/example/hodos/hodos/model/Time;" .null) (Va : Arv Z h0 ar kk .long ((n + (1 : Int32)) * (n + (1 : Int32))) [] (.long (0 : Int64))) (h1 : ¬ (i < (0 : Int32))) (h2 : i < ((n + (1 : Int32)) - (1 : Int32))) :
    MetFree l (⟨"com/example/hodos/hodos/analysis/Zone", "row", "(I)I"⟩ : MethodName) (head1 (Jvm.Cond.code (⟨"com/example/hodos/hodos/analysis/Zone", "row", "(I)I"⟩ : MethodName) prog_20_method_24_code 2 (some .int) :: ws) ({ frames := 2, cells := 0, slots := 0, locals := 27 } : Room)) (fun a U => a = #[(.ref z), (.int i)] ∧ Z.Warmed39 U.vm ∧ U.heap = h0) (fun _ _ _ _ _ => True) (fun _ U o U' => ∃ v L, o = .returned v ∧ own_Q (some (.int (i + (1 : Int32)))) h0 n0 v U'.heap L ∧ FrameEnd U o U' L ({ frames := 2, cells := 0, slots := 0, locals := 27 } : Room).cells ({ frames := 2, cells := 0, slots := 0, locals := 27 } : Room).slots) := by
  have G0 := G
  obtain ⟨S_T, E_T, N_T, D_T, S_Z, E_Z, G_Z, M_Z, V_Z, S_1, E_1, G_1⟩ := G
  refine MetFree.of_bodySF (plainFor_of_name pn_0) hisR ?_
  intro p e s m args below meth c s₁ Bd hml0 hP hK
  obtain ⟨rfl, hZ, hh⟩ := hP
  have hx := Bd.exec
  have hby := Bd.bytes
  have hml : c.maxLocals = 2 := hml0
  have hown : s.vm.findClass "com/example/hodos/hodos/analysis/Zone" = some m.cls := findClass_of_methodNamed Bd.named
  have hnm := (name_of_methodNamed Bd.named Bd.method).1
  have X0 : Stand p l e ({ frames := 2, cells := 0, slots := 0, locals := 27 } : Room) s m #[(.ref z), (.int i)] below meth c s₁ [] 0 0 := Stand.of_body Bd
  have e0 : s₁.heap = h0 := by rw [← hh, Bd.state]; rfl
  have N0 := Fr.nil n0
  have pre0 : ∀ t, Steps p.tables e below (s₁.setTop (mkF m 0 #[.val (.ref z), .val (.int i)] [])) t → Steps p.tables e below (s₁.setTop (entryFrame m #[(.ref z), (.int i)] 2)) t := fun t k => castTop (ef_6_5 m z i) k
  obtain ⟨T1, X1, e1, st1⟩ := getF X0 hx hZ hown (host := "") (Or.inl (hw _ (List.mem_of_getElem? (i := 13) rfl))) Via.refl e0 Fa (g := (mkF m 2 #[.val (.ref z), .val (.int i)] [(.ref z), (.int i)])) rfl rfl (hb hby d6_2)
  obtain ⟨_, _, ⟨T2, L2, k2, n2⟩, -, X2, ⟨Lc2, hQ2, l2, y2, z2⟩, st2⟩ := Jvm.LawKit.callS X1 hx (y := (⟨"java/util/Objects", "checkIndex", "(II)I"⟩ : MethodName)) hown (mvT hZ (hw _ (List.mem_of_getElem? (i := 39) rfl))) (mvT hZ (hw _ (List.mem_of_getElem? (i := 40) rfl))) (mvT hZ (hw _ (List.mem_of_getElem? (i := 41) rfl))) (mvT hZ (hw _ (List.mem_of_getElem? (i := 42) rfl))) (by decide) (backOf (W := 0) (r_ochk l Z a0 hw [] s_T s_Z s_1 m_Z k_Z h0 n0 O0 G0 i ((n + (1 : Int32)) - (1 : Int32)) h1 h2) hZ (hw _ (List.mem_of_getElem? (i := 42) rfl)) (hw _ (List.mem_of_getElem? (i := 41) rfl)) (by decide) (by decide)) (g := (mkF m 7 #[.val (.ref z), .val (.int i)] [(.int ((n + (1 : Int32)) - (1 : Int32))), (.int i)])) rfl (by rw [hml]; rfl) (argsL := [(.int i), (.int ((n + (1 : Int32)) - (1 : Int32)))]) (rest := []) (lenOf pd_2 rfl) rfl (by show 2 * 0 + _ ≤ _; exact Nat.le_of_eq rfl) (hb hby d6_7) (fun _ _ => ⟨rfl, e1, (by decide : 0 + 0 ≤ _), (by decide : 0 + 0 ≤ _)⟩)
  dsimp only [Pt.U, Pt.locs, Pt.cells, Pt.slots] at X2 l2 y2 z2 st2 hQ2
  subst l2 y2 z2
  obtain ⟨rfl, N2q, e2⟩ := hQ2
  have N2 := Fr.app N0 N2q
  obtain ⟨fs, hr, hrun, hended, hW, hsame⟩ := X2.leave (v := some (.int (i + (1 : Int32)))) (fun h => by rw [Bd.returns] at h; cases h)
  refine ⟨_, _, pre0 _ ?_, hrun, hended, _, _, rfl, ?_, ⟨_, rfl⟩, hW, hsame.mono (by decide) (by decide)⟩
  · show Steps p.tables e below (s₁.setTop (mkF m 0 #[.val (.ref z), .val (.int i)] [])) _
    refine XS.iloadN X0.here hx rfl (hb hby d6_0) rfl ?_
    show Steps p.tables e below (s₁.setTop (mkF m 1 #[.val (.ref z), .val (.int i)] [(.int i)])) _
    refine XS.aloadN X0.here hx rfl (hb hby d6_1) rfl rfl ?_
    show Steps p.tables e below (s₁.setTop (mkF m 2 #[.val (.ref z), .val (.int i)] [(.ref z), (.int i)])) _
    refine st1 _ ?_
    show Steps p.tables e below (T1.setTop (mkF m 5 #[.val (.ref z), .val (.int i)] [(.int (n + (1 : Int32))), (.int i)])) _
    refine XS.iconst X1.here hx rfl (hb hby d6_5) ?_
    show Steps p.tables e below (T1.setTop (mkF m 6 #[.val (.ref z), .val (.int i)] [(.int (1 : Int32)), (.int (n + (1 : Int32))), (.int i)])) _
    refine XS.isub X1.here hx rfl (hb hby d6_6) rfl ?_
    show Steps p.tables e below (T1.setTop (mkF m 7 #[.val (.ref z), .val (.int i)] [(.int ((n + (1 : Int32)) - (1 : Int32))), (.int i)])) _
    refine st2 _ ?_
    show Steps p.tables e below (T2.setTop (mkF m 10 #[.val (.ref z), .val (.int i)] [(.int i)])) _
    refine XS.iconst X2.here hx rfl (hb hby d6_10) ?_
    show Steps p.tables e below (T2.setTop (mkF m 11 #[.val (.ref z), .val (.int i)] [(.int (1 : Int32)), (.int i)])) _
    refine XS.iadd X2.here hx rfl (hb hby d6_11) rfl ?_
    show Steps p.tables e below (T2.setTop (mkF m 12 #[.val (.ref z), .val (.int i)] [(.int (i + (1 : Int32)))])) _
    exact retI X2 hx Bd.returns (hb hby d6_12) hr
  · show own_Q (some (.int (i + (1 : Int32)))) h0 n0 _ T2.heap _
    rw [e2]
    exact ⟨rfl, N2, rfl⟩
def own_QtI (Z : State) (a1 a2 a3 : Addr) (h0 : Heap) (n0 : Nat) (v : Option Value) (h : Heap) (L : List Loc) : Prop := v = none ∧ Fr n0 L ∧ Keep h0 h [a1] ∧ (Fld Z h a1 "com/example/hodos/hodos/model/Time" "numerator" "Ljava/math/BigInteger;" (.ref a2)) ∧ (Fld Z h a1 "com/example/hodos/hodos/model/Time" "denominator" "Ljava/math/BigInteger;" (.ref a3))
theorem d13_0 : decode prog_69_method_1_code 0 = .ok (.aload_n 0, 1) := by decide +kernel
theorem d13_1 : decode prog_69_method_1_code 1 = .ok (.invokespecial 1, 3) := by decide +kernel
theorem d13_4 : decode prog_69_method_1_code 4 = .ok (.aload_n 0, 1) := by decide +kernel
theorem d13_5 : decode prog_69_method_1_code 5 = .ok (.aload_n 1, 1) := by decide +kernel
theorem d13_6 : decode prog_69_method_1_code 6 = .ok (.putfield 7, 3) := by decide +kernel
theorem d13_9 : decode prog_69_method_1_code 9 = .ok (.aload_n 0, 1) := by decide +kernel
theorem d13_10 : decode prog_69_method_1_code 10 = .ok (.aload_n 2, 1) := by decide +kernel
theorem d13_11 : decode prog_69_method_1_code 11 = .ok (.putfield 13, 3) := by decide +kernel
theorem d13_14 : decode prog_69_method_1_code 14 = .ok (.return_, 1) := by decide +kernel
theorem ef_13_6 (m : MethodId) (x0 : Addr) (x1 : Addr) (x2 : Addr) : entryFrame m #[(.ref x0), (.ref x1), (.ref x2)] 3 = mkF m 0 #[.val (.ref x0), .val (.ref x1), .val (.ref x2)] [] := by first | (simp [entryFrame, mkF, argsToLocals, Value.category]; done) | rfl
theorem pn_3 : plainName "com/example/hodos/hodos/model/Time" = true := by first | (simp [plainName, overriddenIn]; done) | decide +kernel
set_option maxRecDepth 65536 in
set_option maxHeartbeats 40000000 in
theorem r_tinit (l : Launch) (Z : State) (a0 : Array Value) (hw : ∀ d ∈ tables_1, d.before a0 Z = true) (ws : List Jvm.Cond) (s_T s_Z s_1 m_Z : Addr) (k_Z : ClassId) (h0 : Heap) (n0 : Nat) (O0 : Old Z n0 h0) (G : own_Ctx Z Z.heap s_T s_Z s_1 m_Z k_Z) (a1 a2 a3 : Addr) (Ea : Exa Z h0 a1 "com/example/hodos/hodos/model/Time") (ga : n0 ≤ a1) (Fn : Fld Z h0 a1 "com/example/hodos/hodos/model/Time" "numerator" "Ljava/math/BigInteger;" .null) (Fd : Fld Z h0 a1 "com/example/hodos/hodos/model/Time" "denominator" "Ljava/math/BigInteger;" .null) :
    MetFree l (⟨"com/example/hodos/hodos/model/Time", "<init>", "(Ljava/math/BigInteger;Ljava/math/BigInteger;)V"⟩ : MethodName) (head1 (Jvm.Cond.code (⟨"com/example/hodos/hodos/model/Time", "<init>", "(Ljava/math/BigInteger;Ljava/math/BigInteger;)V"⟩ : MethodName) prog_69_method_1_code 3 none :: ws) ({ frames := 1, cells := 0, slots := 0, locals := 12 } : Room)) (fun a U => a = #[(.ref a1), (.ref a2), (.ref a3)] ∧ Z.Warmed39 U.vm ∧ U.heap = h0) (fun _ _ _ _ _ => True) (fun _ U o U' => ∃ v L, o = .returned v ∧ own_QtI Z a1 a2 a3 h0 n0 v U'.heap L ∧ FrameEnd U o U' L ({ frames := 1, cells := 0, slots := 0, locals := 12 } : Room).cells ({ frames := 1, cells := 0, slots := 0, locals := 12 } : Room).slots) := by
  have G0 := G
  obtain ⟨S_T, E_T, N_T, D_T, S_Z, E_Z, G_Z, M_Z, V_Z, S_1, E_1, G_1⟩ := G
  refine MetFree.of_bodySF (plainFor_of_name pn_3) hisR ?_
  intro p e s m args below meth c s₁ Bd hml0 hP hK
  obtain ⟨rfl, hZ, hh⟩ := hP
  have hx := Bd.exec
  have hby := Bd.bytes
  have hml : c.maxLocals = 3 := hml0
  have hown : s.vm.findClass "com/example/hodos/hodos/model/Time" = some m.cls := findClass_of_methodNamed Bd.named
  have hnm := (name_of_methodNamed Bd.named Bd.method).1
  have X0 : Stand p l e ({ frames := 1, cells := 0, slots := 0, locals := 12 } : Room) s m #[(.ref a1), (.ref a2), (.ref a3)] below meth c s₁ [] 0 0 := Stand.of_body Bd
  have e0 : s₁.heap = h0 := by rw [← hh, Bd.state]; rfl
  have N0 := Fr.nil n0
  have pre0 : ∀ t, Steps p.tables e below (s₁.setTop (mkF m 0 #[.val (.ref a1), .val (.ref a2), .val (.ref a3)] [])) t → Steps p.tables e below (s₁.setTop (entryFrame m #[(.ref a1), (.ref a2), (.ref a3)] 3)) t := fun t k => castTop (ef_13_6 m a1 a2 a3) k
  obtain ⟨T1, X1, e1, st1⟩ := initO X0 hx hZ hown (hw _ (List.mem_of_getElem? (i := 70) rfl)) (hw _ (List.mem_of_getElem? (i := 11) rfl)) (hw _ (List.mem_of_getElem? (i := 12) rfl)) e0 (g := (mkF m 1 #[.val (.ref a1), .val (.ref a2), .val (.ref a3)] [(.ref a1)])) rfl (by rw [hml]; rfl) rfl (hb hby d13_1) (by decide) (W := 0) (by show 2 * 0 + _ ≤ _; exact Nat.le_of_eq rfl) (by decide)
  obtain ⟨T2, h2, X2, e2, W2, st2⟩ := putF X1 hx hZ hown (host := "") (Or.inl (hw _ (List.mem_of_getElem? (i := 71) rfl))) Via.refl e1 Fn Ea (Or.inr ⟨(hw _ (List.mem_of_getElem? (i := 72) rfl)), rfl, hnm⟩) (hw _ (List.mem_of_getElem? (i := 60) rfl)) (ty := (.object "java/math/BigInteger")) (by decide) rfl rfl (g := (mkF m 6 #[.val (.ref a1), .val (.ref a2), .val (.ref a3)] [(.ref a2), (.ref a1)])) rfl rfl (hb hby d13_6)
  have f3 := Ea.wr W2
  have f4 := Fd.other W2 (Or.inr (slot_ne (Or.inr (hw _ (List.mem_of_getElem? (i := 74) rfl))) (Or.inr (hw _ (List.mem_of_getElem? (i := 72) rfl))) (by decide) (t := (.object "java/math/BigInteger")) (t' := (.object "java/math/BigInteger")) (by decide) (by decide)))
  have O2 := O0.wr W2 ga
  have K2 : Keep h0 h2 [a1] := (Keep.refl h0 [a1]).wr W2 (Or.inl (List.mem_of_getElem? (i := 0) rfl))
  have N2 := Fr.snoc X2 N0 ga
  have f5 := Fn.same W2
  obtain ⟨T6, h6, X6, e6, W6, st6⟩ := putF X2 hx hZ hown (host := "") (Or.inl (hw _ (List.mem_of_getElem? (i := 73) rfl))) Via.refl e2 f4 f3 (Or.inr ⟨(hw _ (List.mem_of_getElem? (i := 74) rfl)), rfl, hnm⟩) (hw _ (List.mem_of_getElem? (i := 60) rfl)) (ty := (.object "java/math/BigInteger")) (by decide) rfl rfl (g := (mkF m 11 #[.val (.ref a1), .val (.ref a2), .val (.ref a3)] [(.ref a3), (.ref a1)])) rfl rfl (hb hby d13_11)
  have f7 := f3.wr W6
  have f8 := f5.other W6 (Or.inr (slot_ne (Or.inr (hw _ (List.mem_of_getElem? (i := 72) rfl))) (Or.inr (hw _ (List.mem_of_getElem? (i := 74) rfl))) (by decide) (t := (.object "java/math/BigInteger")) (t' := (.object "java/math/BigInteger")) (by decide) (by decide)))
  have O6 := O2.wr W6 ga
  have K6 : Keep h0 h6 [a1] := K2.wr W6 (Or.inl (List.mem_of_getElem? (i := 0) rfl))
  have N6 := Fr.snoc X6 N2 ga
  have f9 := f4.same W6
  obtain ⟨fs, hr, hrun, hended, hW, hsame⟩ := X6.leave (v := none) (fun _ => rfl)
  refine ⟨_, _, pre0 _ ?_, hrun, hended, _, _, rfl, ?_, ⟨_, rfl⟩, hW, hsame.mono (by decide) (by decide)⟩
  · show Steps p.tables e below (s₁.setTop (mkF m 0 #[.val (.ref a1), .val (.ref a2), .val (.ref a3)] [])) _
    refine XS.aloadN X0.here hx rfl (hb hby d13_0) rfl rfl ?_
    show Steps p.tables e below (s₁.setTop (mkF m 1 #[.val (.ref a1), .val (.ref a2), .val (.ref a3)] [(.ref a1)])) _
    refine st1 _ ?_
    show Steps p.tables e below (T1.setTop (mkF m 4 #[.val (.ref a1), .val (.ref a2), .val (.ref a3)] [])) _
    refine XS.aloadN X1.here hx rfl (hb hby d13_4) rfl rfl ?_
    show Steps p.tables e below (T1.setTop (mkF m 5 #[.val (.ref a1), .val (.ref a2), .val (.ref a3)] [(.ref a1)])) _
    refine XS.aloadN X1.here hx rfl (hb hby d13_5) rfl rfl ?_
    show Steps p.tables e below (T1.setTop (mkF m 6 #[.val (.ref a1), .val (.ref a2), .val (.ref a3)] [(.ref a2), (.ref a1)])) _
    refine st2 _ ?_
    show Steps p.tables e below (T2.setTop (mkF m 9 #[.val (.ref a1), .val (.ref a2), .val (.ref a3)] [])) _
    refine XS.aloadN X2.here hx rfl (hb hby d13_9) rfl rfl ?_
    show Steps p.tables e below (T2.setTop (mkF m 10 #[.val (.ref a1), .val (.ref a2), .val (.ref a3)] [(.ref a1)])) _
    refine XS.aloadN X2.here hx rfl (hb hby d13_10) rfl rfl ?_
    show Steps p.tables e below (T2.setTop (mkF m 11 #[.val (.ref a1), .val (.ref a2), .val (.ref a3)] [(.ref a3), (.ref a1)])) _
    refine st6 _ ?_
    show Steps p.tables e below (T6.setTop (mkF m 14 #[.val (.ref a1), .val (.ref a2), .val (.ref a3)] [])) _
    exact X6.returnOut hx Bd.returns (hb hby d13_14) hr
  · show own_QtI Z a1 a2 a3 h0 n0 _ T6.heap _
    rw [e6]
    exact ⟨rfl, N6, K6, f8, f9⟩
theorem d12_0 : decode jdk_2097_method_29_code 0 = .ok (.lload_n 0, 1) := by decide +kernel
theorem d12_1 : decode jdk_2097_method_29_code 1 = .ok (.lconst 0, 1) := by decide +kernel
theorem d12_2 : decode jdk_2097_method_29_code 2 = .ok (.lcmp, 1) := by decide +kernel
theorem d12_3 : decode jdk_2097_method_29_code 3 = .ok (.ifCond .ne 7, 3) := by decide +kernel
theorem d12_6 : decode jdk_2097_method_29_code 6 = .ok (.getstatic 22, 3) := by decide +kernel
theorem d12_9 : decode jdk_2097_method_29_code 9 = .ok (.areturn, 1) := by decide +kernel
theorem ef_12_7 (m : MethodId) (x0 : Int64) : entryFrame m #[(.long x0)] 2 = mkF m 0 #[.val (.long x0), .second] [] := by first | (simp [entryFrame, mkF, argsToLocals, Value.category]; done) | rfl
theorem pn_4 : plainName "java/math/BigInteger" = true := by first | (simp [plainName, overriddenIn]; done) | decide +kernel
set_option maxRecDepth 65536 in
set_option maxHeartbeats 40000000 in
theorem r_val (l : Launch) (Z : State) (a0 : Array Value) (hw : ∀ d ∈ tables_1, d.before a0 Z = true) (ws : List Jvm.Cond) (s_T s_Z s_1 m_Z : Addr) (k_Z : ClassId) (h0 : Heap) (n0 : Nat) (O0 : Old Z n0 h0) (G : own_Ctx Z Z.heap s_T s_Z s_1 m_Z k_Z)   :
    MetFree l (⟨"java/math/BigInteger", "valueOf", "(J)Ljava/math/BigInteger;"⟩ : MethodName) (head1 (Jvm.Cond.code (⟨"java/math/BigInteger", "valueOf", "(J)Ljava/math/BigInteger;"⟩ : MethodName) jdk_2097_method_29_code 2 (some (.object "java/math/BigInteger")) :: ws) ({ frames := 0, cells := 0, slots := 0, locals := 0 } : Room)) (fun a U => a = #[(.long (0 : Int64))] ∧ Z.Warmed39 U.vm ∧ U.heap = h0) (fun _ _ _ _ _ => True) (fun _ U o U' => ∃ v L, o = .returned v ∧ own_Q (some (.ref s_Z)) h0 n0 v U'.heap L ∧ FrameEnd U o U' L ({ frames := 0, cells := 0, slots := 0, locals := 0 } : Room).cells ({ frames := 0, cells := 0, slots := 0, locals := 0 } : Room).slots) := by
  have G0 := G
  obtain ⟨S_T, E_T, N_T, D_T, S_Z, E_Z, G_Z, M_Z, V_Z, S_1, E_1, G_1⟩ := G
  refine MetFree.of_bodySF (plainFor_of_name pn_4) hisR ?_
  intro p e s m args below meth c s₁ Bd hml0 hP hK
  obtain ⟨rfl, hZ, hh⟩ := hP
  have hx := Bd.exec
  have hby := Bd.bytes
  have hml : c.maxLocals = 2 := hml0
  have hown : s.vm.findClass "java/math/BigInteger" = some m.cls := findClass_of_methodNamed Bd.named
  have hnm := (name_of_methodNamed Bd.named Bd.method).1
  have X0 : Stand p l e ({ frames := 0, cells := 0, slots := 0, locals := 0 } : Room) s m #[(.long (0 : Int64))] below meth c s₁ [] 0 0 := Stand.of_body Bd
  have e0 : s₁.heap = h0 := by rw [← hh, Bd.state]; rfl
  have N0 := Fr.nil n0
  have pre0 : ∀ t, Steps p.tables e below (s₁.setTop (mkF m 0 #[.val (.long (0 : Int64)), .second] [])) t → Steps p.tables e below (s₁.setTop (entryFrame m #[(.long (0 : Int64))] 2)) t := fun t k => castTop (ef_12_7 m (0 : Int64)) k
  obtain ⟨T1, X1, e1, st1⟩ := getS2 X0 hx hZ hown (host := "") (Or.inl (hw _ (List.mem_of_getElem? (i := 65) rfl))) Via.refl e0 (S_Z.ext O0.2) (g := (mkF m 6 #[.val (.long (0 : Int64)), .second] [])) rfl (hb hby d12_6)
  obtain ⟨fs, hr, hrun, hended, hW, hsame⟩ := X1.leave (v := some (.ref s_Z)) (fun h => by rw [Bd.returns] at h; cases h)
  refine ⟨_, _, pre0 _ ?_, hrun, hended, _, _, rfl, ?_, ⟨_, rfl⟩, hW, hsame.mono (by decide) (by decide)⟩
  · show Steps p.tables e below (s₁.setTop (mkF m 0 #[.val (.long (0 : Int64)), .second] [])) _
    refine XS.lloadN X0.here hx rfl (hb hby d12_0) rfl ?_
    show Steps p.tables e below (s₁.setTop (mkF m 1 #[.val (.long (0 : Int64)), .second] [(.long (0 : Int64))])) _
    refine XS.lconst X0.here hx rfl (hb hby d12_1) ?_
    show Steps p.tables e below (s₁.setTop (mkF m 2 #[.val (.long (0 : Int64)), .second] [(.long (0 : Int64)), (.long (0 : Int64))])) _
    refine XS.lcmp X0.here hx rfl (hb hby d12_2) rfl ?_
    show Steps p.tables e below (s₁.setTop (mkF m 3 #[.val (.long (0 : Int64)), .second] [(.int (lcmpW (0 : Int64) (0 : Int64)))])) _
    refine XS.ifNo X0.here hx rfl (hb hby d12_3) rfl ((if0 _ _).trans (teq (by decide : (lcmpW (0 : Int64) (0 : Int64)) = (0 : Int32))).2) ?_
    show Steps p.tables e below (s₁.setTop (mkF m 6 #[.val (.long (0 : Int64)), .second] [])) _
    refine st1 _ ?_
    show Steps p.tables e below (T1.setTop (mkF m 9 #[.val (.long (0 : Int64)), .second] [(.ref s_Z)])) _
    exact retOut X1 hx Bd.returns rfl (Or.inr (Or.inr (Or.inr (Or.inr ⟨rfl, rfl, rfl⟩)))) (hb hby d12_9) hr
  · show own_Q (some (.ref s_Z)) h0 n0 _ T1.heap _
    rw [e1]
    exact ⟨rfl, N0, rfl⟩
def own_Qt (Z : State) (s_Z s_1 : Addr) (h0 : Heap) (n0 : Nat) (v : Option Value) (h : Heap) (L : List Loc) : Prop := ∃ t : Addr, v = some (.ref t) ∧ Fr n0 L ∧ Keep h0 h [] ∧ h0.size ≤ t ∧ (Exa Z h t "com/example/hodos/hodos/model/Time") ∧ (Fld Z h t "com/example/hodos/hodos/model/Time" "numerator" "Ljava/math/BigInteger;" (.ref s_Z)) ∧ (Fld Z h t "com/example/hodos/hodos/model/Time" "denominator" "Ljava/math/BigInteger;" (.ref s_1))
theorem d11_0 : decode prog_69_method_3_code 0 = .ok (.lload_n 2, 1) := by decide +kernel
theorem d11_1 : decode prog_69_method_3_code 1 = .ok (.lconst 1, 1) := by decide +kernel
theorem d11_2 : decode prog_69_method_3_code 2 = .ok (.lcmp, 1) := by decide +kernel
theorem d11_3 : decode prog_69_method_3_code 3 = .ok (.ifCond .ne 20, 3) := by decide +kernel
theorem d11_6 : decode prog_69_method_3_code 6 = .ok (.new 8, 3) := by decide +kernel
theorem d11_9 : decode prog_69_method_3_code 9 = .ok (.dup, 1) := by decide +kernel
theorem d11_10 : decode prog_69_method_3_code 10 = .ok (.lload_n 0, 1) := by decide +kernel
theorem d11_11 : decode prog_69_method_3_code 11 = .ok (.invokestatic 41, 3) := by decide +kernel
theorem pd_3 : parseMethodDescriptor "(J)Ljava/math/BigInteger;" = some ⟨[.long], some (.object "java/math/BigInteger")⟩ := by decide +kernel
theorem d11_14 : decode prog_69_method_3_code 14 = .ok (.getstatic 53, 3) := by decide +kernel
theorem d11_17 : decode prog_69_method_3_code 17 = .ok (.invokespecial 50, 3) := by decide +kernel
theorem pd_4 : parseMethodDescriptor "(Ljava/math/BigInteger;Ljava/math/BigInteger;)V" = some ⟨[(.object "java/math/BigInteger"), (.object "java/math/BigInteger")], none⟩ := by decide +kernel
theorem d11_20 : decode prog_69_method_3_code 20 = .ok (.goto 14, 3) := by decide +kernel
theorem d11_34 : decode prog_69_method_3_code 34 = .ok (.areturn, 1) := by decide +kernel
theorem ef_11_8 (m : MethodId) (x0 : Int64) (x1 : Int64) : entryFrame m #[(.long x0), (.long x1)] 4 = mkF m 0 #[.val (.long x0), .second, .val (.long x1), .second] [] := by first | (simp [entryFrame, mkF, argsToLocals, Value.category]; done) | rfl
set_option maxRecDepth 65536 in
set_option maxHeartbeats 40000000 in
theorem r_of (l : Launch) (Z : State) (a0 : Array Value) (hw : ∀ d ∈ tables_1, d.before a0 Z = true) (ws : List Jvm.Cond) (s_T s_Z s_1 m_Z : Addr) (k_Z : ClassId) (h0 : Heap) (n0 : Nat) (O0 : Old Z n0 h0) (G : own_Ctx Z Z.heap s_T s_Z s_1 m_Z k_Z)   :
    MetFree l (⟨"com/example/hodos/hodos/model/Time", "of", "(JJ)Lcom/example/hodos/hodos/model/Time;"⟩ : MethodName) (head1 (Jvm.Cond.code (⟨"com/example/hodos/hodos/model/Time", "of", "(JJ)Lcom/example/hodos/hodos/model/Time;"⟩ : MethodName) prog_69_method_3_code 4 (some (.object "com/example/hodos/hodos/model/Time")) :: ws) ({ frames := 2, cells := 1, slots := 2, locals := 27 } : Room)) (fun a U => a = #[(.long (0 : Int64)), (.long (1 : Int64))] ∧ Z.Warmed39 U.vm ∧ U.heap = h0) (fun _ _ _ _ _ => True) (fun _ U o U' => ∃ v L, o = .returned v ∧ own_Qt Z s_Z s_1 h0 n0 v U'.heap L ∧ FrameEnd U o U' L ({ frames := 2, cells := 1, slots := 2, locals := 27 } : Room).cells ({ frames := 2, cells := 1, slots := 2, locals := 27 } : Room).slots) := by
  have G0 := G
  obtain ⟨S_T, E_T, N_T, D_T, S_Z, E_Z, G_Z, M_Z, V_Z, S_1, E_1, G_1⟩ := G
  refine MetFree.of_bodySF (plainFor_of_name pn_3) hisR ?_
  intro p e s m args below meth c s₁ Bd hml0 hP hK
  obtain ⟨rfl, hZ, hh⟩ := hP
  have hx := Bd.exec
  have hby := Bd.bytes
  have hml : c.maxLocals = 4 := hml0
  have hown : s.vm.findClass "com/example/hodos/hodos/model/Time" = some m.cls := findClass_of_methodNamed Bd.named
  have hnm := (name_of_methodNamed Bd.named Bd.method).1
  have X0 : Stand p l e ({ frames := 2, cells := 1, slots := 2, locals := 27 } : Room) s m #[(.long (0 : Int64)), (.long (1 : Int64))] below meth c s₁ [] 0 0 := Stand.of_body Bd
  have e0 : s₁.heap = h0 := by rw [← hh, Bd.state]; rfl
  have N0 := Fr.nil n0
  have pre0 : ∀ t, Steps p.tables e below (s₁.setTop (mkF m 0 #[.val (.long (0 : Int64)), .second, .val (.long (1 : Int64)), .second] [])) t → Steps p.tables e below (s₁.setTop (entryFrame m #[(.long (0 : Int64)), (.long (1 : Int64))] 4)) t := fun t k => castTop (ef_11_8 m (0 : Int64) (1 : Int64)) k
  obtain ⟨T1, h1, X1, e1, E1, A1, D1, -, st1⟩ := newO X0 hx hZ hown (hw _ (List.mem_of_getElem? (i := 59) rfl)) (hw _ (List.mem_of_getElem? (i := 60) rfl)) (hw _ (List.mem_of_getElem? (i := 28) rfl)) e0 (g := (mkF m 6 #[.val (.long (0 : Int64)), .second, .val (.long (1 : Int64)), .second] [])) rfl (hb hby d11_6) (by decide) (by decide)
  obtain ⟨b1, g1⟩ : ∃ z, z = h0.size := ⟨_, rfl⟩
  have ne_s_T_b1 : s_T ≠ b1 := Nat.ne_of_lt (Nat.lt_of_lt_of_le (E_T.ext O0.2).lt (Nat.le_of_eq g1.symm))
  have ne_s_Z_b1 : s_Z ≠ b1 := Nat.ne_of_lt (Nat.lt_of_lt_of_le (E_Z.ext O0.2).lt (Nat.le_of_eq g1.symm))
  have ne_s_1_b1 : s_1 ≠ b1 := Nat.ne_of_lt (Nat.lt_of_lt_of_le (E_1.ext O0.2).lt (Nat.le_of_eq g1.symm))
  have g_b1 : n0 ≤ b1 := Nat.le_trans (O0.1 ▸ O0.2.1) (Nat.le_of_eq g1.symm)
  have sz_b1 : h0.size ≤ b1 := Nat.le_trans (Keep.refl h0 []).1 (Nat.le_of_eq g1.symm)
  rw [← g1] at A1 D1 st1
  have O1 := O0.ext E1
  have K1 : Keep h0 h1 [] := (Keep.refl h0 []).ext E1
  have F1_72 : Fld Z h1 b1 "com/example/hodos/hodos/model/Time" "numerator" "Ljava/math/BigInteger;" .null := D1 (Or.inr (hw _ (List.mem_of_getElem? (i := 72) rfl))) (ty := (.object "java/math/BigInteger")) (by decide)
  have F1_74 : Fld Z h1 b1 "com/example/hodos/hodos/model/Time" "denominator" "Ljava/math/BigInteger;" .null := D1 (Or.inr (hw _ (List.mem_of_getElem? (i := 74) rfl))) (ty := (.object "java/math/BigInteger")) (by decide)
  obtain ⟨_, _, ⟨T2, L2, k2, n2⟩, -, X2, ⟨Lc2, hQ2, l2, y2, z2⟩, st2⟩ := Jvm.LawKit.callS X1 hx (y := (⟨"java/math/BigInteger", "valueOf", "(J)Ljava/math/BigInteger;"⟩ : MethodName)) hown (mvT hZ (hw _ (List.mem_of_getElem? (i := 61) rfl))) (mvT hZ (hw _ (List.mem_of_getElem? (i := 62) rfl))) (mvT hZ (hw _ (List.mem_of_getElem? (i := 63) rfl))) (mvT hZ (hw _ (List.mem_of_getElem? (i := 64) rfl))) (by decide) (backOf (W := 2) (r_val l Z a0 hw [] s_T s_Z s_1 m_Z k_Z h1 n0 O1 G0) hZ (hw _ (List.mem_of_getElem? (i := 64) rfl)) (hw _ (List.mem_of_getElem? (i := 63) rfl)) (by decide) (by decide)) (g := (mkF m 11 #[.val (.long (0 : Int64)), .second, .val (.long (1 : Int64)), .second] [(.long (0 : Int64)), (.ref b1), (.ref b1)])) rfl (by rw [hml]; rfl) (argsL := [(.long (0 : Int64))]) (rest := [(.ref b1), (.ref b1)]) (lenOf pd_3 rfl) rfl (by show 2 * 0 + _ ≤ _; exact Nat.le_of_eq rfl) (hb hby d11_11) (fun _ _ => ⟨rfl, e1, (by decide : 1 + 0 ≤ _), (by decide : 2 + 0 ≤ _)⟩)
  dsimp only [Pt.U, Pt.locs, Pt.cells, Pt.slots] at X2 l2 y2 z2 st2 hQ2
  subst l2 y2 z2
  obtain ⟨rfl, N2q, e2⟩ := hQ2
  have N2 := Fr.app N0 N2q
  obtain ⟨T3, X3, e3, st3⟩ := getS2 X2 hx hZ hown (host := "") (Or.inl (hw _ (List.mem_of_getElem? (i := 66) rfl))) Via.refl e2 (S_1.ext O1.2) (g := (mkF m 14 #[.val (.long (0 : Int64)), .second, .val (.long (1 : Int64)), .second] [(.ref s_Z), (.ref b1), (.ref b1)])) rfl (hb hby d11_14)
  obtain ⟨_, _, ⟨T4, L4, k4, n4⟩, -, X4, ⟨Lc4, hQ4, l4, y4, z4⟩, st4⟩ := X3.specialBack hx (y := (⟨"com/example/hodos/hodos/model/Time", "<init>", "(Ljava/math/BigInteger;Ljava/math/BigInteger;)V"⟩ : MethodName)) rfl hown (mvT hZ (hw _ (List.mem_of_getElem? (i := 67) rfl))) (mvT hZ (hw _ (List.mem_of_getElem? (i := 68) rfl))) (mvT hZ (hw _ (List.mem_of_getElem? (i := 69) rfl))) (by decide) (backOf (W := 1) (r_tinit l Z a0 hw [] s_T s_Z s_1 m_Z k_Z h1 n0 O1 G0 b1 s_Z s_1 A1 g_b1 F1_72 F1_74) hZ (hw _ (List.mem_of_getElem? (i := 69) rfl)) (hw _ (List.mem_of_getElem? (i := 28) rfl)) (by decide) (by decide)) (g := (mkF m 17 #[.val (.long (0 : Int64)), .second, .val (.long (1 : Int64)), .second] [(.ref s_1), (.ref s_Z), (.ref b1), (.ref b1)])) rfl (by rw [hml]; rfl) (Steps.refl _) (a := b1) (argsL := [(.ref s_Z), (.ref s_1)]) (rest := [(.ref b1)]) (lenOf pd_4 rfl) rfl (by show 2 * 0 + _ ≤ _; exact Nat.le_of_eq rfl) (hb hby d11_17) (fun _ _ => ⟨rfl, e3, (by decide : 1 + 0 ≤ _), (by decide : 2 + 0 ≤ _)⟩)
  dsimp only [Pt.U, Pt.locs, Pt.cells, Pt.slots] at X4 l4 y4 z4 st4 hQ4
  subst l4 y4 z4
  obtain ⟨rfl, N4q, Kq4, Fn4, Fd4⟩ := hQ4
  have N4 := Fr.app N2 N4q
  have f5 := A1.keep Kq4
  have O4 := O1.keep Kq4 (allS g_b1 all0)
  have K4 : Keep h0 T4.heap [] := K1.trans Kq4 (allS (Or.inr sz_b1) all0)
  obtain ⟨fs, hr, hrun, hended, hW, hsame⟩ := X4.leave (v := some (.ref b1)) (fun h => by rw [Bd.returns] at h; cases h)
  refine ⟨_, _, pre0 _ ?_, hrun, hended, _, _, rfl, ?_, ⟨_, rfl⟩, hW, hsame.mono (by decide) (by decide)⟩
  · show Steps p.tables e below (s₁.setTop (mkF m 0 #[.val (.long (0 : Int64)), .second, .val (.long (1 : Int64)), .second] [])) _
    refine XS.lloadN X0.here hx rfl (hb hby d11_0) rfl ?_
    show Steps p.tables e below (s₁.setTop (mkF m 1 #[.val (.long (0 : Int64)), .second, .val (.long (1 : Int64)), .second] [(.long (1 : Int64))])) _
    refine XS.lconst X0.here hx rfl (hb hby d11_1) ?_
    show Steps p.tables e below (s₁.setTop (mkF m 2 #[.val (.long (0 : Int64)), .second, .val (.long (1 : Int64)), .second] [(.long (1 : Int64)), (.long (1 : Int64))])) _
    refine XS.lcmp X0.here hx rfl (hb hby d11_2) rfl ?_
    show Steps p.tables e below (s₁.setTop (mkF m 3 #[.val (.long (0 : Int64)), .second, .val (.long (1 : Int64)), .second] [(.int (lcmpW (1 : Int64) (1 : Int64)))])) _
    refine XS.ifNo X0.here hx rfl (hb hby d11_3) rfl ((if0 _ _).trans (teq (by decide : (lcmpW (1 : Int64) (1 : Int64)) = (0 : Int32))).2) ?_
    show Steps p.tables e below (s₁.setTop (mkF m 6 #[.val (.long (0 : Int64)), .second, .val (.long (1 : Int64)), .second] [])) _
    refine st1 _ ?_
    show Steps p.tables e below (T1.setTop (mkF m 9 #[.val (.long (0 : Int64)), .second, .val (.long (1 : Int64)), .second] [(.ref b1)])) _
    refine XS.dup X1.here hx rfl (hb hby d11_9) rfl rfl ?_
    show Steps p.tables e below (T1.setTop (mkF m 10 #[.val (.long (0 : Int64)), .second, .val (.long (1 : Int64)), .second] [(.ref b1), (.ref b1)])) _
    refine XS.lloadN X1.here hx rfl (hb hby d11_10) rfl ?_
    show Steps p.tables e below (T1.setTop (mkF m 11 #[.val (.long (0 : Int64)), .second, .val (.long (1 : Int64)), .second] [(.long (0 : Int64)), (.ref b1), (.ref b1)])) _
    refine st2 _ ?_
    show Steps p.tables e below (T2.setTop (mkF m 14 #[.val (.long (0 : Int64)), .second, .val (.long (1 : Int64)), .second] [(.ref s_Z), (.ref b1), (.ref b1)])) _
    refine st3 _ ?_
    show Steps p.tables e below (T3.setTop (mkF m 17 #[.val (.long (0 : Int64)), .second, .val (.long (1 : Int64)), .second] [(.ref s_1), (.ref s_Z), (.ref b1), (.ref b1)])) _
    refine st4.trans ?_
    show Steps p.tables e below (T4.setTop (mkF m 20 #[.val (.long (0 : Int64)), .second, .val (.long (1 : Int64)), .second] [(.ref b1)])) _
    refine XS.goto X4.here hx rfl (pc0 := 20) (pc' := 34) rfl (hb hby d11_20) (by decide) (by decide) ?_
    show Steps p.tables e below (T4.setTop (mkF m 34 #[.val (.long (0 : Int64)), .second, .val (.long (1 : Int64)), .second] [(.ref b1)])) _
    exact retOut X4 hx Bd.returns rfl (Or.inr (Or.inr (Or.inr (Or.inr ⟨rfl, rfl, rfl⟩)))) (hb hby d11_34) hr
  · show own_Qt Z s_Z s_1 h0 n0 _ T4.heap _
    exact ⟨b1, rfl, N4, K4, sz_b1, f5, Fn4, Fd4⟩
theorem d10_0 : decode prog_20_method_26_code 0 = .ok (.aload_n 0, 1) := by decide +kernel
theorem d10_1 : decode prog_20_method_26_code 1 = .ok (.getfield 23, 3) := by decide +kernel
theorem d10_4 : decode prog_20_method_26_code 4 = .ok (.ifnull 13, 3) := by decide +kernel
theorem d10_17 : decode prog_20_method_26_code 17 = .ok (.aload_n 0, 1) := by decide +kernel
theorem d10_18 : decode prog_20_method_26_code 18 = .ok (.getfield 15, 3) := by decide +kernel
theorem d10_21 : decode prog_20_method_26_code 21 = .ok (.iload_n 1, 1) := by decide +kernel
theorem d10_22 : decode prog_20_method_26_code 22 = .ok (.laload, 1) := by decide +kernel
theorem d10_23 : decode prog_20_method_26_code 23 = .ok (.ldc2_w 27, 3) := by decide +kernel
theorem d10_26 : decode prog_20_method_26_code 26 = .ok (.lcmp, 1) := by decide +kernel
theorem d10_27 : decode prog_20_method_26_code 27 = .ok (.ifCond .ne 10, 3) := by decide +kernel
theorem d10_37 : decode prog_20_method_26_code 37 = .ok (.aload_n 0, 1) := by decide +kernel
theorem d10_38 : decode prog_20_method_26_code 38 = .ok (.getfield 15, 3) := by decide +kernel
theorem d10_41 : decode prog_20_method_26_code 41 = .ok (.iload_n 1, 1) := by decide +kernel
theorem d10_42 : decode prog_20_method_26_code 42 = .ok (.laload, 1) := by decide +kernel
theorem d10_43 : decode prog_20_method_26_code 43 = .ok (.aload_n 0, 1) := by decide +kernel
theorem d10_44 : decode prog_20_method_26_code 44 = .ok (.getfield 19, 3) := by decide +kernel
theorem d10_47 : decode prog_20_method_26_code 47 = .ok (.invokestatic 208, 3) := by decide +kernel
theorem pd_5 : parseMethodDescriptor "(JJ)Lcom/example/hodos/hodos/model/Time;" = some ⟨[.long, .long], some (.object "com/example/hodos/hodos/model/Time")⟩ := by decide +kernel
theorem d10_50 : decode prog_20_method_26_code 50 = .ok (.astore_n 2, 1) := by decide +kernel
theorem d10_51 : decode prog_20_method_26_code 51 = .ok (.aload_n 2, 1) := by decide +kernel
theorem d10_52 : decode prog_20_method_26_code 52 = .ok (.areturn, 1) := by decide +kernel
theorem ef_10_9 (m : MethodId) (x0 : Addr) (x1 : Int32) : entryFrame m #[(.ref x0), (.int x1)] 3 = mkF m 0 #[.val (.ref x0), .val (.int x1), .unset] [] := by first | (simp [entryFrame, mkF, argsToLocals, Value.category]; done) | rfl
set_option maxRecDepth 65536 in
set_option maxHeartbeats 40000000 in
theorem r_b1 (l : Launch) (Z : State) (a0 : Array Value) (hw : ∀ d ∈ tables_1, d.before a0 Z = true) (ws : List Jvm.Cond) (s_T s_Z s_1 m_Z : Addr) (k_Z : ClassId) (h0 : Heap) (n0 : Nat) (O0 : Old Z n0 h0) (G : own_Ctx Z Z.heap s_T s_Z s_1 m_Z k_Z) (z ar : Addr) (kk : ClassId) (n : Int32) (i : Int32) (Ez : Exa Z h0 z "com/example/hodos/hodos/analysis/Zone") (Fa : Fld Z h0 z "com/example/hodos/hodos/analysis/Zone" "size" "I" (.int (n + (1 : Int32)))) (Fb : Fld Z h0 z "com/example/hodos/hodos/analysis/Zone" "numerators" "[J" (.ref ar)) (Fc : Fld Z h0 z "com/example/hodos/hodos/analysis/Zone" "denominator" "J" (.long (1 : Int64))) (Fd : Fld Z h0 z "com/example/hodos/hodos/analysis/Zone" "exact" "[Lcom/example/hodos/hodos/model/Time;" .null) (Va : Arv Z h0 ar kk .long ((n + (1 : Int32)) * (n + (1 : Int32))) [] (.long (0 : Int64))) (hi1 : ¬ (i < (0 : Int32))) (hi2 : i < ((n + (1 : Int32)) * (n + (1 : Int32)))) :
    MetFree l (⟨"com/example/hodos/hodos/analysis/Zone", "bound", "(I)Lcom/example/hodos/hodos/model/Time;"⟩ : MethodName) (head1 (Jvm.Cond.code (⟨"com/example/hodos/hodos/analysis/Zone", "bound", "(I)Lcom/example/hodos/hodos/model/Time;"⟩ : MethodName) prog_20_method_26_code 3 (some (.object "com/example/hodos/hodos/model/Time")) :: ws) ({ frames := 3, cells := 1, slots := 2, locals := 42 } : Room)) (fun a U => a = #[(.ref z), (.int i)] ∧ Z.Warmed39 U.vm ∧ U.heap = h0) (fun _ _ _ _ _ => True) (fun _ U o U' => ∃ v L, o = .returned v ∧ own_Qt Z s_Z s_1 h0 n0 v U'.heap L ∧ FrameEnd U o U' L ({ frames := 3, cells := 1, slots := 2, locals := 42 } : Room).cells ({ frames := 3, cells := 1, slots := 2, locals := 42 } : Room).slots) := by
  have G0 := G
  obtain ⟨S_T, E_T, N_T, D_T, S_Z, E_Z, G_Z, M_Z, V_Z, S_1, E_1, G_1⟩ := G
  refine MetFree.of_bodySF (plainFor_of_name pn_0) hisR ?_
  intro p e s m args below meth c s₁ Bd hml0 hP hK
  obtain ⟨rfl, hZ, hh⟩ := hP
  have hx := Bd.exec
  have hby := Bd.bytes
  have hml : c.maxLocals = 3 := hml0
  have hown : s.vm.findClass "com/example/hodos/hodos/analysis/Zone" = some m.cls := findClass_of_methodNamed Bd.named
  have hnm := (name_of_methodNamed Bd.named Bd.method).1
  have X0 : Stand p l e ({ frames := 3, cells := 1, slots := 2, locals := 42 } : Room) s m #[(.ref z), (.int i)] below meth c s₁ [] 0 0 := Stand.of_body Bd
  have e0 : s₁.heap = h0 := by rw [← hh, Bd.state]; rfl
  have N0 := Fr.nil n0
  have pre0 : ∀ t, Steps p.tables e below (s₁.setTop (mkF m 0 #[.val (.ref z), .val (.int i), .unset] [])) t → Steps p.tables e below (s₁.setTop (entryFrame m #[(.ref z), (.int i)] 3)) t := fun t k => castTop (ef_10_9 m z i) k
  obtain ⟨T1, X1, e1, st1⟩ := getF X0 hx hZ hown (host := "") (Or.inl (hw _ (List.mem_of_getElem? (i := 19) rfl))) Via.refl e0 Fd (g := (mkF m 1 #[.val (.ref z), .val (.int i), .unset] [(.ref z)])) rfl rfl (hb hby d10_1)
  obtain ⟨T2, X2, e2, st2⟩ := getF X1 hx hZ hown (host := "") (Or.inl (hw _ (List.mem_of_getElem? (i := 15) rfl))) Via.refl e1 Fb (g := (mkF m 18 #[.val (.ref z), .val (.int i), .unset] [(.ref z)])) rfl rfl (hb hby d10_18)
  have vc3 := Va
  obtain ⟨cl3, Ar3, q3, S3, Nn3, Hs3, Gf3⟩ := vc3
  have hin3 : ¬ (i < 0 ∨ cl3.slots.size ≤ (i).toNatClampNeg) := inb_of S3 ⟨hi1, hi2⟩
  have hat3 : cl3.slots[(i).toNatClampNeg]? = some (.long (0 : Int64)) := Has.at Hs3 hin3 rfl
  obtain ⟨T4, X4, e4, st4⟩ := getF X2 hx hZ hown (host := "") (Or.inl (hw _ (List.mem_of_getElem? (i := 15) rfl))) Via.refl e2 Fb (g := (mkF m 38 #[.val (.ref z), .val (.int i), .unset] [(.ref z)])) rfl rfl (hb hby d10_38)
  have vc5 := Va
  obtain ⟨cl5, Ar5, q5, S5, Nn5, Hs5, Gf5⟩ := vc5
  have hin5 : ¬ (i < 0 ∨ cl5.slots.size ≤ (i).toNatClampNeg) := inb_of S5 ⟨hi1, hi2⟩
  have hat5 : cl5.slots[(i).toNatClampNeg]? = some (.long (0 : Int64)) := Has.at Hs5 hin5 rfl
  obtain ⟨T6, X6, e6, st6⟩ := getF X4 hx hZ hown (host := "") (Or.inl (hw _ (List.mem_of_getElem? (i := 17) rfl))) Via.refl e4 Fc (g := (mkF m 44 #[.val (.ref z), .val (.int i), .unset] [(.ref z), (.long (0 : Int64))])) rfl rfl (hb hby d10_44)
  obtain ⟨_, _, ⟨T7, L7, k7, n7⟩, -, X7, ⟨Lc7, hQ7, l7, y7, z7⟩, st7⟩ := Jvm.LawKit.callS X6 hx (y := (⟨"com/example/hodos/hodos/model/Time", "of", "(JJ)Lcom/example/hodos/hodos/model/Time;"⟩ : MethodName)) hown (mvT hZ (hw _ (List.mem_of_getElem? (i := 56) rfl))) (mvT hZ (hw _ (List.mem_of_getElem? (i := 57) rfl))) (mvT hZ (hw _ (List.mem_of_getElem? (i := 28) rfl))) (mvT hZ (hw _ (List.mem_of_getElem? (i := 58) rfl))) (by decide) (backOf (W := 0) (r_of l Z a0 hw [] s_T s_Z s_1 m_Z k_Z h0 n0 O0 G0) hZ (hw _ (List.mem_of_getElem? (i := 58) rfl)) (hw _ (List.mem_of_getElem? (i := 28) rfl)) (by decide) (by decide)) (g := (mkF m 47 #[.val (.ref z), .val (.int i), .unset] [(.long (1 : Int64)), (.long (0 : Int64))])) rfl (by rw [hml]; rfl) (argsL := [(.long (0 : Int64)), (.long (1 : Int64))]) (rest := []) (lenOf pd_5 rfl) rfl (by show 2 * 0 + _ ≤ _; exact Nat.le_of_eq rfl) (hb hby d10_47) (fun _ _ => ⟨rfl, e6, (by decide : 0 + 1 ≤ _), (by decide : 0 + 2 ≤ _)⟩)
  dsimp only [Pt.U, Pt.locs, Pt.cells, Pt.slots] at X7 l7 y7 z7 st7 hQ7
  subst l7 y7 z7
  obtain ⟨t7, rfl, N7q, Kq7, gt7, Et7, Fn7, Fd7⟩ := hQ7
  have N7 := Fr.app N0 N7q
  have ne_z_t7 : z ≠ t7 := Nat.ne_of_lt (Nat.lt_of_lt_of_le Ez.lt gt7)
  have ne_ar_t7 : ar ≠ t7 := Nat.ne_of_lt (Nat.lt_of_lt_of_le Va.lt gt7)
  have ne_s_T_t7 : s_T ≠ t7 := Nat.ne_of_lt (Nat.lt_of_lt_of_le (E_T.ext O0.2).lt gt7)
  have ne_s_Z_t7 : s_Z ≠ t7 := Nat.ne_of_lt (Nat.lt_of_lt_of_le (E_Z.ext O0.2).lt gt7)
  have ne_s_1_t7 : s_1 ≠ t7 := Nat.ne_of_lt (Nat.lt_of_lt_of_le (E_1.ext O0.2).lt gt7)
  have g_t7 : n0 ≤ t7 := Nat.le_trans (O0.1 ▸ O0.2.1) gt7
  have sz_t7 : h0.size ≤ t7 := Nat.le_trans (Keep.refl h0 []).1 gt7
  have f8 := Ez.keep Kq7
  have f9 := Va.keep Kq7 (fun q => nomatch q)
  have f10 := Fa.keep Kq7 (fun q => nomatch q)
  have f11 := Fb.keep Kq7 (fun q => nomatch q)
  have f12 := Fc.keep Kq7 (fun q => nomatch q)
  have f13 := Fd.keep Kq7 (fun q => nomatch q)
  have O7 := O0.keep Kq7 all0
  have K7 : Keep h0 T7.heap [] := (Keep.refl h0 []).trans Kq7 all0
  obtain ⟨fs, hr, hrun, hended, hW, hsame⟩ := X7.leave (v := some (.ref t7)) (fun h => by rw [Bd.returns] at h; cases h)
  refine ⟨_, _, pre0 _ ?_, hrun, hended, _, _, rfl, ?_, ⟨_, rfl⟩, hW, hsame.mono (by decide) (by decide)⟩
  · show Steps p.tables e below (s₁.setTop (mkF m 0 #[.val (.ref z), .val (.int i), .unset] [])) _
    refine XS.aloadN X0.here hx rfl (hb hby d10_0) rfl rfl ?_
    show Steps p.tables e below (s₁.setTop (mkF m 1 #[.val (.ref z), .val (.int i), .unset] [(.ref z)])) _
    refine st1 _ ?_
    show Steps p.tables e below (T1.setTop (mkF m 4 #[.val (.ref z), .val (.int i), .unset] [.null])) _
    refine XS.ifnullYes X1.here hx rfl (pc0 := 4) (pc' := 17) rfl (hb hby d10_4) rfl (by decide) (by decide) ?_
    show Steps p.tables e below (T1.setTop (mkF m 17 #[.val (.ref z), .val (.int i), .unset] [])) _
    refine XS.aloadN X1.here hx rfl (hb hby d10_17) rfl rfl ?_
    show Steps p.tables e below (T1.setTop (mkF m 18 #[.val (.ref z), .val (.int i), .unset] [(.ref z)])) _
    refine st2 _ ?_
    show Steps p.tables e below (T2.setTop (mkF m 21 #[.val (.ref z), .val (.int i), .unset] [(.ref ar)])) _
    refine XS.iloadN X2.here hx rfl (hb hby d10_21) rfl ?_
    show Steps p.tables e below (T2.setTop (mkF m 22 #[.val (.ref z), .val (.int i), .unset] [(.int i), (.ref ar)])) _
    refine X2.laload hx (j := i) (v := (.long (0 : Int64))) (by rw [e2]; exact Ar3.1) (State.isArrayOf_alike hZ.alike Ar3.2.1) Ar3.2.2 hin3 hat3 (g := (mkF m 22 #[.val (.ref z), .val (.int i), .unset] [(.int i), (.ref ar)])) rfl rfl (hb hby d10_22) _ ?_
    show Steps p.tables e below (T2.setTop (mkF m 23 #[.val (.ref z), .val (.int i), .unset] [(.long (0 : Int64))])) _
    refine X2.ldc2Long hx hown (mvT hZ (hw _ (List.mem_of_getElem? (i := 55) rfl))) (g := (mkF m 23 #[.val (.ref z), .val (.int i), .unset] [(.long (0 : Int64))])) rfl (hb hby d10_23) _ ?_
    show Steps p.tables e below (T2.setTop (mkF m 26 #[.val (.ref z), .val (.int i), .unset] [(.long (9223372036854775807 : Int64)), (.long (0 : Int64))])) _
    refine XS.lcmp X2.here hx rfl (hb hby d10_26) rfl ?_
    show Steps p.tables e below (T2.setTop (mkF m 27 #[.val (.ref z), .val (.int i), .unset] [(.int (lcmpW (0 : Int64) (9223372036854775807 : Int64)))])) _
    refine XS.ifYes X2.here hx rfl (pc0 := 27) (pc' := 37) rfl (hb hby d10_27) rfl ((if0 _ _).trans (feq (by decide : ¬ ((lcmpW (0 : Int64) (9223372036854775807 : Int64)) = (0 : Int32)))).2) (by decide) (by decide) ?_
    show Steps p.tables e below (T2.setTop (mkF m 37 #[.val (.ref z), .val (.int i), .unset] [])) _
    refine XS.aloadN X2.here hx rfl (hb hby d10_37) rfl rfl ?_
    show Steps p.tables e below (T2.setTop (mkF m 38 #[.val (.ref z), .val (.int i), .unset] [(.ref z)])) _
    refine st4 _ ?_
    show Steps p.tables e below (T4.setTop (mkF m 41 #[.val (.ref z), .val (.int i), .unset] [(.ref ar)])) _
    refine XS.iloadN X4.here hx rfl (hb hby d10_41) rfl ?_
    show Steps p.tables e below (T4.setTop (mkF m 42 #[.val (.ref z), .val (.int i), .unset] [(.int i), (.ref ar)])) _
    refine X4.laload hx (j := i) (v := (.long (0 : Int64))) (by rw [e4]; exact Ar5.1) (State.isArrayOf_alike hZ.alike Ar5.2.1) Ar5.2.2 hin5 hat5 (g := (mkF m 42 #[.val (.ref z), .val (.int i), .unset] [(.int i), (.ref ar)])) rfl rfl (hb hby d10_42) _ ?_
    show Steps p.tables e below (T4.setTop (mkF m 43 #[.val (.ref z), .val (.int i), .unset] [(.long (0 : Int64))])) _
    refine XS.aloadN X4.here hx rfl (hb hby d10_43) rfl rfl ?_
    show Steps p.tables e below (T4.setTop (mkF m 44 #[.val (.ref z), .val (.int i), .unset] [(.ref z), (.long (0 : Int64))])) _
    refine st6 _ ?_
    show Steps p.tables e below (T6.setTop (mkF m 47 #[.val (.ref z), .val (.int i), .unset] [(.long (1 : Int64)), (.long (0 : Int64))])) _
    refine st7 _ ?_
    show Steps p.tables e below (T7.setTop (mkF m 50 #[.val (.ref z), .val (.int i), .unset] [(.ref t7)])) _
    refine XS.astoreN X7.here hx rfl (hb hby d10_50) rfl rfl (l' := #[.val (.ref z), .val (.int i), .val (.ref t7)]) rfl ?_
    show Steps p.tables e below (T7.setTop (mkF m 51 #[.val (.ref z), .val (.int i), .val (.ref t7)] [])) _
    refine XS.aloadN X7.here hx rfl (hb hby d10_51) rfl rfl ?_
    show Steps p.tables e below (T7.setTop (mkF m 52 #[.val (.ref z), .val (.int i), .val (.ref t7)] [(.ref t7)])) _
    exact retOut X7 hx Bd.returns rfl (Or.inr (Or.inr (Or.inr (Or.inr ⟨rfl, rfl, rfl⟩)))) (hb hby d10_52) hr
  · show own_Qt Z s_Z s_1 h0 n0 _ T7.heap _
    exact ⟨t7, rfl, N7, K7, sz_t7, Et7, Fn7, Fd7⟩
theorem d9_0 : decode prog_20_method_25_code 0 = .ok (.aload_n 0, 1) := by decide +kernel
theorem d9_1 : decode prog_20_method_25_code 1 = .ok (.iload_n 1, 1) := by decide +kernel
theorem d9_2 : decode prog_20_method_25_code 2 = .ok (.aload_n 0, 1) := by decide +kernel
theorem d9_3 : decode prog_20_method_25_code 3 = .ok (.getfield 9, 3) := by decide +kernel
theorem d9_6 : decode prog_20_method_25_code 6 = .ok (.imul, 1) := by decide +kernel
theorem d9_7 : decode prog_20_method_25_code 7 = .ok (.iload_n 2, 1) := by decide +kernel
theorem d9_8 : decode prog_20_method_25_code 8 = .ok (.iadd, 1) := by decide +kernel
theorem d9_9 : decode prog_20_method_25_code 9 = .ok (.invokevirtual 205, 3) := by decide +kernel
theorem pd_6 : parseMethodDescriptor "(I)Lcom/example/hodos/hodos/model/Time;" = some ⟨[.int], some (.object "com/example/hodos/hodos/model/Time")⟩ := by decide +kernel
theorem d9_12 : decode prog_20_method_25_code 12 = .ok (.areturn, 1) := by decide +kernel
theorem ef_9_10 (m : MethodId) (x0 : Addr) (x1 : Int32) (x2 : Int32) : entryFrame m #[(.ref x0), (.int x1), (.int x2)] 3 = mkF m 0 #[.val (.ref x0), .val (.int x1), .val (.int x2)] [] := by first | (simp [entryFrame, mkF, argsToLocals, Value.category]; done) | rfl
set_option maxRecDepth 65536 in
set_option maxHeartbeats 40000000 in
theorem r_b2 (l : Launch) (Z : State) (a0 : Array Value) (hw : ∀ d ∈ tables_1, d.before a0 Z = true) (ws : List Jvm.Cond) (s_T s_Z s_1 m_Z : Addr) (k_Z : ClassId) (h0 : Heap) (n0 : Nat) (O0 : Old Z n0 h0) (G : own_Ctx Z Z.heap s_T s_Z s_1 m_Z k_Z) (z ar : Addr) (kk : ClassId) (n : Int32) (i j : Int32) (Ez : Exa Z h0 z "com/example/hodos/hodos/analysis/Zone") (Fa : Fld Z h0 z "com/example/hodos/hodos/analysis/Zone" "size" "I" (.int (n + (1 : Int32)))) (Fb : Fld Z h0 z "com/example/hodos/hodos/analysis/Zone" "numerators" "[J" (.ref ar)) (Fc : Fld Z h0 z "com/example/hodos/hodos/analysis/Zone" "denominator" "J" (.long (1 : Int64))) (Fd : Fld Z h0 z "com/example/hodos/hodos/analysis/Zone" "exact" "[Lcom/example/hodos/hodos/model/Time;" .null) (Va : Arv Z h0 ar kk .long ((n + (1 : Int32)) * (n + (1 : Int32))) [] (.long (0 : Int64))) (hi1 : ¬ (((i * (n + (1 : Int32))) + j) < (0 : Int32))) (hi2 : ((i * (n + (1 : Int32))) + j) < ((n + (1 : Int32)) * (n + (1 : Int32)))) :
    MetFree l (⟨"com/example/hodos/hodos/analysis/Zone", "bound", "(II)Lcom/example/hodos/hodos/model/Time;"⟩ : MethodName) (head1 (Jvm.Cond.code (⟨"com/example/hodos/hodos/analysis/Zone", "bound", "(II)Lcom/example/hodos/hodos/model/Time;"⟩ : MethodName) prog_20_method_25_code 3 (some (.object "com/example/hodos/hodos/model/Time")) :: ws) ({ frames := 4, cells := 1, slots := 2, locals := 56 } : Room)) (fun a U => a = #[(.ref z), (.int i), (.int j)] ∧ Z.Warmed39 U.vm ∧ U.heap = h0) (fun _ _ _ _ _ => True) (fun _ U o U' => ∃ v L, o = .returned v ∧ own_Qt Z s_Z s_1 h0 n0 v U'.heap L ∧ FrameEnd U o U' L ({ frames := 4, cells := 1, slots := 2, locals := 56 } : Room).cells ({ frames := 4, cells := 1, slots := 2, locals := 56 } : Room).slots) := by
  have G0 := G
  obtain ⟨S_T, E_T, N_T, D_T, S_Z, E_Z, G_Z, M_Z, V_Z, S_1, E_1, G_1⟩ := G
  refine MetFree.of_bodySF (plainFor_of_name pn_0) hisR ?_
  intro p e s m args below meth c s₁ Bd hml0 hP hK
  obtain ⟨rfl, hZ, hh⟩ := hP
  have hx := Bd.exec
  have hby := Bd.bytes
  have hml : c.maxLocals = 3 := hml0
  have hown : s.vm.findClass "com/example/hodos/hodos/analysis/Zone" = some m.cls := findClass_of_methodNamed Bd.named
  have hnm := (name_of_methodNamed Bd.named Bd.method).1
  have X0 : Stand p l e ({ frames := 4, cells := 1, slots := 2, locals := 56 } : Room) s m #[(.ref z), (.int i), (.int j)] below meth c s₁ [] 0 0 := Stand.of_body Bd
  have e0 : s₁.heap = h0 := by rw [← hh, Bd.state]; rfl
  have N0 := Fr.nil n0
  have pre0 : ∀ t, Steps p.tables e below (s₁.setTop (mkF m 0 #[.val (.ref z), .val (.int i), .val (.int j)] [])) t → Steps p.tables e below (s₁.setTop (entryFrame m #[(.ref z), (.int i), (.int j)] 3)) t := fun t k => castTop (ef_9_10 m z i j) k
  obtain ⟨T1, X1, e1, st1⟩ := getF X0 hx hZ hown (host := "") (Or.inl (hw _ (List.mem_of_getElem? (i := 13) rfl))) Via.refl e0 Fa (g := (mkF m 3 #[.val (.ref z), .val (.int i), .val (.int j)] [(.ref z), (.int i), (.ref z)])) rfl rfl (hb hby d9_3)
  obtain ⟨cq2, q2, q2'⟩ := Ez.cell
  obtain ⟨_, _, ⟨T2, L2, k2, n2⟩, -, X2, ⟨Lc2, hQ2, l2, y2, z2⟩, st2⟩ := X1.privateBack hx (y := (⟨"com/example/hodos/hodos/analysis/Zone", "bound", "(I)Lcom/example/hodos/hodos/model/Time;"⟩ : MethodName)) hown (mvT hZ (hw _ (List.mem_of_getElem? (i := 51) rfl))) (mvT hZ (hw _ (List.mem_of_getElem? (i := 52) rfl))) (own_selP hZ (hw _ (List.mem_of_getElem? (i := 5) rfl)) (hw _ (List.mem_of_getElem? (i := 52) rfl)) (hw _ (List.mem_of_getElem? (i := 53) rfl)) (by decide)) (Cond.privateMethod_at (mvP hZ (hw _ (List.mem_of_getElem? (i := 53) rfl)) (args := #[]))) (mvT hZ (hw _ (List.mem_of_getElem? (i := 54) rfl))) (by decide) (backOf (W := 0) (r_b1 l Z a0 hw [] s_T s_Z s_1 m_Z k_Z h0 n0 O0 G0 z ar kk n ((i * (n + (1 : Int32))) + j) Ez Fa Fb Fc Fd Va hi1 hi2) hZ (hw _ (List.mem_of_getElem? (i := 54) rfl)) (hw _ (List.mem_of_getElem? (i := 2) rfl)) (by decide) (by decide)) (g := (mkF m 9 #[.val (.ref z), .val (.int i), .val (.int j)] [(.int ((i * (n + (1 : Int32))) + j)), (.ref z)])) rfl (by rw [hml]; rfl) (Steps.refl _) (a := z) (by rw [e1]; exact q2) q2' (argsL := [(.int ((i * (n + (1 : Int32))) + j))]) (rest := []) (lenOf pd_6 rfl) rfl (by show 2 * 0 + _ ≤ _; exact Nat.le_of_eq rfl) (hb hby d9_9) (fun _ _ => ⟨rfl, e1, (by decide : 0 + 1 ≤ _), (by decide : 0 + 2 ≤ _)⟩)
  dsimp only [Pt.U, Pt.locs, Pt.cells, Pt.slots] at X2 l2 y2 z2 st2 hQ2
  subst l2 y2 z2
  obtain ⟨t2, rfl, N2q, Kq2, gt2, Et2, Fn2, Fd2⟩ := hQ2
  have N2 := Fr.app N0 N2q
  have ne_z_t2 : z ≠ t2 := Nat.ne_of_lt (Nat.lt_of_lt_of_le Ez.lt gt2)
  have ne_ar_t2 : ar ≠ t2 := Nat.ne_of_lt (Nat.lt_of_lt_of_le Va.lt gt2)
  have ne_s_T_t2 : s_T ≠ t2 := Nat.ne_of_lt (Nat.lt_of_lt_of_le (E_T.ext O0.2).lt gt2)
  have ne_s_Z_t2 : s_Z ≠ t2 := Nat.ne_of_lt (Nat.lt_of_lt_of_le (E_Z.ext O0.2).lt gt2)
  have ne_s_1_t2 : s_1 ≠ t2 := Nat.ne_of_lt (Nat.lt_of_lt_of_le (E_1.ext O0.2).lt gt2)
  have g_t2 : n0 ≤ t2 := Nat.le_trans (O0.1 ▸ O0.2.1) gt2
  have sz_t2 : h0.size ≤ t2 := Nat.le_trans (Keep.refl h0 []).1 gt2
  have f3 := Ez.keep Kq2
  have f4 := Va.keep Kq2 (fun q => nomatch q)
  have f5 := Fa.keep Kq2 (fun q => nomatch q)
  have f6 := Fb.keep Kq2 (fun q => nomatch q)
  have f7 := Fc.keep Kq2 (fun q => nomatch q)
  have f8 := Fd.keep Kq2 (fun q => nomatch q)
  have O2 := O0.keep Kq2 all0
  have K2 : Keep h0 T2.heap [] := (Keep.refl h0 []).trans Kq2 all0
  obtain ⟨fs, hr, hrun, hended, hW, hsame⟩ := X2.leave (v := some (.ref t2)) (fun h => by rw [Bd.returns] at h; cases h)
  refine ⟨_, _, pre0 _ ?_, hrun, hended, _, _, rfl, ?_, ⟨_, rfl⟩, hW, hsame.mono (by decide) (by decide)⟩
  · show Steps p.tables e below (s₁.setTop (mkF m 0 #[.val (.ref z), .val (.int i), .val (.int j)] [])) _
    refine XS.aloadN X0.here hx rfl (hb hby d9_0) rfl rfl ?_
    show Steps p.tables e below (s₁.setTop (mkF m 1 #[.val (.ref z), .val (.int i), .val (.int j)] [(.ref z)])) _
    refine XS.iloadN X0.here hx rfl (hb hby d9_1) rfl ?_
    show Steps p.tables e below (s₁.setTop (mkF m 2 #[.val (.ref z), .val (.int i), .val (.int j)] [(.int i), (.ref z)])) _
    refine XS.aloadN X0.here hx rfl (hb hby d9_2) rfl rfl ?_
    show Steps p.tables e below (s₁.setTop (mkF m 3 #[.val (.ref z), .val (.int i), .val (.int j)] [(.ref z), (.int i), (.ref z)])) _
    refine st1 _ ?_
    show Steps p.tables e below (T1.setTop (mkF m 6 #[.val (.ref z), .val (.int i), .val (.int j)] [(.int (n + (1 : Int32))), (.int i), (.ref z)])) _
    refine XS.imul X1.here hx rfl (hb hby d9_6) rfl ?_
    show Steps p.tables e below (T1.setTop (mkF m 7 #[.val (.ref z), .val (.int i), .val (.int j)] [(.int (i * (n + (1 : Int32)))), (.ref z)])) _
    refine XS.iloadN X1.here hx rfl (hb hby d9_7) rfl ?_
    show Steps p.tables e below (T1.setTop (mkF m 8 #[.val (.ref z), .val (.int i), .val (.int j)] [(.int j), (.int (i * (n + (1 : Int32)))), (.ref z)])) _
    refine XS.iadd X1.here hx rfl (hb hby d9_8) rfl ?_
    show Steps p.tables e below (T1.setTop (mkF m 9 #[.val (.ref z), .val (.int i), .val (.int j)] [(.int ((i * (n + (1 : Int32))) + j)), (.ref z)])) _
    refine st2.trans ?_
    show Steps p.tables e below (T2.setTop (mkF m 12 #[.val (.ref z), .val (.int i), .val (.int j)] [(.ref t2)])) _
    exact retOut X2 hx Bd.returns rfl (Or.inr (Or.inr (Or.inr (Or.inr ⟨rfl, rfl, rfl⟩)))) (hb hby d9_12) hr
  · show own_Qt Z s_Z s_1 h0 n0 _ T2.heap _
    exact ⟨t2, rfl, N2, K2, sz_t2, Et2, Fn2, Fd2⟩
theorem d5_0 : decode prog_20_method_6_code 0 = .ok (.aload_n 0, 1) := by decide +kernel
theorem d5_1 : decode prog_20_method_6_code 1 = .ok (.aload_n 0, 1) := by decide +kernel
theorem d5_2 : decode prog_20_method_6_code 2 = .ok (.iload_n 1, 1) := by decide +kernel
theorem d5_3 : decode prog_20_method_6_code 3 = .ok (.invokevirtual 97, 3) := by decide +kernel
theorem pd_7 : parseMethodDescriptor "(I)I" = some ⟨[.int], some .int⟩ := by decide +kernel
theorem d5_6 : decode prog_20_method_6_code 6 = .ok (.iconst 0, 1) := by decide +kernel
theorem d5_7 : decode prog_20_method_6_code 7 = .ok (.invokevirtual 101, 3) := by decide +kernel
theorem pd_8 : parseMethodDescriptor "(II)Lcom/example/hodos/hodos/model/Time;" = some ⟨[.int, .int], some (.object "com/example/hodos/hodos/model/Time")⟩ := by decide +kernel
theorem d5_10 : decode prog_20_method_6_code 10 = .ok (.areturn, 1) := by decide +kernel
theorem ef_5_11 (m : MethodId) (x0 : Addr) (x1 : Int32) : entryFrame m #[(.ref x0), (.int x1)] 2 = mkF m 0 #[.val (.ref x0), .val (.int x1)] [] := by first | (simp [entryFrame, mkF, argsToLocals, Value.category]; done) | rfl
set_option maxRecDepth 65536 in
set_option maxHeartbeats 40000000 in
theorem r_up1 (l : Launch) (Z : State) (a0 : Array Value) (hw : ∀ d ∈ tables_1, d.before a0 Z = true) (ws : List Jvm.Cond) (s_T s_Z s_1 m_Z : Addr) (k_Z : ClassId) (h0 : Heap) (n0 : Nat) (O0 : Old Z n0 h0) (G : own_Ctx Z Z.heap s_T s_Z s_1 m_Z k_Z) (z ar : Addr) (kk : ClassId) (n : Int32) (c1 : Int32) (Ez : Exa Z h0 z "com/example/hodos/hodos/analysis/Zone") (Fa : Fld Z h0 z "com/example/hodos/hodos/analysis/Zone" "size" "I" (.int (n + (1 : Int32)))) (Fb : Fld Z h0 z "com/example/hodos/hodos/analysis/Zone" "numerators" "[J" (.ref ar)) (Fc : Fld Z h0 z "com/example/hodos/hodos/analysis/Zone" "denominator" "J" (.long (1 : Int64))) (Fd : Fld Z h0 z "com/example/hodos/hodos/analysis/Zone" "exact" "[Lcom/example/hodos/hodos/model/Time;" .null) (Va : Arv Z h0 ar kk .long ((n + (1 : Int32)) * (n + (1 : Int32))) [] (.long (0 : Int64))) (h1c1 : ¬ (c1 < (0 : Int32))) (h2c1 : c1 < ((n + (1 : Int32)) - (1 : Int32))) (hi1 : ¬ ((((c1 + (1 : Int32)) * (n + (1 : Int32))) + (0 : Int32)) < (0 : Int32))) (hi2 : (((c1 + (1 : Int32)) * (n + (1 : Int32))) + (0 : Int32)) < ((n + (1 : Int32)) * (n + (1 : Int32)))) :
    MetFree l (⟨"com/example/hodos/hodos/analysis/Zone", "upper", "(I)Lcom/example/hodos/hodos/model/Time;"⟩ : MethodName) (head1 (Jvm.Cond.code (⟨"com/example/hodos/hodos/analysis/Zone", "upper", "(I)Lcom/example/hodos/hodos/model/Time;"⟩ : MethodName) prog_20_method_6_code 2 (some (.object "com/example/hodos/hodos/model/Time")) :: ws) ({ frames := 5, cells := 1, slots := 2, locals := 70 } : Room)) (fun a U => a = #[(.ref z), (.int c1)] ∧ Z.Warmed39 U.vm ∧ U.heap = h0) (fun _ _ _ _ _ => True) (fun _ U o U' => ∃ v L, o = .returned v ∧ own_Qt Z s_Z s_1 h0 n0 v U'.heap L ∧ FrameEnd U o U' L ({ frames := 5, cells := 1, slots := 2, locals := 70 } : Room).cells ({ frames := 5, cells := 1, slots := 2, locals := 70 } : Room).slots) := by
  have G0 := G
  obtain ⟨S_T, E_T, N_T, D_T, S_Z, E_Z, G_Z, M_Z, V_Z, S_1, E_1, G_1⟩ := G
  refine MetFree.of_bodySF (plainFor_of_name pn_0) hisR ?_
  intro p e s m args below meth c s₁ Bd hml0 hP hK
  obtain ⟨rfl, hZ, hh⟩ := hP
  have hx := Bd.exec
  have hby := Bd.bytes
  have hml : c.maxLocals = 2 := hml0
  have hown : s.vm.findClass "com/example/hodos/hodos/analysis/Zone" = some m.cls := findClass_of_methodNamed Bd.named
  have hnm := (name_of_methodNamed Bd.named Bd.method).1
  have X0 : Stand p l e ({ frames := 5, cells := 1, slots := 2, locals := 70 } : Room) s m #[(.ref z), (.int c1)] below meth c s₁ [] 0 0 := Stand.of_body Bd
  have e0 : s₁.heap = h0 := by rw [← hh, Bd.state]; rfl
  have N0 := Fr.nil n0
  have pre0 : ∀ t, Steps p.tables e below (s₁.setTop (mkF m 0 #[.val (.ref z), .val (.int c1)] [])) t → Steps p.tables e below (s₁.setTop (entryFrame m #[(.ref z), (.int c1)] 2)) t := fun t k => castTop (ef_5_11 m z c1) k
  obtain ⟨cq1, q1, q1'⟩ := Ez.cell
  obtain ⟨_, _, ⟨T1, L1, k1, n1⟩, -, X1, ⟨Lc1, hQ1, l1, y1, z1⟩, st1⟩ := X0.privateBack hx (y := (⟨"com/example/hodos/hodos/analysis/Zone", "row", "(I)I"⟩ : MethodName)) hown (mvT hZ (hw _ (List.mem_of_getElem? (i := 35) rfl))) (mvT hZ (hw _ (List.mem_of_getElem? (i := 36) rfl))) (own_selP hZ (hw _ (List.mem_of_getElem? (i := 5) rfl)) (hw _ (List.mem_of_getElem? (i := 36) rfl)) (hw _ (List.mem_of_getElem? (i := 37) rfl)) (by decide)) (Cond.privateMethod_at (mvP hZ (hw _ (List.mem_of_getElem? (i := 37) rfl)) (args := #[]))) (mvT hZ (hw _ (List.mem_of_getElem? (i := 38) rfl))) (by decide) (backOf (W := 1) (r_row l Z a0 hw [] s_T s_Z s_1 m_Z k_Z h0 n0 O0 G0 z ar kk n c1 Ez Fa Fb Fc Fd Va h1c1 h2c1) hZ (hw _ (List.mem_of_getElem? (i := 38) rfl)) (hw _ (List.mem_of_getElem? (i := 2) rfl)) (by decide) (by decide)) (g := (mkF m 3 #[.val (.ref z), .val (.int c1)] [(.int c1), (.ref z), (.ref z)])) rfl (by rw [hml]; rfl) (Steps.refl _) (a := z) (by rw [e0]; exact q1) q1' (argsL := [(.int c1)]) (rest := [(.ref z)]) (lenOf pd_7 rfl) rfl (by show 2 * 0 + _ ≤ _; exact Nat.le_of_eq rfl) (hb hby d5_3) (fun _ _ => ⟨rfl, e0, (by decide : 0 + 0 ≤ _), (by decide : 0 + 0 ≤ _)⟩)
  dsimp only [Pt.U, Pt.locs, Pt.cells, Pt.slots] at X1 l1 y1 z1 st1 hQ1
  subst l1 y1 z1
  obtain ⟨rfl, N1q, e1⟩ := hQ1
  have N1 := Fr.app N0 N1q
  obtain ⟨cq2, q2, q2'⟩ := Ez.cell
  obtain ⟨_, _, ⟨T2, L2, k2, n2⟩, -, X2, ⟨Lc2, hQ2, l2, y2, z2⟩, st2⟩ := X1.privateBack hx (y := (⟨"com/example/hodos/hodos/analysis/Zone", "bound", "(II)Lcom/example/hodos/hodos/model/Time;"⟩ : MethodName)) hown (mvT hZ (hw _ (List.mem_of_getElem? (i := 47) rfl))) (mvT hZ (hw _ (List.mem_of_getElem? (i := 48) rfl))) (own_selP hZ (hw _ (List.mem_of_getElem? (i := 5) rfl)) (hw _ (List.mem_of_getElem? (i := 48) rfl)) (hw _ (List.mem_of_getElem? (i := 49) rfl)) (by decide)) (Cond.privateMethod_at (mvP hZ (hw _ (List.mem_of_getElem? (i := 49) rfl)) (args := #[]))) (mvT hZ (hw _ (List.mem_of_getElem? (i := 50) rfl))) (by decide) (backOf (W := 0) (r_b2 l Z a0 hw [] s_T s_Z s_1 m_Z k_Z h0 n0 O0 G0 z ar kk n (c1 + (1 : Int32)) (0 : Int32) Ez Fa Fb Fc Fd Va hi1 hi2) hZ (hw _ (List.mem_of_getElem? (i := 50) rfl)) (hw _ (List.mem_of_getElem? (i := 2) rfl)) (by decide) (by decide)) (g := (mkF m 7 #[.val (.ref z), .val (.int c1)] [(.int (0 : Int32)), (.int (c1 + (1 : Int32))), (.ref z)])) rfl (by rw [hml]; rfl) (Steps.refl _) (a := z) (by rw [e1]; exact q2) q2' (argsL := [(.int (c1 + (1 : Int32))), (.int (0 : Int32))]) (rest := []) (lenOf pd_8 rfl) rfl (by show 2 * 0 + _ ≤ _; exact Nat.le_of_eq rfl) (hb hby d5_7) (fun _ _ => ⟨rfl, e1, (by decide : 0 + 1 ≤ _), (by decide : 0 + 2 ≤ _)⟩)
  dsimp only [Pt.U, Pt.locs, Pt.cells, Pt.slots] at X2 l2 y2 z2 st2 hQ2
  subst l2 y2 z2
  obtain ⟨t2, rfl, N2q, Kq2, gt2, Et2, Fn2, Fd2⟩ := hQ2
  have N2 := Fr.app N1 N2q
  have ne_z_t2 : z ≠ t2 := Nat.ne_of_lt (Nat.lt_of_lt_of_le Ez.lt gt2)
  have ne_ar_t2 : ar ≠ t2 := Nat.ne_of_lt (Nat.lt_of_lt_of_le Va.lt gt2)
  have ne_s_T_t2 : s_T ≠ t2 := Nat.ne_of_lt (Nat.lt_of_lt_of_le (E_T.ext O0.2).lt gt2)
  have ne_s_Z_t2 : s_Z ≠ t2 := Nat.ne_of_lt (Nat.lt_of_lt_of_le (E_Z.ext O0.2).lt gt2)
  have ne_s_1_t2 : s_1 ≠ t2 := Nat.ne_of_lt (Nat.lt_of_lt_of_le (E_1.ext O0.2).lt gt2)
  have g_t2 : n0 ≤ t2 := Nat.le_trans (O0.1 ▸ O0.2.1) gt2
  have sz_t2 : h0.size ≤ t2 := Nat.le_trans (Keep.refl h0 []).1 gt2
  have f3 := Ez.keep Kq2
  have f4 := Va.keep Kq2 (fun q => nomatch q)
  have f5 := Fa.keep Kq2 (fun q => nomatch q)
  have f6 := Fb.keep Kq2 (fun q => nomatch q)
  have f7 := Fc.keep Kq2 (fun q => nomatch q)
  have f8 := Fd.keep Kq2 (fun q => nomatch q)
  have O2 := O0.keep Kq2 all0
  have K2 : Keep h0 T2.heap [] := (Keep.refl h0 []).trans Kq2 all0
  obtain ⟨fs, hr, hrun, hended, hW, hsame⟩ := X2.leave (v := some (.ref t2)) (fun h => by rw [Bd.returns] at h; cases h)
  refine ⟨_, _, pre0 _ ?_, hrun, hended, _, _, rfl, ?_, ⟨_, rfl⟩, hW, hsame.mono (by decide) (by decide)⟩
  · show Steps p.tables e below (s₁.setTop (mkF m 0 #[.val (.ref z), .val (.int c1)] [])) _
    refine XS.aloadN X0.here hx rfl (hb hby d5_0) rfl rfl ?_
    show Steps p.tables e below (s₁.setTop (mkF m 1 #[.val (.ref z), .val (.int c1)] [(.ref z)])) _
    refine XS.aloadN X0.here hx rfl (hb hby d5_1) rfl rfl ?_
    show Steps p.tables e below (s₁.setTop (mkF m 2 #[.val (.ref z), .val (.int c1)] [(.ref z), (.ref z)])) _
    refine XS.iloadN X0.here hx rfl (hb hby d5_2) rfl ?_
    show Steps p.tables e below (s₁.setTop (mkF m 3 #[.val (.ref z), .val (.int c1)] [(.int c1), (.ref z), (.ref z)])) _
    refine st1.trans ?_
    show Steps p.tables e below (T1.setTop (mkF m 6 #[.val (.ref z), .val (.int c1)] [(.int (c1 + (1 : Int32))), (.ref z)])) _
    refine XS.iconst X1.here hx rfl (hb hby d5_6) ?_
    show Steps p.tables e below (T1.setTop (mkF m 7 #[.val (.ref z), .val (.int c1)] [(.int (0 : Int32)), (.int (c1 + (1 : Int32))), (.ref z)])) _
    refine st2.trans ?_
    show Steps p.tables e below (T2.setTop (mkF m 10 #[.val (.ref z), .val (.int c1)] [(.ref t2)])) _
    exact retOut X2 hx Bd.returns rfl (Or.inr (Or.inr (Or.inr (Or.inr ⟨rfl, rfl, rfl⟩)))) (hb hby d5_10) hr
  · show own_Qt Z s_Z s_1 h0 n0 _ T2.heap _
    exact ⟨t2, rfl, N2, K2, sz_t2, Et2, Fn2, Fd2⟩
theorem d24_0 : decode prog_20_method_8_code 0 = .ok (.aload_n 0, 1) := by decide +kernel
theorem d24_1 : decode prog_20_method_8_code 1 = .ok (.aload_n 0, 1) := by decide +kernel
theorem d24_2 : decode prog_20_method_8_code 2 = .ok (.iload_n 1, 1) := by decide +kernel
theorem d24_3 : decode prog_20_method_8_code 3 = .ok (.invokevirtual 97, 3) := by decide +kernel
theorem d24_6 : decode prog_20_method_8_code 6 = .ok (.aload_n 0, 1) := by decide +kernel
theorem d24_7 : decode prog_20_method_8_code 7 = .ok (.iload_n 2, 1) := by decide +kernel
theorem d24_8 : decode prog_20_method_8_code 8 = .ok (.invokevirtual 97, 3) := by decide +kernel
theorem d24_11 : decode prog_20_method_8_code 11 = .ok (.invokevirtual 101, 3) := by decide +kernel
theorem d24_14 : decode prog_20_method_8_code 14 = .ok (.areturn, 1) := by decide +kernel
theorem ef_24_12 (m : MethodId) (x0 : Addr) (x1 : Int32) (x2 : Int32) : entryFrame m #[(.ref x0), (.int x1), (.int x2)] 3 = mkF m 0 #[.val (.ref x0), .val (.int x1), .val (.int x2)] [] := by first | (simp [entryFrame, mkF, argsToLocals, Value.category]; done) | rfl
set_option maxRecDepth 65536 in
set_option maxHeartbeats 40000000 in
theorem r_up2 (l : Launch) (Z : State) (a0 : Array Value) (hw : ∀ d ∈ tables_1, d.before a0 Z = true) (ws : List Jvm.Cond) (s_T s_Z s_1 m_Z : Addr) (k_Z : ClassId) (h0 : Heap) (n0 : Nat) (O0 : Old Z n0 h0) (G : own_Ctx Z Z.heap s_T s_Z s_1 m_Z k_Z) (z ar : Addr) (kk : ClassId) (n : Int32) (c1 c2 : Int32) (Ez : Exa Z h0 z "com/example/hodos/hodos/analysis/Zone") (Fa : Fld Z h0 z "com/example/hodos/hodos/analysis/Zone" "size" "I" (.int (n + (1 : Int32)))) (Fb : Fld Z h0 z "com/example/hodos/hodos/analysis/Zone" "numerators" "[J" (.ref ar)) (Fc : Fld Z h0 z "com/example/hodos/hodos/analysis/Zone" "denominator" "J" (.long (1 : Int64))) (Fd : Fld Z h0 z "com/example/hodos/hodos/analysis/Zone" "exact" "[Lcom/example/hodos/hodos/model/Time;" .null) (Va : Arv Z h0 ar kk .long ((n + (1 : Int32)) * (n + (1 : Int32))) [] (.long (0 : Int64))) (h1c1 : ¬ (c1 < (0 : Int32))) (h2c1 : c1 < ((n + (1 : Int32)) - (1 : Int32))) (h1c2 : ¬ (c2 < (0 : Int32))) (h2c2 : c2 < ((n + (1 : Int32)) - (1 : Int32))) (hi1 : ¬ ((((c1 + (1 : Int32)) * (n + (1 : Int32))) + (c2 + (1 : Int32))) < (0 : Int32))) (hi2 : (((c1 + (1 : Int32)) * (n + (1 : Int32))) + (c2 + (1 : Int32))) < ((n + (1 : Int32)) * (n + (1 : Int32)))) :
    MetFree l (⟨"com/example/hodos/hodos/analysis/Zone", "upper", "(II)Lcom/example/hodos/hodos/model/Time;"⟩ : MethodName) (head1 (Jvm.Cond.code (⟨"com/example/hodos/hodos/analysis/Zone", "upper", "(II)Lcom/example/hodos/hodos/model/Time;"⟩ : MethodName) prog_20_method_8_code 3 (some (.object "com/example/hodos/hodos/model/Time")) :: ws) ({ frames := 5, cells := 1, slots := 2, locals := 70 } : Room)) (fun a U => a = #[(.ref z), (.int c1), (.int c2)] ∧ Z.Warmed39 U.vm ∧ U.heap = h0) (fun _ _ _ _ _ => True) (fun _ U o U' => ∃ v L, o = .returned v ∧ own_Qt Z s_Z s_1 h0 n0 v U'.heap L ∧ FrameEnd U o U' L ({ frames := 5, cells := 1, slots := 2, locals := 70 } : Room).cells ({ frames := 5, cells := 1, slots := 2, locals := 70 } : Room).slots) := by
  have G0 := G
  obtain ⟨S_T, E_T, N_T, D_T, S_Z, E_Z, G_Z, M_Z, V_Z, S_1, E_1, G_1⟩ := G
  refine MetFree.of_bodySF (plainFor_of_name pn_0) hisR ?_
  intro p e s m args below meth c s₁ Bd hml0 hP hK
  obtain ⟨rfl, hZ, hh⟩ := hP
  have hx := Bd.exec
  have hby := Bd.bytes
  have hml : c.maxLocals = 3 := hml0
  have hown : s.vm.findClass "com/example/hodos/hodos/analysis/Zone" = some m.cls := findClass_of_methodNamed Bd.named
  have hnm := (name_of_methodNamed Bd.named Bd.method).1
  have X0 : Stand p l e ({ frames := 5, cells := 1, slots := 2, locals := 70 } : Room) s m #[(.ref z), (.int c1), (.int c2)] below meth c s₁ [] 0 0 := Stand.of_body Bd
  have e0 : s₁.heap = h0 := by rw [← hh, Bd.state]; rfl
  have N0 := Fr.nil n0
  have pre0 : ∀ t, Steps p.tables e below (s₁.setTop (mkF m 0 #[.val (.ref z), .val (.int c1), .val (.int c2)] [])) t → Steps p.tables e below (s₁.setTop (entryFrame m #[(.ref z), (.int c1), (.int c2)] 3)) t := fun t k => castTop (ef_24_12 m z c1 c2) k
  obtain ⟨cq1, q1, q1'⟩ := Ez.cell
  obtain ⟨_, _, ⟨T1, L1, k1, n1⟩, -, X1, ⟨Lc1, hQ1, l1, y1, z1⟩, st1⟩ := X0.privateBack hx (y := (⟨"com/example/hodos/hodos/analysis/Zone", "row", "(I)I"⟩ : MethodName)) hown (mvT hZ (hw _ (List.mem_of_getElem? (i := 35) rfl))) (mvT hZ (hw _ (List.mem_of_getElem? (i := 36) rfl))) (own_selP hZ (hw _ (List.mem_of_getElem? (i := 5) rfl)) (hw _ (List.mem_of_getElem? (i := 36) rfl)) (hw _ (List.mem_of_getElem? (i := 37) rfl)) (by decide)) (Cond.privateMethod_at (mvP hZ (hw _ (List.mem_of_getElem? (i := 37) rfl)) (args := #[]))) (mvT hZ (hw _ (List.mem_of_getElem? (i := 38) rfl))) (by decide) (backOf (W := 1) (r_row l Z a0 hw [] s_T s_Z s_1 m_Z k_Z h0 n0 O0 G0 z ar kk n c1 Ez Fa Fb Fc Fd Va h1c1 h2c1) hZ (hw _ (List.mem_of_getElem? (i := 38) rfl)) (hw _ (List.mem_of_getElem? (i := 2) rfl)) (by decide) (by decide)) (g := (mkF m 3 #[.val (.ref z), .val (.int c1), .val (.int c2)] [(.int c1), (.ref z), (.ref z)])) rfl (by rw [hml]; rfl) (Steps.refl _) (a := z) (by rw [e0]; exact q1) q1' (argsL := [(.int c1)]) (rest := [(.ref z)]) (lenOf pd_7 rfl) rfl (by show 2 * 0 + _ ≤ _; exact Nat.le_of_eq rfl) (hb hby d24_3) (fun _ _ => ⟨rfl, e0, (by decide : 0 + 0 ≤ _), (by decide : 0 + 0 ≤ _)⟩)
  dsimp only [Pt.U, Pt.locs, Pt.cells, Pt.slots] at X1 l1 y1 z1 st1 hQ1
  subst l1 y1 z1
  obtain ⟨rfl, N1q, e1⟩ := hQ1
  have N1 := Fr.app N0 N1q
  obtain ⟨cq2, q2, q2'⟩ := Ez.cell
  obtain ⟨_, _, ⟨T2, L2, k2, n2⟩, -, X2, ⟨Lc2, hQ2, l2, y2, z2⟩, st2⟩ := X1.privateBack hx (y := (⟨"com/example/hodos/hodos/analysis/Zone", "row", "(I)I"⟩ : MethodName)) hown (mvT hZ (hw _ (List.mem_of_getElem? (i := 35) rfl))) (mvT hZ (hw _ (List.mem_of_getElem? (i := 36) rfl))) (own_selP hZ (hw _ (List.mem_of_getElem? (i := 5) rfl)) (hw _ (List.mem_of_getElem? (i := 36) rfl)) (hw _ (List.mem_of_getElem? (i := 37) rfl)) (by decide)) (Cond.privateMethod_at (mvP hZ (hw _ (List.mem_of_getElem? (i := 37) rfl)) (args := #[]))) (mvT hZ (hw _ (List.mem_of_getElem? (i := 38) rfl))) (by decide) (backOf (W := 2) (r_row l Z a0 hw [] s_T s_Z s_1 m_Z k_Z h0 n0 O0 G0 z ar kk n c2 Ez Fa Fb Fc Fd Va h1c2 h2c2) hZ (hw _ (List.mem_of_getElem? (i := 38) rfl)) (hw _ (List.mem_of_getElem? (i := 2) rfl)) (by decide) (by decide)) (g := (mkF m 8 #[.val (.ref z), .val (.int c1), .val (.int c2)] [(.int c2), (.ref z), (.int (c1 + (1 : Int32))), (.ref z)])) rfl (by rw [hml]; rfl) (Steps.refl _) (a := z) (by rw [e1]; exact q2) q2' (argsL := [(.int c2)]) (rest := [(.int (c1 + (1 : Int32))), (.ref z)]) (lenOf pd_7 rfl) rfl (by show 2 * 0 + _ ≤ _; exact Nat.le_of_eq rfl) (hb hby d24_8) (fun _ _ => ⟨rfl, e1, (by decide : 0 + 0 ≤ _), (by decide : 0 + 0 ≤ _)⟩)
  dsimp only [Pt.U, Pt.locs, Pt.cells, Pt.slots] at X2 l2 y2 z2 st2 hQ2
  subst l2 y2 z2
  obtain ⟨rfl, N2q, e2⟩ := hQ2
  have N2 := Fr.app N1 N2q
  obtain ⟨cq3, q3, q3'⟩ := Ez.cell
  obtain ⟨_, _, ⟨T3, L3, k3, n3⟩, -, X3, ⟨Lc3, hQ3, l3, y3, z3⟩, st3⟩ := X2.privateBack hx (y := (⟨"com/example/hodos/hodos/analysis/Zone", "bound", "(II)Lcom/example/hodos/hodos/model/Time;"⟩ : MethodName)) hown (mvT hZ (hw _ (List.mem_of_getElem? (i := 47) rfl))) (mvT hZ (hw _ (List.mem_of_getElem? (i := 48) rfl))) (own_selP hZ (hw _ (List.mem_of_getElem? (i := 5) rfl)) (hw _ (List.mem_of_getElem? (i := 48) rfl)) (hw _ (List.mem_of_getElem? (i := 49) rfl)) (by decide)) (Cond.privateMethod_at (mvP hZ (hw _ (List.mem_of_getElem? (i := 49) rfl)) (args := #[]))) (mvT hZ (hw _ (List.mem_of_getElem? (i := 50) rfl))) (by decide) (backOf (W := 0) (r_b2 l Z a0 hw [] s_T s_Z s_1 m_Z k_Z h0 n0 O0 G0 z ar kk n (c1 + (1 : Int32)) (c2 + (1 : Int32)) Ez Fa Fb Fc Fd Va hi1 hi2) hZ (hw _ (List.mem_of_getElem? (i := 50) rfl)) (hw _ (List.mem_of_getElem? (i := 2) rfl)) (by decide) (by decide)) (g := (mkF m 11 #[.val (.ref z), .val (.int c1), .val (.int c2)] [(.int (c2 + (1 : Int32))), (.int (c1 + (1 : Int32))), (.ref z)])) rfl (by rw [hml]; rfl) (Steps.refl _) (a := z) (by rw [e2]; exact q3) q3' (argsL := [(.int (c1 + (1 : Int32))), (.int (c2 + (1 : Int32)))]) (rest := []) (lenOf pd_8 rfl) rfl (by show 2 * 0 + _ ≤ _; exact Nat.le_of_eq rfl) (hb hby d24_11) (fun _ _ => ⟨rfl, e2, (by decide : 0 + 1 ≤ _), (by decide : 0 + 2 ≤ _)⟩)
  dsimp only [Pt.U, Pt.locs, Pt.cells, Pt.slots] at X3 l3 y3 z3 st3 hQ3
  subst l3 y3 z3
  obtain ⟨t3, rfl, N3q, Kq3, gt3, Et3, Fn3, Fd3⟩ := hQ3
  have N3 := Fr.app N2 N3q
  have ne_z_t3 : z ≠ t3 := Nat.ne_of_lt (Nat.lt_of_lt_of_le Ez.lt gt3)
  have ne_ar_t3 : ar ≠ t3 := Nat.ne_of_lt (Nat.lt_of_lt_of_le Va.lt gt3)
  have ne_s_T_t3 : s_T ≠ t3 := Nat.ne_of_lt (Nat.lt_of_lt_of_le (E_T.ext O0.2).lt gt3)
  have ne_s_Z_t3 : s_Z ≠ t3 := Nat.ne_of_lt (Nat.lt_of_lt_of_le (E_Z.ext O0.2).lt gt3)
  have ne_s_1_t3 : s_1 ≠ t3 := Nat.ne_of_lt (Nat.lt_of_lt_of_le (E_1.ext O0.2).lt gt3)
  have g_t3 : n0 ≤ t3 := Nat.le_trans (O0.1 ▸ O0.2.1) gt3
  have sz_t3 : h0.size ≤ t3 := Nat.le_trans (Keep.refl h0 []).1 gt3
  have f4 := Ez.keep Kq3
  have f5 := Va.keep Kq3 (fun q => nomatch q)
  have f6 := Fa.keep Kq3 (fun q => nomatch q)
  have f7 := Fb.keep Kq3 (fun q => nomatch q)
  have f8 := Fc.keep Kq3 (fun q => nomatch q)
  have f9 := Fd.keep Kq3 (fun q => nomatch q)
  have O3 := O0.keep Kq3 all0
  have K3 : Keep h0 T3.heap [] := (Keep.refl h0 []).trans Kq3 all0
  obtain ⟨fs, hr, hrun, hended, hW, hsame⟩ := X3.leave (v := some (.ref t3)) (fun h => by rw [Bd.returns] at h; cases h)
  refine ⟨_, _, pre0 _ ?_, hrun, hended, _, _, rfl, ?_, ⟨_, rfl⟩, hW, hsame.mono (by decide) (by decide)⟩
  · show Steps p.tables e below (s₁.setTop (mkF m 0 #[.val (.ref z), .val (.int c1), .val (.int c2)] [])) _
    refine XS.aloadN X0.here hx rfl (hb hby d24_0) rfl rfl ?_
    show Steps p.tables e below (s₁.setTop (mkF m 1 #[.val (.ref z), .val (.int c1), .val (.int c2)] [(.ref z)])) _
    refine XS.aloadN X0.here hx rfl (hb hby d24_1) rfl rfl ?_
    show Steps p.tables e below (s₁.setTop (mkF m 2 #[.val (.ref z), .val (.int c1), .val (.int c2)] [(.ref z), (.ref z)])) _
    refine XS.iloadN X0.here hx rfl (hb hby d24_2) rfl ?_
    show Steps p.tables e below (s₁.setTop (mkF m 3 #[.val (.ref z), .val (.int c1), .val (.int c2)] [(.int c1), (.ref z), (.ref z)])) _
    refine st1.trans ?_
    show Steps p.tables e below (T1.setTop (mkF m 6 #[.val (.ref z), .val (.int c1), .val (.int c2)] [(.int (c1 + (1 : Int32))), (.ref z)])) _
    refine XS.aloadN X1.here hx rfl (hb hby d24_6) rfl rfl ?_
    show Steps p.tables e below (T1.setTop (mkF m 7 #[.val (.ref z), .val (.int c1), .val (.int c2)] [(.ref z), (.int (c1 + (1 : Int32))), (.ref z)])) _
    refine XS.iloadN X1.here hx rfl (hb hby d24_7) rfl ?_
    show Steps p.tables e below (T1.setTop (mkF m 8 #[.val (.ref z), .val (.int c1), .val (.int c2)] [(.int c2), (.ref z), (.int (c1 + (1 : Int32))), (.ref z)])) _
    refine st2.trans ?_
    show Steps p.tables e below (T2.setTop (mkF m 11 #[.val (.ref z), .val (.int c1), .val (.int c2)] [(.int (c2 + (1 : Int32))), (.int (c1 + (1 : Int32))), (.ref z)])) _
    refine st3.trans ?_
    show Steps p.tables e below (T3.setTop (mkF m 14 #[.val (.ref z), .val (.int c1), .val (.int c2)] [(.ref t3)])) _
    exact retOut X3 hx Bd.returns rfl (Or.inr (Or.inr (Or.inr (Or.inr ⟨rfl, rfl, rfl⟩)))) (hb hby d24_14) hr
  · show own_Qt Z s_Z s_1 h0 n0 _ T3.heap _
    exact ⟨t3, rfl, N3, K3, sz_t3, Et3, Fn3, Fd3⟩
def own_QbI (Z : State) (a1 m_Z : Addr) (h0 : Heap) (n0 : Nat) (v : Option Value) (h : Heap) (L : List Loc) : Prop := v = none ∧ Fr n0 L ∧ Keep h0 h [a1] ∧ (Fld Z h a1 "java/math/BigInteger" "signum" "I" (.int (0 : Int32)))
theorem d22_0 : decode jdk_18_method_1_code 0 = .ok (.aload_n 0, 1) := by decide +kernel
theorem d22_1 : decode jdk_18_method_1_code 1 = .ok (.invokespecial 1, 3) := by decide +kernel
theorem d22_4 : decode jdk_18_method_1_code 4 = .ok (.return_, 1) := by decide +kernel
theorem ef_22_13 (m : MethodId) (x0 : Addr) : entryFrame m #[(.ref x0)] 1 = mkF m 0 #[.val (.ref x0)] [] := by first | (simp [entryFrame, mkF, argsToLocals, Value.category]; done) | rfl
theorem pn_5 : plainName "java/lang/Number" = true := by first | (simp [plainName, overriddenIn]; done) | decide +kernel
set_option maxRecDepth 65536 in
set_option maxHeartbeats 40000000 in
theorem r_num (l : Launch) (Z : State) (a0 : Array Value) (hw : ∀ d ∈ tables_1, d.before a0 Z = true) (ws : List Jvm.Cond) (s_T s_Z s_1 m_Z : Addr) (k_Z : ClassId) (h0 : Heap) (n0 : Nat) (O0 : Old Z n0 h0) (G : own_Ctx Z Z.heap s_T s_Z s_1 m_Z k_Z) (a1 : Addr)  :
    MetFree l (⟨"java/lang/Number", "<init>", "()V"⟩ : MethodName) (head1 (Jvm.Cond.code (⟨"java/lang/Number", "<init>", "()V"⟩ : MethodName) jdk_18_method_1_code 1 none :: ws) ({ frames := 1, cells := 0, slots := 0, locals := 12 } : Room)) (fun a U => a = #[(.ref a1)] ∧ Z.Warmed39 U.vm ∧ U.heap = h0) (fun _ _ _ _ _ => True) (fun _ U o U' => ∃ v L, o = .returned v ∧ own_Q (none) h0 n0 v U'.heap L ∧ FrameEnd U o U' L ({ frames := 1, cells := 0, slots := 0, locals := 12 } : Room).cells ({ frames := 1, cells := 0, slots := 0, locals := 12 } : Room).slots) := by
  have G0 := G
  obtain ⟨S_T, E_T, N_T, D_T, S_Z, E_Z, G_Z, M_Z, V_Z, S_1, E_1, G_1⟩ := G
  refine MetFree.of_bodySF (plainFor_of_name pn_5) hisR ?_
  intro p e s m args below meth c s₁ Bd hml0 hP hK
  obtain ⟨rfl, hZ, hh⟩ := hP
  have hx := Bd.exec
  have hby := Bd.bytes
  have hml : c.maxLocals = 1 := hml0
  have hown : s.vm.findClass "java/lang/Number" = some m.cls := findClass_of_methodNamed Bd.named
  have hnm := (name_of_methodNamed Bd.named Bd.method).1
  have X0 : Stand p l e ({ frames := 1, cells := 0, slots := 0, locals := 12 } : Room) s m #[(.ref a1)] below meth c s₁ [] 0 0 := Stand.of_body Bd
  have e0 : s₁.heap = h0 := by rw [← hh, Bd.state]; rfl
  have N0 := Fr.nil n0
  have pre0 : ∀ t, Steps p.tables e below (s₁.setTop (mkF m 0 #[.val (.ref a1)] [])) t → Steps p.tables e below (s₁.setTop (entryFrame m #[(.ref a1)] 1)) t := fun t k => castTop (ef_22_13 m a1) k
  obtain ⟨T1, X1, e1, st1⟩ := initO X0 hx hZ hown (hw _ (List.mem_of_getElem? (i := 128) rfl)) (hw _ (List.mem_of_getElem? (i := 11) rfl)) (hw _ (List.mem_of_getElem? (i := 12) rfl)) e0 (g := (mkF m 1 #[.val (.ref a1)] [(.ref a1)])) rfl (by rw [hml]; rfl) rfl (hb hby d22_1) (by decide) (W := 0) (by show 2 * 0 + _ ≤ _; exact Nat.le_of_eq rfl) (by decide)
  obtain ⟨fs, hr, hrun, hended, hW, hsame⟩ := X1.leave (v := none) (fun _ => rfl)
  refine ⟨_, _, pre0 _ ?_, hrun, hended, _, _, rfl, ?_, ⟨_, rfl⟩, hW, hsame.mono (by decide) (by decide)⟩
  · show Steps p.tables e below (s₁.setTop (mkF m 0 #[.val (.ref a1)] [])) _
    refine XS.aloadN X0.here hx rfl (hb hby d22_0) rfl rfl ?_
    show Steps p.tables e below (s₁.setTop (mkF m 1 #[.val (.ref a1)] [(.ref a1)])) _
    refine st1 _ ?_
    show Steps p.tables e below (T1.setTop (mkF m 4 #[.val (.ref a1)] [])) _
    exact X1.returnOut hx Bd.returns (hb hby d22_4) hr
  · show own_Q (none) h0 n0 _ T1.heap _
    rw [e1]
    exact ⟨rfl, N0, rfl⟩
theorem d21_0 : decode jdk_2097_method_25_code 0 = .ok (.aload_n 0, 1) := by decide +kernel
theorem d21_1 : decode jdk_2097_method_25_code 1 = .ok (.invokespecial 3, 3) := by decide +kernel
theorem pd_9 : parseMethodDescriptor "()V" = some ⟨[], none⟩ := by decide +kernel
theorem d21_4 : decode jdk_2097_method_25_code 4 = .ok (.aload_n 0, 1) := by decide +kernel
theorem d21_5 : decode jdk_2097_method_25_code 5 = .ok (.aload_n 1, 1) := by decide +kernel
theorem d21_6 : decode jdk_2097_method_25_code 6 = .ok (.arraylength, 1) := by decide +kernel
theorem d21_7 : decode jdk_2097_method_25_code 7 = .ok (.ifCond .ne 7, 3) := by decide +kernel
theorem d21_10 : decode jdk_2097_method_25_code 10 = .ok (.iconst 0, 1) := by decide +kernel
theorem d21_11 : decode jdk_2097_method_25_code 11 = .ok (.goto 4, 3) := by decide +kernel
theorem d21_15 : decode jdk_2097_method_25_code 15 = .ok (.putfield 32, 3) := by decide +kernel
theorem d21_18 : decode jdk_2097_method_25_code 18 = .ok (.aload_n 0, 1) := by decide +kernel
theorem d21_19 : decode jdk_2097_method_25_code 19 = .ok (.aload_n 1, 1) := by decide +kernel
theorem d21_20 : decode jdk_2097_method_25_code 20 = .ok (.putfield 28, 3) := by decide +kernel
theorem d21_23 : decode jdk_2097_method_25_code 23 = .ok (.aload_n 0, 1) := by decide +kernel
theorem d21_24 : decode jdk_2097_method_25_code 24 = .ok (.getfield 28, 3) := by decide +kernel
theorem d21_27 : decode jdk_2097_method_25_code 27 = .ok (.arraylength, 1) := by decide +kernel
theorem d21_28 : decode jdk_2097_method_25_code 28 = .ok (.ldc 43, 2) := by decide +kernel
theorem d21_30 : decode jdk_2097_method_25_code 30 = .ok (.if_icmp .lt 7, 3) := by decide +kernel
theorem d21_37 : decode jdk_2097_method_25_code 37 = .ok (.return_, 1) := by decide +kernel
theorem ef_21_14 (m : MethodId) (x0 : Addr) (x1 : Addr) (x2 : Int32) : entryFrame m #[(.ref x0), (.ref x1), (.int x2)] 3 = mkF m 0 #[.val (.ref x0), .val (.ref x1), .val (.int x2)] [] := by first | (simp [entryFrame, mkF, argsToLocals, Value.category]; done) | rfl
set_option maxRecDepth 65536 in
set_option maxHeartbeats 40000000 in
theorem r_binit (l : Launch) (Z : State) (a0 : Array Value) (hw : ∀ d ∈ tables_1, d.before a0 Z = true) (ws : List Jvm.Cond) (s_T s_Z s_1 m_Z : Addr) (k_Z : ClassId) (h0 : Heap) (n0 : Nat) (O0 : Old Z n0 h0) (G : own_Ctx Z Z.heap s_T s_Z s_1 m_Z k_Z) (a1 : Addr) (p2 : Int32) (Ea : Exa Z h0 a1 "java/math/BigInteger") (ga : n0 ≤ a1) (Fs : Fld Z h0 a1 "java/math/BigInteger" "signum" "I" (.int (0 : Int32))) (Fm : Fld Z h0 a1 "java/math/BigInteger" "mag" "[I" .null) :
    MetFree l (⟨"java/math/BigInteger", "<init>", "([II)V"⟩ : MethodName) (head1 (Jvm.Cond.code (⟨"java/math/BigInteger", "<init>", "([II)V"⟩ : MethodName) jdk_2097_method_25_code 3 none :: ws) ({ frames := 2, cells := 0, slots := 0, locals := 24 } : Room)) (fun a U => a = #[(.ref a1), (.ref m_Z), (.int p2)] ∧ Z.Warmed39 U.vm ∧ U.heap = h0) (fun _ _ _ _ _ => True) (fun _ U o U' => ∃ v L, o = .returned v ∧ own_QbI Z a1 m_Z h0 n0 v U'.heap L ∧ FrameEnd U o U' L ({ frames := 2, cells := 0, slots := 0, locals := 24 } : Room).cells ({ frames := 2, cells := 0, slots := 0, locals := 24 } : Room).slots) := by
  have G0 := G
  obtain ⟨S_T, E_T, N_T, D_T, S_Z, E_Z, G_Z, M_Z, V_Z, S_1, E_1, G_1⟩ := G
  refine MetFree.of_bodySF (plainFor_of_name pn_4) hisR ?_
  intro p e s m args below meth c s₁ Bd hml0 hP hK
  obtain ⟨rfl, hZ, hh⟩ := hP
  have hx := Bd.exec
  have hby := Bd.bytes
  have hml : c.maxLocals = 3 := hml0
  have hown : s.vm.findClass "java/math/BigInteger" = some m.cls := findClass_of_methodNamed Bd.named
  have hnm := (name_of_methodNamed Bd.named Bd.method).1
  have X0 : Stand p l e ({ frames := 2, cells := 0, slots := 0, locals := 24 } : Room) s m #[(.ref a1), (.ref m_Z), (.int p2)] below meth c s₁ [] 0 0 := Stand.of_body Bd
  have e0 : s₁.heap = h0 := by rw [← hh, Bd.state]; rfl
  have N0 := Fr.nil n0
  have pre0 : ∀ t, Steps p.tables e below (s₁.setTop (mkF m 0 #[.val (.ref a1), .val (.ref m_Z), .val (.int p2)] [])) t → Steps p.tables e below (s₁.setTop (entryFrame m #[(.ref a1), (.ref m_Z), (.int p2)] 3)) t := fun t k => castTop (ef_21_14 m a1 m_Z p2) k
  obtain ⟨_, _, ⟨T1, L1, k1, n1⟩, -, X1, ⟨Lc1, hQ1, l1, y1, z1⟩, st1⟩ := X0.specialBack hx (y := (⟨"java/lang/Number", "<init>", "()V"⟩ : MethodName)) rfl hown (mvT hZ (hw _ (List.mem_of_getElem? (i := 122) rfl))) (mvT hZ (hw _ (List.mem_of_getElem? (i := 123) rfl))) (mvT hZ (hw _ (List.mem_of_getElem? (i := 127) rfl))) (by decide) (backOf (W := 0) (r_num l Z a0 hw [] s_T s_Z s_1 m_Z k_Z h0 n0 O0 G0 a1) hZ (hw _ (List.mem_of_getElem? (i := 127) rfl)) (hw _ (List.mem_of_getElem? (i := 126) rfl)) (by decide) (by decide)) (g := (mkF m 1 #[.val (.ref a1), .val (.ref m_Z), .val (.int p2)] [(.ref a1)])) rfl (by rw [hml]; rfl) (Steps.refl _) (a := a1) (argsL := []) (rest := []) (lenOf pd_9 rfl) rfl (by show 2 * 0 + _ ≤ _; exact Nat.le_of_eq rfl) (hb hby d21_1) (fun _ _ => ⟨rfl, e0, (by decide : 0 + 0 ≤ _), (by decide : 0 + 0 ≤ _)⟩)
  dsimp only [Pt.U, Pt.locs, Pt.cells, Pt.slots] at X1 l1 y1 z1 st1 hQ1
  subst l1 y1 z1
  obtain ⟨rfl, N1q, e1⟩ := hQ1
  have N1 := Fr.app N0 N1q
  have vc2 := (V_Z.ext O0.2)
  obtain ⟨cl2, Ar2, q2, S2, Nn2, Hs2, Gf2⟩ := vc2
  obtain ⟨T3, h3, X3, e3, W3, st3⟩ := putF X1 hx hZ hown (host := "") (Or.inl (hw _ (List.mem_of_getElem? (i := 107) rfl))) Via.refl e1 Fs Ea (Or.inr ⟨(hw _ (List.mem_of_getElem? (i := 108) rfl)), rfl, hnm⟩) (hw _ (List.mem_of_getElem? (i := 115) rfl)) (ty := .int) (by decide) rfl rfl (g := (mkF m 15 #[.val (.ref a1), .val (.ref m_Z), .val (.int p2)] [(.int (0 : Int32)), (.ref a1)])) rfl rfl (hb hby d21_15)
  have f4 := Ea.wr W3
  have f5 := Fm.other W3 (Or.inr (slot_ne (Or.inr (hw _ (List.mem_of_getElem? (i := 117) rfl))) (Or.inr (hw _ (List.mem_of_getElem? (i := 108) rfl))) (by decide) (t := (.array .int)) (t' := .int) (by decide) (by decide)))
  have O3 := O0.wr W3 ga
  have K3 : Keep h0 h3 [a1] := (Keep.refl h0 [a1]).wr W3 (Or.inl (List.mem_of_getElem? (i := 0) rfl))
  have N3 := Fr.snoc X3 N1 ga
  have f6 := Fs.same W3
  obtain ⟨T7, h7, X7, e7, W7, st7⟩ := putF X3 hx hZ hown (host := "") (Or.inl (hw _ (List.mem_of_getElem? (i := 116) rfl))) Via.refl e3 f5 f4 (Or.inr ⟨(hw _ (List.mem_of_getElem? (i := 117) rfl)), rfl, hnm⟩) (hw _ (List.mem_of_getElem? (i := 115) rfl)) (ty := (.array .int)) (by decide) rfl rfl (g := (mkF m 20 #[.val (.ref a1), .val (.ref m_Z), .val (.int p2)] [(.ref m_Z), (.ref a1)])) rfl rfl (hb hby d21_20)
  have f8 := f4.wr W7
  have f9 := f6.other W7 (Or.inr (slot_ne (Or.inr (hw _ (List.mem_of_getElem? (i := 108) rfl))) (Or.inr (hw _ (List.mem_of_getElem? (i := 117) rfl))) (by decide) (t := .int) (t' := (.array .int)) (by decide) (by decide)))
  have O7 := O3.wr W7 ga
  have K7 : Keep h0 h7 [a1] := K3.wr W7 (Or.inl (List.mem_of_getElem? (i := 0) rfl))
  have N7 := Fr.snoc X7 N3 ga
  have f10 := f5.same W7
  obtain ⟨T11, X11, e11, st11⟩ := getF X7 hx hZ hown (host := "") (Or.inl (hw _ (List.mem_of_getElem? (i := 116) rfl))) Via.refl e7 f10 (g := (mkF m 24 #[.val (.ref a1), .val (.ref m_Z), .val (.int p2)] [(.ref a1)])) rfl rfl (hb hby d21_24)
  have vc12 := (V_Z.ext O7.2)
  obtain ⟨cl12, Ar12, q12, S12, Nn12, Hs12, Gf12⟩ := vc12
  obtain ⟨fs, hr, hrun, hended, hW, hsame⟩ := X11.leave (v := none) (fun _ => rfl)
  refine ⟨_, _, pre0 _ ?_, hrun, hended, _, _, rfl, ?_, ⟨_, rfl⟩, hW, hsame.mono (by decide) (by decide)⟩
  · show Steps p.tables e below (s₁.setTop (mkF m 0 #[.val (.ref a1), .val (.ref m_Z), .val (.int p2)] [])) _
    refine XS.aloadN X0.here hx rfl (hb hby d21_0) rfl rfl ?_
    show Steps p.tables e below (s₁.setTop (mkF m 1 #[.val (.ref a1), .val (.ref m_Z), .val (.int p2)] [(.ref a1)])) _
    refine st1.trans ?_
    show Steps p.tables e below (T1.setTop (mkF m 4 #[.val (.ref a1), .val (.ref m_Z), .val (.int p2)] [])) _
    refine XS.aloadN X1.here hx rfl (hb hby d21_4) rfl rfl ?_
    show Steps p.tables e below (T1.setTop (mkF m 5 #[.val (.ref a1), .val (.ref m_Z), .val (.int p2)] [(.ref a1)])) _
    refine XS.aloadN X1.here hx rfl (hb hby d21_5) rfl rfl ?_
    show Steps p.tables e below (T1.setTop (mkF m 6 #[.val (.ref a1), .val (.ref m_Z), .val (.int p2)] [(.ref m_Z), (.ref a1)])) _
    refine X1.arraylength hx (by rw [e1]; exact Ar2.1) (State.isArrayOf_alike hZ.alike Ar2.2.1) (g := (mkF m 6 #[.val (.ref a1), .val (.ref m_Z), .val (.int p2)] [(.ref m_Z), (.ref a1)])) rfl rfl (hb hby d21_6) _ ?_
    rw [len_of S2 Nn2]
    show Steps p.tables e below (T1.setTop (mkF m 7 #[.val (.ref a1), .val (.ref m_Z), .val (.int p2)] [(.int (0 : Int32)), (.ref a1)])) _
    refine XS.ifNo X1.here hx rfl (hb hby d21_7) rfl ((if0 _ _).trans (teq (by decide : (0 : Int32) = (0 : Int32))).2) ?_
    show Steps p.tables e below (T1.setTop (mkF m 10 #[.val (.ref a1), .val (.ref m_Z), .val (.int p2)] [(.ref a1)])) _
    refine XS.iconst X1.here hx rfl (hb hby d21_10) ?_
    show Steps p.tables e below (T1.setTop (mkF m 11 #[.val (.ref a1), .val (.ref m_Z), .val (.int p2)] [(.int (0 : Int32)), (.ref a1)])) _
    refine XS.goto X1.here hx rfl (pc0 := 11) (pc' := 15) rfl (hb hby d21_11) (by decide) (by decide) ?_
    show Steps p.tables e below (T1.setTop (mkF m 15 #[.val (.ref a1), .val (.ref m_Z), .val (.int p2)] [(.int (0 : Int32)), (.ref a1)])) _
    refine st3 _ ?_
    show Steps p.tables e below (T3.setTop (mkF m 18 #[.val (.ref a1), .val (.ref m_Z), .val (.int p2)] [])) _
    refine XS.aloadN X3.here hx rfl (hb hby d21_18) rfl rfl ?_
    show Steps p.tables e below (T3.setTop (mkF m 19 #[.val (.ref a1), .val (.ref m_Z), .val (.int p2)] [(.ref a1)])) _
    refine XS.aloadN X3.here hx rfl (hb hby d21_19) rfl rfl ?_
    show Steps p.tables e below (T3.setTop (mkF m 20 #[.val (.ref a1), .val (.ref m_Z), .val (.int p2)] [(.ref m_Z), (.ref a1)])) _
    refine st7 _ ?_
    show Steps p.tables e below (T7.setTop (mkF m 23 #[.val (.ref a1), .val (.ref m_Z), .val (.int p2)] [])) _
    refine XS.aloadN X7.here hx rfl (hb hby d21_23) rfl rfl ?_
    show Steps p.tables e below (T7.setTop (mkF m 24 #[.val (.ref a1), .val (.ref m_Z), .val (.int p2)] [(.ref a1)])) _
    refine st11 _ ?_
    show Steps p.tables e below (T11.setTop (mkF m 27 #[.val (.ref a1), .val (.ref m_Z), .val (.int p2)] [(.ref m_Z)])) _
    refine X11.arraylength hx (by rw [e11]; exact Ar12.1) (State.isArrayOf_alike hZ.alike Ar12.2.1) (g := (mkF m 27 #[.val (.ref a1), .val (.ref m_Z), .val (.int p2)] [(.ref m_Z)])) rfl rfl (hb hby d21_27) _ ?_
    rw [len_of S12 Nn12]
    show Steps p.tables e below (T11.setTop (mkF m 28 #[.val (.ref a1), .val (.ref m_Z), .val (.int p2)] [(.int (0 : Int32))])) _
    refine X11.ldcInt hx hown (mvT hZ (hw _ (List.mem_of_getElem? (i := 129) rfl))) (g := (mkF m 28 #[.val (.ref a1), .val (.ref m_Z), .val (.int p2)] [(.int (0 : Int32))])) rfl (hb hby d21_28) _ ?_
    show Steps p.tables e below (T11.setTop (mkF m 30 #[.val (.ref a1), .val (.ref m_Z), .val (.int p2)] [(.int (67108864 : Int32)), (.int (0 : Int32))])) _
    refine XS.icmpYes X11.here hx rfl (pc0 := 30) (pc' := 37) rfl (hb hby d21_30) rfl (tlt (by decide : (0 : Int32) < (67108864 : Int32))).1 (by decide) (by decide) ?_
    show Steps p.tables e below (T11.setTop (mkF m 37 #[.val (.ref a1), .val (.ref m_Z), .val (.int p2)] [])) _
    exact X11.returnOut hx Bd.returns (hb hby d21_37) hr
  · show own_QbI Z a1 m_Z h0 n0 _ T11.heap _
    rw [e11]
    exact ⟨rfl, N7, K7, f9⟩
def own_Qb (Z : State) (h0 : Heap) (n0 : Nat) (v : Option Value) (h : Heap) (L : List Loc) : Prop := ∃ t : Addr, v = some (.ref t) ∧ Fr n0 L ∧ Keep h0 h [] ∧ h0.size ≤ t ∧ (Exa Z h t "java/math/BigInteger") ∧ (Fld Z h t "java/math/BigInteger" "signum" "I" (.int (0 : Int32)))
theorem d20_0 : decode jdk_2097_method_80_code 0 = .ok (.new 23, 3) := by decide +kernel
theorem d20_3 : decode jdk_2097_method_80_code 3 = .ok (.dup, 1) := by decide +kernel
theorem d20_4 : decode jdk_2097_method_80_code 4 = .ok (.aload_n 0, 1) := by decide +kernel
theorem d20_5 : decode jdk_2097_method_80_code 5 = .ok (.getfield 28, 3) := by decide +kernel
theorem d20_8 : decode jdk_2097_method_80_code 8 = .ok (.aload_n 0, 1) := by decide +kernel
theorem d20_9 : decode jdk_2097_method_80_code 9 = .ok (.getfield 32, 3) := by decide +kernel
theorem d20_12 : decode jdk_2097_method_80_code 12 = .ok (.ineg, 1) := by decide +kernel
theorem d20_13 : decode jdk_2097_method_80_code 13 = .ok (.invokespecial 175, 3) := by decide +kernel
theorem pd_10 : parseMethodDescriptor "([II)V" = some ⟨[(.array .int), .int], none⟩ := by decide +kernel
theorem d20_16 : decode jdk_2097_method_80_code 16 = .ok (.areturn, 1) := by decide +kernel
theorem ef_20_15 (m : MethodId) (x0 : Addr) : entryFrame m #[(.ref x0)] 1 = mkF m 0 #[.val (.ref x0)] [] := by first | (simp [entryFrame, mkF, argsToLocals, Value.category]; done) | rfl
set_option maxRecDepth 65536 in
set_option maxHeartbeats 40000000 in
theorem r_neg (l : Launch) (Z : State) (a0 : Array Value) (hw : ∀ d ∈ tables_1, d.before a0 Z = true) (ws : List Jvm.Cond) (s_T s_Z s_1 m_Z : Addr) (k_Z : ClassId) (h0 : Heap) (n0 : Nat) (O0 : Old Z n0 h0) (G : own_Ctx Z Z.heap s_T s_Z s_1 m_Z k_Z)   :
    MetFree l (⟨"java/math/BigInteger", "negate", "()Ljava/math/BigInteger;"⟩ : MethodName) (head1 (Jvm.Cond.code (⟨"java/math/BigInteger", "negate", "()Ljava/math/BigInteger;"⟩ : MethodName) jdk_2097_method_80_code 1 (some (.object "java/math/BigInteger")) :: ws) ({ frames := 3, cells := 1, slots := 6, locals := 39 } : Room)) (fun a U => a = #[(.ref s_Z)] ∧ Z.Warmed39 U.vm ∧ U.heap = h0) (fun _ _ _ _ _ => True) (fun _ U o U' => ∃ v L, o = .returned v ∧ own_Qb Z h0 n0 v U'.heap L ∧ FrameEnd U o U' L ({ frames := 3, cells := 1, slots := 6, locals := 39 } : Room).cells ({ frames := 3, cells := 1, slots := 6, locals := 39 } : Room).slots) := by
  have G0 := G
  obtain ⟨S_T, E_T, N_T, D_T, S_Z, E_Z, G_Z, M_Z, V_Z, S_1, E_1, G_1⟩ := G
  refine MetFree.of_bodySF (plainFor_of_name pn_4) hisR ?_
  intro p e s m args below meth c s₁ Bd hml0 hP hK
  obtain ⟨rfl, hZ, hh⟩ := hP
  have hx := Bd.exec
  have hby := Bd.bytes
  have hml : c.maxLocals = 1 := hml0
  have hown : s.vm.findClass "java/math/BigInteger" = some m.cls := findClass_of_methodNamed Bd.named
  have hnm := (name_of_methodNamed Bd.named Bd.method).1
  have X0 : Stand p l e ({ frames := 3, cells := 1, slots := 6, locals := 39 } : Room) s m #[(.ref s_Z)] below meth c s₁ [] 0 0 := Stand.of_body Bd
  have e0 : s₁.heap = h0 := by rw [← hh, Bd.state]; rfl
  have N0 := Fr.nil n0
  have pre0 : ∀ t, Steps p.tables e below (s₁.setTop (mkF m 0 #[.val (.ref s_Z)] [])) t → Steps p.tables e below (s₁.setTop (entryFrame m #[(.ref s_Z)] 1)) t := fun t k => castTop (ef_20_15 m s_Z) k
  obtain ⟨T1, h1, X1, e1, E1, A1, D1, -, st1⟩ := newO X0 hx hZ hown (hw _ (List.mem_of_getElem? (i := 114) rfl)) (hw _ (List.mem_of_getElem? (i := 115) rfl)) (hw _ (List.mem_of_getElem? (i := 63) rfl)) e0 (g := (mkF m 0 #[.val (.ref s_Z)] [])) rfl (hb hby d20_0) (by decide) (by decide)
  obtain ⟨b1, g1⟩ : ∃ z, z = h0.size := ⟨_, rfl⟩
  have ne_s_T_b1 : s_T ≠ b1 := Nat.ne_of_lt (Nat.lt_of_lt_of_le (E_T.ext O0.2).lt (Nat.le_of_eq g1.symm))
  have ne_s_Z_b1 : s_Z ≠ b1 := Nat.ne_of_lt (Nat.lt_of_lt_of_le (E_Z.ext O0.2).lt (Nat.le_of_eq g1.symm))
  have ne_s_1_b1 : s_1 ≠ b1 := Nat.ne_of_lt (Nat.lt_of_lt_of_le (E_1.ext O0.2).lt (Nat.le_of_eq g1.symm))
  have g_b1 : n0 ≤ b1 := Nat.le_trans (O0.1 ▸ O0.2.1) (Nat.le_of_eq g1.symm)
  have sz_b1 : h0.size ≤ b1 := Nat.le_trans (Keep.refl h0 []).1 (Nat.le_of_eq g1.symm)
  rw [← g1] at A1 D1 st1
  have O1 := O0.ext E1
  have K1 : Keep h0 h1 [] := (Keep.refl h0 []).ext E1
  have F1_108 : Fld Z h1 b1 "java/math/BigInteger" "signum" "I" (.int (0 : Int32)) := D1 (Or.inr (hw _ (List.mem_of_getElem? (i := 108) rfl))) (ty := .int) (by decide)
  have F1_117 : Fld Z h1 b1 "java/math/BigInteger" "mag" "[I" .null := D1 (Or.inr (hw _ (List.mem_of_getElem? (i := 117) rfl))) (ty := (.array .int)) (by decide)
  obtain ⟨T2, X2, e2, st2⟩ := getF X1 hx hZ hown (host := "") (Or.inl (hw _ (List.mem_of_getElem? (i := 116) rfl))) Via.refl e1 (M_Z.ext O1.2) (g := (mkF m 5 #[.val (.ref s_Z)] [(.ref s_Z), (.ref b1), (.ref b1)])) rfl rfl (hb hby d20_5)
  obtain ⟨T3, X3, e3, st3⟩ := getF X2 hx hZ hown (host := "") (Or.inl (hw _ (List.mem_of_getElem? (i := 107) rfl))) Via.refl e2 (G_Z.ext O1.2) (g := (mkF m 9 #[.val (.ref s_Z)] [(.ref s_Z), (.ref m_Z), (.ref b1), (.ref b1)])) rfl rfl (hb hby d20_9)
  obtain ⟨_, _, ⟨T4, L4, k4, n4⟩, -, X4, ⟨Lc4, hQ4, l4, y4, z4⟩, st4⟩ := X3.specialBack hx (y := (⟨"java/math/BigInteger", "<init>", "([II)V"⟩ : MethodName)) rfl hown (mvT hZ (hw _ (List.mem_of_getElem? (i := 118) rfl))) (mvT hZ (hw _ (List.mem_of_getElem? (i := 119) rfl))) (mvT hZ (hw _ (List.mem_of_getElem? (i := 121) rfl))) (by decide) (backOf (W := 1) (r_binit l Z a0 hw [] s_T s_Z s_1 m_Z k_Z h1 n0 O1 G0 b1 (-(0 : Int32)) A1 g_b1 F1_108 F1_117) hZ (hw _ (List.mem_of_getElem? (i := 121) rfl)) (hw _ (List.mem_of_getElem? (i := 63) rfl)) (by decide) (by decide)) (g := (mkF m 13 #[.val (.ref s_Z)] [(.int (-(0 : Int32))), (.ref m_Z), (.ref b1), (.ref b1)])) rfl (by rw [hml]; rfl) (Steps.refl _) (a := b1) (argsL := [(.ref m_Z), (.int (-(0 : Int32)))]) (rest := [(.ref b1)]) (lenOf pd_10 rfl) rfl (by show 2 * 0 + _ ≤ _; exact Nat.le_of_eq rfl) (hb hby d20_13) (fun _ _ => ⟨rfl, e3, (by decide : 1 + 0 ≤ _), (by decide : 6 + 0 ≤ _)⟩)
  dsimp only [Pt.U, Pt.locs, Pt.cells, Pt.slots] at X4 l4 y4 z4 st4 hQ4
  subst l4 y4 z4
  obtain ⟨rfl, N4q, Kq4, Fs4⟩ := hQ4
  have N4 := Fr.app N0 N4q
  have f5 := A1.keep Kq4
  have O4 := O1.keep Kq4 (allS g_b1 all0)
  have K4 : Keep h0 T4.heap [] := K1.trans Kq4 (allS (Or.inr sz_b1) all0)
  obtain ⟨fs, hr, hrun, hended, hW, hsame⟩ := X4.leave (v := some (.ref b1)) (fun h => by rw [Bd.returns] at h; cases h)
  refine ⟨_, _, pre0 _ ?_, hrun, hended, _, _, rfl, ?_, ⟨_, rfl⟩, hW, hsame.mono (by decide) (by decide)⟩
  · show Steps p.tables e below (s₁.setTop (mkF m 0 #[.val (.ref s_Z)] [])) _
    refine st1 _ ?_
    show Steps p.tables e below (T1.setTop (mkF m 3 #[.val (.ref s_Z)] [(.ref b1)])) _
    refine XS.dup X1.here hx rfl (hb hby d20_3) rfl rfl ?_
    show Steps p.tables e below (T1.setTop (mkF m 4 #[.val (.ref s_Z)] [(.ref b1), (.ref b1)])) _
    refine XS.aloadN X1.here hx rfl (hb hby d20_4) rfl rfl ?_
    show Steps p.tables e below (T1.setTop (mkF m 5 #[.val (.ref s_Z)] [(.ref s_Z), (.ref b1), (.ref b1)])) _
    refine st2 _ ?_
    show Steps p.tables e below (T2.setTop (mkF m 8 #[.val (.ref s_Z)] [(.ref m_Z), (.ref b1), (.ref b1)])) _
    refine XS.aloadN X2.here hx rfl (hb hby d20_8) rfl rfl ?_
    show Steps p.tables e below (T2.setTop (mkF m 9 #[.val (.ref s_Z)] [(.ref s_Z), (.ref m_Z), (.ref b1), (.ref b1)])) _
    refine st3 _ ?_
    show Steps p.tables e below (T3.setTop (mkF m 12 #[.val (.ref s_Z)] [(.int (0 : Int32)), (.ref m_Z), (.ref b1), (.ref b1)])) _
    refine XS.ineg X3.here hx rfl (hb hby d20_12) rfl ?_
    show Steps p.tables e below (T3.setTop (mkF m 13 #[.val (.ref s_Z)] [(.int (-(0 : Int32))), (.ref m_Z), (.ref b1), (.ref b1)])) _
    refine st4.trans ?_
    show Steps p.tables e below (T4.setTop (mkF m 16 #[.val (.ref s_Z)] [(.ref b1)])) _
    exact retOut X4 hx Bd.returns rfl (Or.inr (Or.inr (Or.inr (Or.inr ⟨rfl, rfl, rfl⟩)))) (hb hby d20_16) hr
  · show own_Qb Z h0 n0 _ T4.heap _
    exact ⟨b1, rfl, N4, K4, sz_b1, f5, Fs4⟩
theorem d19_0 : decode jdk_2097_method_81_code 0 = .ok (.aload_n 0, 1) := by decide +kernel
theorem d19_1 : decode jdk_2097_method_81_code 1 = .ok (.getfield 32, 3) := by decide +kernel
theorem d19_4 : decode jdk_2097_method_81_code 4 = .ok (.ireturn, 1) := by decide +kernel
theorem ef_19_16 (m : MethodId) (x0 : Addr) : entryFrame m #[(.ref x0)] 1 = mkF m 0 #[.val (.ref x0)] [] := by first | (simp [entryFrame, mkF, argsToLocals, Value.category]; done) | rfl
set_option maxRecDepth 65536 in
set_option maxHeartbeats 40000000 in
theorem r_sig1 (l : Launch) (Z : State) (a0 : Array Value) (hw : ∀ d ∈ tables_1, d.before a0 Z = true) (ws : List Jvm.Cond) (s_T s_Z s_1 m_Z : Addr) (k_Z : ClassId) (h0 : Heap) (n0 : Nat) (O0 : Old Z n0 h0) (G : own_Ctx Z Z.heap s_T s_Z s_1 m_Z k_Z)   :
    MetFree l (⟨"java/math/BigInteger", "signum", "()I"⟩ : MethodName) (head1 (Jvm.Cond.code (⟨"java/math/BigInteger", "signum", "()I"⟩ : MethodName) jdk_2097_method_81_code 1 (some .int) :: ws) ({ frames := 0, cells := 0, slots := 0, locals := 0 } : Room)) (fun a U => a = #[(.ref s_1)] ∧ Z.Warmed39 U.vm ∧ U.heap = h0) (fun _ _ _ _ _ => True) (fun _ U o U' => ∃ v L, o = .returned v ∧ own_Q (some (.int (1 : Int32))) h0 n0 v U'.heap L ∧ FrameEnd U o U' L ({ frames := 0, cells := 0, slots := 0, locals := 0 } : Room).cells ({ frames := 0, cells := 0, slots := 0, locals := 0 } : Room).slots) := by
  have G0 := G
  obtain ⟨S_T, E_T, N_T, D_T, S_Z, E_Z, G_Z, M_Z, V_Z, S_1, E_1, G_1⟩ := G
  refine MetFree.of_bodySF (plainFor_of_name pn_4) hisR ?_
  intro p e s m args below meth c s₁ Bd hml0 hP hK
  obtain ⟨rfl, hZ, hh⟩ := hP
  have hx := Bd.exec
  have hby := Bd.bytes
  have hml : c.maxLocals = 1 := hml0
  have hown : s.vm.findClass "java/math/BigInteger" = some m.cls := findClass_of_methodNamed Bd.named
  have hnm := (name_of_methodNamed Bd.named Bd.method).1
  have X0 : Stand p l e ({ frames := 0, cells := 0, slots := 0, locals := 0 } : Room) s m #[(.ref s_1)] below meth c s₁ [] 0 0 := Stand.of_body Bd
  have e0 : s₁.heap = h0 := by rw [← hh, Bd.state]; rfl
  have N0 := Fr.nil n0
  have pre0 : ∀ t, Steps p.tables e below (s₁.setTop (mkF m 0 #[.val (.ref s_1)] [])) t → Steps p.tables e below (s₁.setTop (entryFrame m #[(.ref s_1)] 1)) t := fun t k => castTop (ef_19_16 m s_1) k
  obtain ⟨T1, X1, e1, st1⟩ := getF X0 hx hZ hown (host := "") (Or.inl (hw _ (List.mem_of_getElem? (i := 107) rfl))) Via.refl e0 (G_1.ext O0.2) (g := (mkF m 1 #[.val (.ref s_1)] [(.ref s_1)])) rfl rfl (hb hby d19_1)
  obtain ⟨fs, hr, hrun, hended, hW, hsame⟩ := X1.leave (v := some (.int (1 : Int32))) (fun h => by rw [Bd.returns] at h; cases h)
  refine ⟨_, _, pre0 _ ?_, hrun, hended, _, _, rfl, ?_, ⟨_, rfl⟩, hW, hsame.mono (by decide) (by decide)⟩
  · show Steps p.tables e below (s₁.setTop (mkF m 0 #[.val (.ref s_1)] [])) _
    refine XS.aloadN X0.here hx rfl (hb hby d19_0) rfl rfl ?_
    show Steps p.tables e below (s₁.setTop (mkF m 1 #[.val (.ref s_1)] [(.ref s_1)])) _
    refine st1 _ ?_
    show Steps p.tables e below (T1.setTop (mkF m 4 #[.val (.ref s_1)] [(.int (1 : Int32))])) _
    exact retI X1 hx Bd.returns (hb hby d19_4) hr
  · show own_Q (some (.int (1 : Int32))) h0 n0 _ T1.heap _
    rw [e1]
    exact ⟨rfl, N0, rfl⟩
set_option maxRecDepth 65536 in
set_option maxHeartbeats 40000000 in
theorem r_sig0 (l : Launch) (Z : State) (a0 : Array Value) (hw : ∀ d ∈ tables_1, d.before a0 Z = true) (ws : List Jvm.Cond) (s_T s_Z s_1 m_Z : Addr) (k_Z : ClassId) (h0 : Heap) (n0 : Nat) (O0 : Old Z n0 h0) (G : own_Ctx Z Z.heap s_T s_Z s_1 m_Z k_Z) (a1 : Addr) (Fs : Fld Z h0 a1 "java/math/BigInteger" "signum" "I" (.int (0 : Int32))) :
    MetFree l (⟨"java/math/BigInteger", "signum", "()I"⟩ : MethodName) (head1 (Jvm.Cond.code (⟨"java/math/BigInteger", "signum", "()I"⟩ : MethodName) jdk_2097_method_81_code 1 (some .int) :: ws) ({ frames := 0, cells := 0, slots := 0, locals := 0 } : Room)) (fun a U => a = #[(.ref a1)] ∧ Z.Warmed39 U.vm ∧ U.heap = h0) (fun _ _ _ _ _ => True) (fun _ U o U' => ∃ v L, o = .returned v ∧ own_Q (some (.int (0 : Int32))) h0 n0 v U'.heap L ∧ FrameEnd U o U' L ({ frames := 0, cells := 0, slots := 0, locals := 0 } : Room).cells ({ frames := 0, cells := 0, slots := 0, locals := 0 } : Room).slots) := by
  have G0 := G
  obtain ⟨S_T, E_T, N_T, D_T, S_Z, E_Z, G_Z, M_Z, V_Z, S_1, E_1, G_1⟩ := G
  refine MetFree.of_bodySF (plainFor_of_name pn_4) hisR ?_
  intro p e s m args below meth c s₁ Bd hml0 hP hK
  obtain ⟨rfl, hZ, hh⟩ := hP
  have hx := Bd.exec
  have hby := Bd.bytes
  have hml : c.maxLocals = 1 := hml0
  have hown : s.vm.findClass "java/math/BigInteger" = some m.cls := findClass_of_methodNamed Bd.named
  have hnm := (name_of_methodNamed Bd.named Bd.method).1
  have X0 : Stand p l e ({ frames := 0, cells := 0, slots := 0, locals := 0 } : Room) s m #[(.ref a1)] below meth c s₁ [] 0 0 := Stand.of_body Bd
  have e0 : s₁.heap = h0 := by rw [← hh, Bd.state]; rfl
  have N0 := Fr.nil n0
  have pre0 : ∀ t, Steps p.tables e below (s₁.setTop (mkF m 0 #[.val (.ref a1)] [])) t → Steps p.tables e below (s₁.setTop (entryFrame m #[(.ref a1)] 1)) t := fun t k => castTop (ef_19_16 m a1) k
  obtain ⟨T1, X1, e1, st1⟩ := getF X0 hx hZ hown (host := "") (Or.inl (hw _ (List.mem_of_getElem? (i := 107) rfl))) Via.refl e0 Fs (g := (mkF m 1 #[.val (.ref a1)] [(.ref a1)])) rfl rfl (hb hby d19_1)
  obtain ⟨fs, hr, hrun, hended, hW, hsame⟩ := X1.leave (v := some (.int (0 : Int32))) (fun h => by rw [Bd.returns] at h; cases h)
  refine ⟨_, _, pre0 _ ?_, hrun, hended, _, _, rfl, ?_, ⟨_, rfl⟩, hW, hsame.mono (by decide) (by decide)⟩
  · show Steps p.tables e below (s₁.setTop (mkF m 0 #[.val (.ref a1)] [])) _
    refine XS.aloadN X0.here hx rfl (hb hby d19_0) rfl rfl ?_
    show Steps p.tables e below (s₁.setTop (mkF m 1 #[.val (.ref a1)] [(.ref a1)])) _
    refine st1 _ ?_
    show Steps p.tables e below (T1.setTop (mkF m 4 #[.val (.ref a1)] [(.int (0 : Int32))])) _
    exact retI X1 hx Bd.returns (hb hby d19_4) hr
  · show own_Q (some (.int (0 : Int32))) h0 n0 _ T1.heap _
    rw [e1]
    exact ⟨rfl, N0, rfl⟩
theorem d18_0 : decode prog_69_method_8_code 0 = .ok (.aload_n 0, 1) := by decide +kernel
theorem d18_1 : decode prog_69_method_8_code 1 = .ok (.getfield 13, 3) := by decide +kernel
theorem d18_4 : decode prog_69_method_8_code 4 = .ok (.invokevirtual 16, 3) := by decide +kernel
theorem pd_11 : parseMethodDescriptor "()I" = some ⟨[], some .int⟩ := by decide +kernel
theorem d18_7 : decode prog_69_method_8_code 7 = .ok (.ifCond .ne 7, 3) := by decide +kernel
theorem d18_14 : decode prog_69_method_8_code 14 = .ok (.iconst 0, 1) := by decide +kernel
theorem d18_15 : decode prog_69_method_8_code 15 = .ok (.ireturn, 1) := by decide +kernel
theorem ef_18_17 (m : MethodId) (x0 : Addr) : entryFrame m #[(.ref x0)] 1 = mkF m 0 #[.val (.ref x0)] [] := by first | (simp [entryFrame, mkF, argsToLocals, Value.category]; done) | rfl
set_option maxRecDepth 65536 in
set_option maxHeartbeats 40000000 in
theorem r_inf (l : Launch) (Z : State) (a0 : Array Value) (hw : ∀ d ∈ tables_1, d.before a0 Z = true) (ws : List Jvm.Cond) (s_T s_Z s_1 m_Z : Addr) (k_Z : ClassId) (h0 : Heap) (n0 : Nat) (O0 : Old Z n0 h0) (G : own_Ctx Z Z.heap s_T s_Z s_1 m_Z k_Z) (a1 : Addr) (Fd : Fld Z h0 a1 "com/example/hodos/hodos/model/Time" "denominator" "Ljava/math/BigInteger;" (.ref s_1)) :
    MetFree l (⟨"com/example/hodos/hodos/model/Time", "isInfinite", "()Z"⟩ : MethodName) (head1 (Jvm.Cond.code (⟨"com/example/hodos/hodos/model/Time", "isInfinite", "()Z"⟩ : MethodName) prog_69_method_8_code 1 (some .boolean) :: ws) ({ frames := 1, cells := 0, slots := 0, locals := 12 } : Room)) (fun a U => a = #[(.ref a1)] ∧ Z.Warmed39 U.vm ∧ U.heap = h0) (fun _ _ _ _ _ => True) (fun _ U o U' => ∃ v L, o = .returned v ∧ own_Q (some (.int (0 : Int32))) h0 n0 v U'.heap L ∧ FrameEnd U o U' L ({ frames := 1, cells := 0, slots := 0, locals := 12 } : Room).cells ({ frames := 1, cells := 0, slots := 0, locals := 12 } : Room).slots) := by
  have G0 := G
  obtain ⟨S_T, E_T, N_T, D_T, S_Z, E_Z, G_Z, M_Z, V_Z, S_1, E_1, G_1⟩ := G
  refine MetFree.of_bodySF (plainFor_of_name pn_3) hisR ?_
  intro p e s m args below meth c s₁ Bd hml0 hP hK
  obtain ⟨rfl, hZ, hh⟩ := hP
  have hx := Bd.exec
  have hby := Bd.bytes
  have hml : c.maxLocals = 1 := hml0
  have hown : s.vm.findClass "com/example/hodos/hodos/model/Time" = some m.cls := findClass_of_methodNamed Bd.named
  have hnm := (name_of_methodNamed Bd.named Bd.method).1
  have X0 : Stand p l e ({ frames := 1, cells := 0, slots := 0, locals := 12 } : Room) s m #[(.ref a1)] below meth c s₁ [] 0 0 := Stand.of_body Bd
  have e0 : s₁.heap = h0 := by rw [← hh, Bd.state]; rfl
  have N0 := Fr.nil n0
  have pre0 : ∀ t, Steps p.tables e below (s₁.setTop (mkF m 0 #[.val (.ref a1)] [])) t → Steps p.tables e below (s₁.setTop (entryFrame m #[(.ref a1)] 1)) t := fun t k => castTop (ef_18_17 m a1) k
  obtain ⟨T1, X1, e1, st1⟩ := getF X0 hx hZ hown (host := "") (Or.inl (hw _ (List.mem_of_getElem? (i := 73) rfl))) Via.refl e0 Fd (g := (mkF m 1 #[.val (.ref a1)] [(.ref a1)])) rfl rfl (hb hby d18_1)
  obtain ⟨cq2, kq2, q2a, q2b, q2c⟩ := isOf hZ e1 (E_1.ext O0.2)
  obtain ⟨_, _, ⟨T2, L2, k2, n2⟩, -, X2, ⟨Lc2, hQ2, l2, y2, z2⟩, st2⟩ := X1.virtualBack hx (y := (⟨"java/math/BigInteger", "signum", "()I"⟩ : MethodName)) (z := (⟨"java/math/BigInteger", "signum", "()I"⟩ : MethodName)) hown (mvT hZ (hw _ (List.mem_of_getElem? (i := 102) rfl))) (mvT hZ (hw _ (List.mem_of_getElem? (i := 103) rfl))) (notFace_of_selects (args := #[]) (mvT hZ (hw _ (List.mem_of_getElem? (i := 105) rfl)))) (mvT hZ (hw _ (List.mem_of_getElem? (i := 105) rfl))) (mvT hZ (hw _ (List.mem_of_getElem? (i := 104) rfl))) (by decide) (backOf (W := 0) (r_sig1 l Z a0 hw [] s_T s_Z s_1 m_Z k_Z h0 n0 O0 G0) hZ (hw _ (List.mem_of_getElem? (i := 106) rfl)) (hw _ (List.mem_of_getElem? (i := 63) rfl)) (by decide) (by decide)) q2a q2c (g := (mkF m 4 #[.val (.ref a1)] [(.ref s_1)])) rfl (by rw [hml]; rfl) (Steps.refl _) (argsL := []) (rest := []) (lenOf pd_11 rfl) rfl (by show 2 * 0 + _ ≤ _; exact Nat.le_of_eq rfl) (hb hby d18_4) (fun _ _ => ⟨rfl, e1, (by decide : 0 + 0 ≤ _), (by decide : 0 + 0 ≤ _)⟩)
  dsimp only [Pt.U, Pt.locs, Pt.cells, Pt.slots] at X2 l2 y2 z2 st2 hQ2
  subst l2 y2 z2
  obtain ⟨rfl, N2q, e2⟩ := hQ2
  have N2 := Fr.app N0 N2q
  obtain ⟨fs, hr, hrun, hended, hW, hsame⟩ := X2.leave (v := some (.int (0 : Int32))) (fun h => by rw [Bd.returns] at h; cases h)
  refine ⟨_, _, pre0 _ ?_, hrun, hended, _, _, rfl, ?_, ⟨_, rfl⟩, hW, hsame.mono (by decide) (by decide)⟩
  · show Steps p.tables e below (s₁.setTop (mkF m 0 #[.val (.ref a1)] [])) _
    refine XS.aloadN X0.here hx rfl (hb hby d18_0) rfl rfl ?_
    show Steps p.tables e below (s₁.setTop (mkF m 1 #[.val (.ref a1)] [(.ref a1)])) _
    refine st1 _ ?_
    show Steps p.tables e below (T1.setTop (mkF m 4 #[.val (.ref a1)] [(.ref s_1)])) _
    refine st2.trans ?_
    show Steps p.tables e below (T2.setTop (mkF m 7 #[.val (.ref a1)] [(.int (1 : Int32))])) _
    refine XS.ifYes X2.here hx rfl (pc0 := 7) (pc' := 14) rfl (hb hby d18_7) rfl ((if0 _ _).trans (feq (by decide : ¬ ((1 : Int32) = (0 : Int32)))).2) (by decide) (by decide) ?_
    show Steps p.tables e below (T2.setTop (mkF m 14 #[.val (.ref a1)] [])) _
    refine XS.iconst X2.here hx rfl (hb hby d18_14) ?_
    show Steps p.tables e below (T2.setTop (mkF m 15 #[.val (.ref a1)] [(.int (0 : Int32))])) _
    exact retN X2 hx (t := .boolean) Bd.returns (by simp) (hb hby d18_15) hr
  · show own_Q (some (.int (0 : Int32))) h0 n0 _ T2.heap _
    rw [e2]
    exact ⟨rfl, N2, rfl⟩
theorem d23_0 : decode prog_69_method_9_code 0 = .ok (.aload_n 0, 1) := by decide +kernel
theorem d23_1 : decode prog_69_method_9_code 1 = .ok (.invokevirtual 128, 3) := by decide +kernel
theorem pd_12 : parseMethodDescriptor "()Z" = some ⟨[], some .boolean⟩ := by decide +kernel
theorem d23_4 : decode prog_69_method_9_code 4 = .ok (.ifCond .ne 10, 3) := by decide +kernel
theorem d23_7 : decode prog_69_method_9_code 7 = .ok (.aload_n 1, 1) := by decide +kernel
theorem d23_8 : decode prog_69_method_9_code 8 = .ok (.invokevirtual 128, 3) := by decide +kernel
theorem d23_11 : decode prog_69_method_9_code 11 = .ok (.ifCond .eq 10, 3) := by decide +kernel
theorem d23_21 : decode prog_69_method_9_code 21 = .ok (.aload_n 1, 1) := by decide +kernel
theorem d23_22 : decode prog_69_method_9_code 22 = .ok (.getfield 7, 3) := by decide +kernel
theorem d23_25 : decode prog_69_method_9_code 25 = .ok (.invokevirtual 16, 3) := by decide +kernel
theorem d23_28 : decode prog_69_method_9_code 28 = .ok (.ifCond .ne 8, 3) := by decide +kernel
theorem d23_31 : decode prog_69_method_9_code 31 = .ok (.aload_n 0, 1) := by decide +kernel
theorem d23_32 : decode prog_69_method_9_code 32 = .ok (.astore_n 2, 1) := by decide +kernel
theorem d23_33 : decode prog_69_method_9_code 33 = .ok (.goto 58, 3) := by decide +kernel
theorem d23_91 : decode prog_69_method_9_code 91 = .ok (.aload_n 2, 1) := by decide +kernel
theorem d23_92 : decode prog_69_method_9_code 92 = .ok (.areturn, 1) := by decide +kernel
theorem ef_23_18 (m : MethodId) (x0 : Addr) (x1 : Addr) : entryFrame m #[(.ref x0), (.ref x1)] 3 = mkF m 0 #[.val (.ref x0), .val (.ref x1), .unset] [] := by first | (simp [entryFrame, mkF, argsToLocals, Value.category]; done) | rfl
set_option maxRecDepth 65536 in
set_option maxHeartbeats 40000000 in
theorem r_plus (l : Launch) (Z : State) (a0 : Array Value) (hw : ∀ d ∈ tables_1, d.before a0 Z = true) (ws : List Jvm.Cond) (s_T s_Z s_1 m_Z : Addr) (k_Z : ClassId) (h0 : Heap) (n0 : Nat) (O0 : Old Z n0 h0) (G : own_Ctx Z Z.heap s_T s_Z s_1 m_Z k_Z) (a1 a2 : Addr) (Ea : Exa Z h0 a1 "com/example/hodos/hodos/model/Time") (Fn : Fld Z h0 a1 "com/example/hodos/hodos/model/Time" "numerator" "Ljava/math/BigInteger;" (.ref a2)) (Fd : Fld Z h0 a1 "com/example/hodos/hodos/model/Time" "denominator" "Ljava/math/BigInteger;" (.ref s_1)) (Eb : Exa Z h0 a2 "java/math/BigInteger") (Fs : Fld Z h0 a2 "java/math/BigInteger" "signum" "I" (.int (0 : Int32))) :
    MetFree l (⟨"com/example/hodos/hodos/model/Time", "plus", "(Lcom/example/hodos/hodos/model/Time;)Lcom/example/hodos/hodos/model/Time;"⟩ : MethodName) (head1 (Jvm.Cond.code (⟨"com/example/hodos/hodos/model/Time", "plus", "(Lcom/example/hodos/hodos/model/Time;)Lcom/example/hodos/hodos/model/Time;"⟩ : MethodName) prog_69_method_9_code 3 (some (.object "com/example/hodos/hodos/model/Time")) :: ws) ({ frames := 2, cells := 0, slots := 0, locals := 24 } : Room)) (fun a U => a = #[(.ref s_T), (.ref a1)] ∧ Z.Warmed39 U.vm ∧ U.heap = h0) (fun _ _ _ _ _ => True) (fun _ U o U' => ∃ v L, o = .returned v ∧ own_Q (some (.ref s_T)) h0 n0 v U'.heap L ∧ FrameEnd U o U' L ({ frames := 2, cells := 0, slots := 0, locals := 24 } : Room).cells ({ frames := 2, cells := 0, slots := 0, locals := 24 } : Room).slots) := by
  have G0 := G
  obtain ⟨S_T, E_T, N_T, D_T, S_Z, E_Z, G_Z, M_Z, V_Z, S_1, E_1, G_1⟩ := G
  refine MetFree.of_bodySF (plainFor_of_name pn_3) hisR ?_
  intro p e s m args below meth c s₁ Bd hml0 hP hK
  obtain ⟨rfl, hZ, hh⟩ := hP
  have hx := Bd.exec
  have hby := Bd.bytes
  have hml : c.maxLocals = 3 := hml0
  have hown : s.vm.findClass "com/example/hodos/hodos/model/Time" = some m.cls := findClass_of_methodNamed Bd.named
  have hnm := (name_of_methodNamed Bd.named Bd.method).1
  have X0 : Stand p l e ({ frames := 2, cells := 0, slots := 0, locals := 24 } : Room) s m #[(.ref s_T), (.ref a1)] below meth c s₁ [] 0 0 := Stand.of_body Bd
  have e0 : s₁.heap = h0 := by rw [← hh, Bd.state]; rfl
  have N0 := Fr.nil n0
  have pre0 : ∀ t, Steps p.tables e below (s₁.setTop (mkF m 0 #[.val (.ref s_T), .val (.ref a1), .unset] [])) t → Steps p.tables e below (s₁.setTop (entryFrame m #[(.ref s_T), (.ref a1)] 3)) t := fun t k => castTop (ef_23_18 m s_T a1) k
  obtain ⟨cq1, kq1, q1a, q1b, q1c⟩ := isOf hZ e0 (E_T.ext O0.2)
  obtain ⟨_, _, ⟨T1, L1, k1, n1⟩, -, X1, ⟨Lc1, hQ1, l1, y1, z1⟩, st1⟩ := X0.virtualBack hx (y := (⟨"com/example/hodos/hodos/model/Time", "isInfinite", "()Z"⟩ : MethodName)) (z := (⟨"com/example/hodos/hodos/model/Time", "isInfinite", "()Z"⟩ : MethodName)) hown (mvT hZ (hw _ (List.mem_of_getElem? (i := 97) rfl))) (mvT hZ (hw _ (List.mem_of_getElem? (i := 98) rfl))) (notFace_of_selects (args := #[]) (mvT hZ (hw _ (List.mem_of_getElem? (i := 100) rfl)))) (mvT hZ (hw _ (List.mem_of_getElem? (i := 100) rfl))) (mvT hZ (hw _ (List.mem_of_getElem? (i := 99) rfl))) (by decide) (backOf (W := 0) (r_inf l Z a0 hw [] s_T s_Z s_1 m_Z k_Z h0 n0 O0 G0 s_T (D_T.ext O0.2)) hZ (hw _ (List.mem_of_getElem? (i := 101) rfl)) (hw _ (List.mem_of_getElem? (i := 28) rfl)) (by decide) (by decide)) q1a q1c (g := (mkF m 1 #[.val (.ref s_T), .val (.ref a1), .unset] [(.ref s_T)])) rfl (by rw [hml]; rfl) (Steps.refl _) (argsL := []) (rest := []) (lenOf pd_12 rfl) rfl (by show 2 * 0 + _ ≤ _; exact Nat.le_of_eq rfl) (hb hby d23_1) (fun _ _ => ⟨rfl, e0, (by decide : 0 + 0 ≤ _), (by decide : 0 + 0 ≤ _)⟩)
  dsimp only [Pt.U, Pt.locs, Pt.cells, Pt.slots] at X1 l1 y1 z1 st1 hQ1
  subst l1 y1 z1
  obtain ⟨rfl, N1q, e1⟩ := hQ1
  have N1 := Fr.app N0 N1q
  obtain ⟨cq2, kq2, q2a, q2b, q2c⟩ := isOf hZ e1 Ea
  obtain ⟨_, _, ⟨T2, L2, k2, n2⟩, -, X2, ⟨Lc2, hQ2, l2, y2, z2⟩, st2⟩ := X1.virtualBack hx (y := (⟨"com/example/hodos/hodos/model/Time", "isInfinite", "()Z"⟩ : MethodName)) (z := (⟨"com/example/hodos/hodos/model/Time", "isInfinite", "()Z"⟩ : MethodName)) hown (mvT hZ (hw _ (List.mem_of_getElem? (i := 97) rfl))) (mvT hZ (hw _ (List.mem_of_getElem? (i := 98) rfl))) (notFace_of_selects (args := #[]) (mvT hZ (hw _ (List.mem_of_getElem? (i := 100) rfl)))) (mvT hZ (hw _ (List.mem_of_getElem? (i := 100) rfl))) (mvT hZ (hw _ (List.mem_of_getElem? (i := 99) rfl))) (by decide) (backOf (W := 0) (r_inf l Z a0 hw [] s_T s_Z s_1 m_Z k_Z h0 n0 O0 G0 a1 Fd) hZ (hw _ (List.mem_of_getElem? (i := 101) rfl)) (hw _ (List.mem_of_getElem? (i := 28) rfl)) (by decide) (by decide)) q2a q2c (g := (mkF m 8 #[.val (.ref s_T), .val (.ref a1), .unset] [(.ref a1)])) rfl (by rw [hml]; rfl) (Steps.refl _) (argsL := []) (rest := []) (lenOf pd_12 rfl) rfl (by show 2 * 0 + _ ≤ _; exact Nat.le_of_eq rfl) (hb hby d23_8) (fun _ _ => ⟨rfl, e1, (by decide : 0 + 0 ≤ _), (by decide : 0 + 0 ≤ _)⟩)
  dsimp only [Pt.U, Pt.locs, Pt.cells, Pt.slots] at X2 l2 y2 z2 st2 hQ2
  subst l2 y2 z2
  obtain ⟨rfl, N2q, e2⟩ := hQ2
  have N2 := Fr.app N1 N2q
  obtain ⟨T3, X3, e3, st3⟩ := getF X2 hx hZ hown (host := "") (Or.inl (hw _ (List.mem_of_getElem? (i := 71) rfl))) Via.refl e2 Fn (g := (mkF m 22 #[.val (.ref s_T), .val (.ref a1), .unset] [(.ref a1)])) rfl rfl (hb hby d23_22)
  obtain ⟨cq4, kq4, q4a, q4b, q4c⟩ := isOf hZ e3 Eb
  obtain ⟨_, _, ⟨T4, L4, k4, n4⟩, -, X4, ⟨Lc4, hQ4, l4, y4, z4⟩, st4⟩ := X3.virtualBack hx (y := (⟨"java/math/BigInteger", "signum", "()I"⟩ : MethodName)) (z := (⟨"java/math/BigInteger", "signum", "()I"⟩ : MethodName)) hown (mvT hZ (hw _ (List.mem_of_getElem? (i := 102) rfl))) (mvT hZ (hw _ (List.mem_of_getElem? (i := 103) rfl))) (notFace_of_selects (args := #[]) (mvT hZ (hw _ (List.mem_of_getElem? (i := 105) rfl)))) (mvT hZ (hw _ (List.mem_of_getElem? (i := 105) rfl))) (mvT hZ (hw _ (List.mem_of_getElem? (i := 104) rfl))) (by decide) (backOf (W := 0) (r_sig0 l Z a0 hw [] s_T s_Z s_1 m_Z k_Z h0 n0 O0 G0 a2 Fs) hZ (hw _ (List.mem_of_getElem? (i := 106) rfl)) (hw _ (List.mem_of_getElem? (i := 63) rfl)) (by decide) (by decide)) q4a q4c (g := (mkF m 25 #[.val (.ref s_T), .val (.ref a1), .unset] [(.ref a2)])) rfl (by rw [hml]; rfl) (Steps.refl _) (argsL := []) (rest := []) (lenOf pd_11 rfl) rfl (by show 2 * 0 + _ ≤ _; exact Nat.le_of_eq rfl) (hb hby d23_25) (fun _ _ => ⟨rfl, e3, (by decide : 0 + 0 ≤ _), (by decide : 0 + 0 ≤ _)⟩)
  dsimp only [Pt.U, Pt.locs, Pt.cells, Pt.slots] at X4 l4 y4 z4 st4 hQ4
  subst l4 y4 z4
  obtain ⟨rfl, N4q, e4⟩ := hQ4
  have N4 := Fr.app N2 N4q
  obtain ⟨fs, hr, hrun, hended, hW, hsame⟩ := X4.leave (v := some (.ref s_T)) (fun h => by rw [Bd.returns] at h; cases h)
  refine ⟨_, _, pre0 _ ?_, hrun, hended, _, _, rfl, ?_, ⟨_, rfl⟩, hW, hsame.mono (by decide) (by decide)⟩
  · show Steps p.tables e below (s₁.setTop (mkF m 0 #[.val (.ref s_T), .val (.ref a1), .unset] [])) _
    refine XS.aloadN X0.here hx rfl (hb hby d23_0) rfl rfl ?_
    show Steps p.tables e below (s₁.setTop (mkF m 1 #[.val (.ref s_T), .val (.ref a1), .unset] [(.ref s_T)])) _
    refine st1.trans ?_
    show Steps p.tables e below (T1.setTop (mkF m 4 #[.val (.ref s_T), .val (.ref a1), .unset] [(.int (0 : Int32))])) _
    refine XS.ifNo X1.here hx rfl (hb hby d23_4) rfl ((if0 _ _).trans (teq (by decide : (0 : Int32) = (0 : Int32))).2) ?_
    show Steps p.tables e below (T1.setTop (mkF m 7 #[.val (.ref s_T), .val (.ref a1), .unset] [])) _
    refine XS.aloadN X1.here hx rfl (hb hby d23_7) rfl rfl ?_
    show Steps p.tables e below (T1.setTop (mkF m 8 #[.val (.ref s_T), .val (.ref a1), .unset] [(.ref a1)])) _
    refine st2.trans ?_
    show Steps p.tables e below (T2.setTop (mkF m 11 #[.val (.ref s_T), .val (.ref a1), .unset] [(.int (0 : Int32))])) _
    refine XS.ifYes X2.here hx rfl (pc0 := 11) (pc' := 21) rfl (hb hby d23_11) rfl ((if0 _ _).trans (teq (by decide : (0 : Int32) = (0 : Int32))).1) (by decide) (by decide) ?_
    show Steps p.tables e below (T2.setTop (mkF m 21 #[.val (.ref s_T), .val (.ref a1), .unset] [])) _
    refine XS.aloadN X2.here hx rfl (hb hby d23_21) rfl rfl ?_
    show Steps p.tables e below (T2.setTop (mkF m 22 #[.val (.ref s_T), .val (.ref a1), .unset] [(.ref a1)])) _
    refine st3 _ ?_
    show Steps p.tables e below (T3.setTop (mkF m 25 #[.val (.ref s_T), .val (.ref a1), .unset] [(.ref a2)])) _
    refine st4.trans ?_
    show Steps p.tables e below (T4.setTop (mkF m 28 #[.val (.ref s_T), .val (.ref a1), .unset] [(.int (0 : Int32))])) _
    refine XS.ifNo X4.here hx rfl (hb hby d23_28) rfl ((if0 _ _).trans (teq (by decide : (0 : Int32) = (0 : Int32))).2) ?_
    show Steps p.tables e below (T4.setTop (mkF m 31 #[.val (.ref s_T), .val (.ref a1), .unset] [])) _
    refine XS.aloadN X4.here hx rfl (hb hby d23_31) rfl rfl ?_
    show Steps p.tables e below (T4.setTop (mkF m 32 #[.val (.ref s_T), .val (.ref a1), .unset] [(.ref s_T)])) _
    refine XS.astoreN X4.here hx rfl (hb hby d23_32) rfl rfl (l' := #[.val (.ref s_T), .val (.ref a1), .val (.ref s_T)]) rfl ?_
    show Steps p.tables e below (T4.setTop (mkF m 33 #[.val (.ref s_T), .val (.ref a1), .val (.ref s_T)] [])) _
    refine XS.goto X4.here hx rfl (pc0 := 33) (pc' := 91) rfl (hb hby d23_33) (by decide) (by decide) ?_
    show Steps p.tables e below (T4.setTop (mkF m 91 #[.val (.ref s_T), .val (.ref a1), .val (.ref s_T)] [])) _
    refine XS.aloadN X4.here hx rfl (hb hby d23_91) rfl rfl ?_
    show Steps p.tables e below (T4.setTop (mkF m 92 #[.val (.ref s_T), .val (.ref a1), .val (.ref s_T)] [(.ref s_T)])) _
    exact retOut X4 hx Bd.returns rfl (Or.inr (Or.inr (Or.inr (Or.inr ⟨rfl, rfl, rfl⟩)))) (hb hby d23_92) hr
  · show own_Q (some (.ref s_T)) h0 n0 _ T4.heap _
    rw [e4]
    exact ⟨rfl, N4, rfl⟩
def own_Qk (r : Option Value) (h0 : Heap) (n0 : Nat) (v : Option Value) (h : Heap) (L : List Loc) : Prop := v = r ∧ Fr n0 L ∧ Keep h0 h []
theorem d17_0 : decode prog_69_method_10_code 0 = .ok (.aload_n 1, 1) := by decide +kernel
theorem d17_1 : decode prog_69_method_10_code 1 = .ok (.invokevirtual 128, 3) := by decide +kernel
theorem d17_4 : decode prog_69_method_10_code 4 = .ok (.ifCond .eq 20, 3) := by decide +kernel
theorem d17_24 : decode prog_69_method_10_code 24 = .ok (.aload_n 0, 1) := by decide +kernel
theorem d17_25 : decode prog_69_method_10_code 25 = .ok (.new 8, 3) := by decide +kernel
theorem d17_28 : decode prog_69_method_10_code 28 = .ok (.dup, 1) := by decide +kernel
theorem d17_29 : decode prog_69_method_10_code 29 = .ok (.aload_n 1, 1) := by decide +kernel
theorem d17_30 : decode prog_69_method_10_code 30 = .ok (.getfield 7, 3) := by decide +kernel
theorem d17_33 : decode prog_69_method_10_code 33 = .ok (.invokevirtual 135, 3) := by decide +kernel
theorem pd_13 : parseMethodDescriptor "()Ljava/math/BigInteger;" = some ⟨[], some (.object "java/math/BigInteger")⟩ := by decide +kernel
theorem d17_36 : decode prog_69_method_10_code 36 = .ok (.aload_n 1, 1) := by decide +kernel
theorem d17_37 : decode prog_69_method_10_code 37 = .ok (.getfield 13, 3) := by decide +kernel
theorem d17_40 : decode prog_69_method_10_code 40 = .ok (.invokespecial 50, 3) := by decide +kernel
theorem d17_43 : decode prog_69_method_10_code 43 = .ok (.invokevirtual 139, 3) := by decide +kernel
theorem pd_14 : parseMethodDescriptor "(Lcom/example/hodos/hodos/model/Time;)Lcom/example/hodos/hodos/model/Time;" = some ⟨[(.object "com/example/hodos/hodos/model/Time")], some (.object "com/example/hodos/hodos/model/Time")⟩ := by decide +kernel
theorem d17_46 : decode prog_69_method_10_code 46 = .ok (.areturn, 1) := by decide +kernel
theorem ef_17_19 (m : MethodId) (x0 : Addr) (x1 : Addr) : entryFrame m #[(.ref x0), (.ref x1)] 2 = mkF m 0 #[.val (.ref x0), .val (.ref x1)] [] := by first | (simp [entryFrame, mkF, argsToLocals, Value.category]; done) | rfl
set_option maxRecDepth 65536 in
set_option maxHeartbeats 40000000 in
theorem r_minus (l : Launch) (Z : State) (a0 : Array Value) (hw : ∀ d ∈ tables_1, d.before a0 Z = true) (ws : List Jvm.Cond) (s_T s_Z s_1 m_Z : Addr) (k_Z : ClassId) (h0 : Heap) (n0 : Nat) (O0 : Old Z n0 h0) (G : own_Ctx Z Z.heap s_T s_Z s_1 m_Z k_Z) (a1 : Addr) (Ea : Exa Z h0 a1 "com/example/hodos/hodos/model/Time") (Fn : Fld Z h0 a1 "com/example/hodos/hodos/model/Time" "numerator" "Ljava/math/BigInteger;" (.ref s_Z)) (Fd : Fld Z h0 a1 "com/example/hodos/hodos/model/Time" "denominator" "Ljava/math/BigInteger;" (.ref s_1)) :
    MetFree l (⟨"com/example/hodos/hodos/model/Time", "minus", "(Lcom/example/hodos/hodos/model/Time;)Lcom/example/hodos/hodos/model/Time;"⟩ : MethodName) (head1 (Jvm.Cond.code (⟨"com/example/hodos/hodos/model/Time", "minus", "(Lcom/example/hodos/hodos/model/Time;)Lcom/example/hodos/hodos/model/Time;"⟩ : MethodName) prog_69_method_10_code 2 (some (.object "com/example/hodos/hodos/model/Time")) :: ws) ({ frames := 4, cells := 2, slots := 8, locals := 54 } : Room)) (fun a U => a = #[(.ref s_T), (.ref a1)] ∧ Z.Warmed39 U.vm ∧ U.heap = h0) (fun _ _ _ _ _ => True) (fun _ U o U' => ∃ v L, o = .returned v ∧ own_Qk (some (.ref s_T)) h0 n0 v U'.heap L ∧ FrameEnd U o U' L ({ frames := 4, cells := 2, slots := 8, locals := 54 } : Room).cells ({ frames := 4, cells := 2, slots := 8, locals := 54 } : Room).slots) := by
  have G0 := G
  obtain ⟨S_T, E_T, N_T, D_T, S_Z, E_Z, G_Z, M_Z, V_Z, S_1, E_1, G_1⟩ := G
  refine MetFree.of_bodySF (plainFor_of_name pn_3) hisR ?_
  intro p e s m args below meth c s₁ Bd hml0 hP hK
  obtain ⟨rfl, hZ, hh⟩ := hP
  have hx := Bd.exec
  have hby := Bd.bytes
  have hml : c.maxLocals = 2 := hml0
  have hown : s.vm.findClass "com/example/hodos/hodos/model/Time" = some m.cls := findClass_of_methodNamed Bd.named
  have hnm := (name_of_methodNamed Bd.named Bd.method).1
  have X0 : Stand p l e ({ frames := 4, cells := 2, slots := 8, locals := 54 } : Room) s m #[(.ref s_T), (.ref a1)] below meth c s₁ [] 0 0 := Stand.of_body Bd
  have e0 : s₁.heap = h0 := by rw [← hh, Bd.state]; rfl
  have N0 := Fr.nil n0
  have pre0 : ∀ t, Steps p.tables e below (s₁.setTop (mkF m 0 #[.val (.ref s_T), .val (.ref a1)] [])) t → Steps p.tables e below (s₁.setTop (entryFrame m #[(.ref s_T), (.ref a1)] 2)) t := fun t k => castTop (ef_17_19 m s_T a1) k
  obtain ⟨cq1, kq1, q1a, q1b, q1c⟩ := isOf hZ e0 Ea
  obtain ⟨_, _, ⟨T1, L1, k1, n1⟩, -, X1, ⟨Lc1, hQ1, l1, y1, z1⟩, st1⟩ := X0.virtualBack hx (y := (⟨"com/example/hodos/hodos/model/Time", "isInfinite", "()Z"⟩ : MethodName)) (z := (⟨"com/example/hodos/hodos/model/Time", "isInfinite", "()Z"⟩ : MethodName)) hown (mvT hZ (hw _ (List.mem_of_getElem? (i := 97) rfl))) (mvT hZ (hw _ (List.mem_of_getElem? (i := 98) rfl))) (notFace_of_selects (args := #[]) (mvT hZ (hw _ (List.mem_of_getElem? (i := 100) rfl)))) (mvT hZ (hw _ (List.mem_of_getElem? (i := 100) rfl))) (mvT hZ (hw _ (List.mem_of_getElem? (i := 99) rfl))) (by decide) (backOf (W := 0) (r_inf l Z a0 hw [] s_T s_Z s_1 m_Z k_Z h0 n0 O0 G0 a1 Fd) hZ (hw _ (List.mem_of_getElem? (i := 101) rfl)) (hw _ (List.mem_of_getElem? (i := 28) rfl)) (by decide) (by decide)) q1a q1c (g := (mkF m 1 #[.val (.ref s_T), .val (.ref a1)] [(.ref a1)])) rfl (by rw [hml]; rfl) (Steps.refl _) (argsL := []) (rest := []) (lenOf pd_12 rfl) rfl (by show 2 * 0 + _ ≤ _; exact Nat.le_of_eq rfl) (hb hby d17_1) (fun _ _ => ⟨rfl, e0, (by decide : 0 + 0 ≤ _), (by decide : 0 + 0 ≤ _)⟩)
  dsimp only [Pt.U, Pt.locs, Pt.cells, Pt.slots] at X1 l1 y1 z1 st1 hQ1
  subst l1 y1 z1
  obtain ⟨rfl, N1q, e1⟩ := hQ1
  have N1 := Fr.app N0 N1q
  obtain ⟨T2, h2, X2, e2, E2, A2, D2, -, st2⟩ := newO X1 hx hZ hown (hw _ (List.mem_of_getElem? (i := 59) rfl)) (hw _ (List.mem_of_getElem? (i := 60) rfl)) (hw _ (List.mem_of_getElem? (i := 28) rfl)) e1 (g := (mkF m 25 #[.val (.ref s_T), .val (.ref a1)] [(.ref s_T)])) rfl (hb hby d17_25) (by decide) (by decide)
  obtain ⟨b2, g2⟩ : ∃ z, z = h0.size := ⟨_, rfl⟩
  have ne_a1_b2 : a1 ≠ b2 := Nat.ne_of_lt (Nat.lt_of_lt_of_le Ea.lt (Nat.le_of_eq g2.symm))
  have ne_s_T_b2 : s_T ≠ b2 := Nat.ne_of_lt (Nat.lt_of_lt_of_le (E_T.ext O0.2).lt (Nat.le_of_eq g2.symm))
  have ne_s_Z_b2 : s_Z ≠ b2 := Nat.ne_of_lt (Nat.lt_of_lt_of_le (E_Z.ext O0.2).lt (Nat.le_of_eq g2.symm))
  have ne_s_1_b2 : s_1 ≠ b2 := Nat.ne_of_lt (Nat.lt_of_lt_of_le (E_1.ext O0.2).lt (Nat.le_of_eq g2.symm))
  have g_b2 : n0 ≤ b2 := Nat.le_trans (O0.1 ▸ O0.2.1) (Nat.le_of_eq g2.symm)
  have sz_b2 : h0.size ≤ b2 := Nat.le_trans (Keep.refl h0 []).1 (Nat.le_of_eq g2.symm)
  rw [← g2] at A2 D2 st2
  have f3 := Ea.ext E2
  have f4 := Fn.ext E2
  have f5 := Fd.ext E2
  have O2 := O0.ext E2
  have K2 : Keep h0 h2 [] := (Keep.refl h0 []).ext E2
  have F2_72 : Fld Z h2 b2 "com/example/hodos/hodos/model/Time" "numerator" "Ljava/math/BigInteger;" .null := D2 (Or.inr (hw _ (List.mem_of_getElem? (i := 72) rfl))) (ty := (.object "java/math/BigInteger")) (by decide)
  have F2_74 : Fld Z h2 b2 "com/example/hodos/hodos/model/Time" "denominator" "Ljava/math/BigInteger;" .null := D2 (Or.inr (hw _ (List.mem_of_getElem? (i := 74) rfl))) (ty := (.object "java/math/BigInteger")) (by decide)
  obtain ⟨T6, X6, e6, st6⟩ := getF X2 hx hZ hown (host := "") (Or.inl (hw _ (List.mem_of_getElem? (i := 71) rfl))) Via.refl e2 f4 (g := (mkF m 30 #[.val (.ref s_T), .val (.ref a1)] [(.ref a1), (.ref b2), (.ref b2), (.ref s_T)])) rfl rfl (hb hby d17_30)
  obtain ⟨cq7, kq7, q7a, q7b, q7c⟩ := isOf hZ e6 (E_Z.ext O2.2)
  obtain ⟨_, _, ⟨T7, L7, k7, n7⟩, -, X7, ⟨Lc7, hQ7, l7, y7, z7⟩, st7⟩ := X6.virtualBack hx (y := (⟨"java/math/BigInteger", "negate", "()Ljava/math/BigInteger;"⟩ : MethodName)) (z := (⟨"java/math/BigInteger", "negate", "()Ljava/math/BigInteger;"⟩ : MethodName)) hown (mvT hZ (hw _ (List.mem_of_getElem? (i := 109) rfl))) (mvT hZ (hw _ (List.mem_of_getElem? (i := 110) rfl))) (notFace_of_selects (args := #[]) (mvT hZ (hw _ (List.mem_of_getElem? (i := 112) rfl)))) (mvT hZ (hw _ (List.mem_of_getElem? (i := 112) rfl))) (mvT hZ (hw _ (List.mem_of_getElem? (i := 111) rfl))) (by decide) (backOf (W := 3) (r_neg l Z a0 hw [] s_T s_Z s_1 m_Z k_Z h2 n0 O2 G0) hZ (hw _ (List.mem_of_getElem? (i := 113) rfl)) (hw _ (List.mem_of_getElem? (i := 63) rfl)) (by decide) (by decide)) q7a q7c (g := (mkF m 33 #[.val (.ref s_T), .val (.ref a1)] [(.ref s_Z), (.ref b2), (.ref b2), (.ref s_T)])) rfl (by rw [hml]; rfl) (Steps.refl _) (argsL := []) (rest := [(.ref b2), (.ref b2), (.ref s_T)]) (lenOf pd_13 rfl) rfl (by show 2 * 0 + _ ≤ _; exact Nat.le_of_eq rfl) (hb hby d17_33) (fun _ _ => ⟨rfl, e6, (by decide : 1 + 1 ≤ _), (by decide : 2 + 6 ≤ _)⟩)
  dsimp only [Pt.U, Pt.locs, Pt.cells, Pt.slots] at X7 l7 y7 z7 st7 hQ7
  subst l7 y7 z7
  obtain ⟨t7, rfl, N7q, Kq7, gt7, Et7, Fs7⟩ := hQ7
  have N7 := Fr.app N1 N7q
  have ne_a1_t7 : a1 ≠ t7 := Nat.ne_of_lt (Nat.lt_of_lt_of_le f3.lt gt7)
  have ne_b2_t7 : b2 ≠ t7 := Nat.ne_of_lt (Nat.lt_of_lt_of_le A2.lt gt7)
  have ne_s_T_t7 : s_T ≠ t7 := Nat.ne_of_lt (Nat.lt_of_lt_of_le (E_T.ext O2.2).lt gt7)
  have ne_s_Z_t7 : s_Z ≠ t7 := Nat.ne_of_lt (Nat.lt_of_lt_of_le (E_Z.ext O2.2).lt gt7)
  have ne_s_1_t7 : s_1 ≠ t7 := Nat.ne_of_lt (Nat.lt_of_lt_of_le (E_1.ext O2.2).lt gt7)
  have g_t7 : n0 ≤ t7 := Nat.le_trans (O2.1 ▸ O2.2.1) gt7
  have sz_t7 : h0.size ≤ t7 := Nat.le_trans K2.1 gt7
  have f8 := f3.keep Kq7
  have f9 := f4.keep Kq7 (fun q => nomatch q)
  have f10 := f5.keep Kq7 (fun q => nomatch q)
  have f11 := A2.keep Kq7
  have f12 := F2_72.keep Kq7 (fun q => nomatch q)
  have f13 := F2_74.keep Kq7 (fun q => nomatch q)
  have O7 := O2.keep Kq7 all0
  have K7 : Keep h0 T7.heap [] := K2.trans Kq7 all0
  obtain ⟨T14, X14, e14, st14⟩ := getF X7 hx hZ hown (host := "") (Or.inl (hw _ (List.mem_of_getElem? (i := 73) rfl))) Via.refl rfl f10 (g := (mkF m 37 #[.val (.ref s_T), .val (.ref a1)] [(.ref a1), (.ref t7), (.ref b2), (.ref b2), (.ref s_T)])) rfl rfl (hb hby d17_37)
  obtain ⟨_, _, ⟨T15, L15, k15, n15⟩, -, X15, ⟨Lc15, hQ15, l15, y15, z15⟩, st15⟩ := X14.specialBack hx (y := (⟨"com/example/hodos/hodos/model/Time", "<init>", "(Ljava/math/BigInteger;Ljava/math/BigInteger;)V"⟩ : MethodName)) rfl hown (mvT hZ (hw _ (List.mem_of_getElem? (i := 67) rfl))) (mvT hZ (hw _ (List.mem_of_getElem? (i := 68) rfl))) (mvT hZ (hw _ (List.mem_of_getElem? (i := 69) rfl))) (by decide) (backOf (W := 2) (r_tinit l Z a0 hw [] s_T s_Z s_1 m_Z k_Z T7.heap n0 O7 G0 b2 t7 s_1 f11 g_b2 f12 f13) hZ (hw _ (List.mem_of_getElem? (i := 69) rfl)) (hw _ (List.mem_of_getElem? (i := 28) rfl)) (by decide) (by decide)) (g := (mkF m 40 #[.val (.ref s_T), .val (.ref a1)] [(.ref s_1), (.ref t7), (.ref b2), (.ref b2), (.ref s_T)])) rfl (by rw [hml]; rfl) (Steps.refl _) (a := b2) (argsL := [(.ref t7), (.ref s_1)]) (rest := [(.ref b2), (.ref s_T)]) (lenOf pd_4 rfl) rfl (by show 2 * 0 + _ ≤ _; exact Nat.le_of_eq rfl) (hb hby d17_40) (fun _ _ => ⟨rfl, e14, (by decide : 2 + 0 ≤ _), (by decide : 8 + 0 ≤ _)⟩)
  dsimp only [Pt.U, Pt.locs, Pt.cells, Pt.slots] at X15 l15 y15 z15 st15 hQ15
  subst l15 y15 z15
  obtain ⟨rfl, N15q, Kq15, Fn15, Fd15⟩ := hQ15
  have N15 := Fr.app N7 N15q
  have f16 := f8.keep Kq15
  have f17 := f9.keep Kq15 (fun q => (List.mem_cons.mp q).elim ne_a1_b2 (fun q => nomatch q))
  have f18 := f10.keep Kq15 (fun q => (List.mem_cons.mp q).elim ne_a1_b2 (fun q => nomatch q))
  have f19 := f11.keep Kq15
  have f20 := Et7.keep Kq15
  have f21 := Fs7.keep Kq15 (fun q => (List.mem_cons.mp q).elim (Ne.symm ne_b2_t7) (fun q => nomatch q))
  have O15 := O7.keep Kq15 (allS g_b2 all0)
  have K15 : Keep h0 T15.heap [] := K7.trans Kq15 (allS (Or.inr sz_b2) all0)
  obtain ⟨cq22, kq22, q22a, q22b, q22c⟩ := isOf hZ rfl (E_T.ext O15.2)
  obtain ⟨_, _, ⟨T22, L22, k22, n22⟩, -, X22, ⟨Lc22, hQ22, l22, y22, z22⟩, st22⟩ := X15.virtualBack hx (y := (⟨"com/example/hodos/hodos/model/Time", "plus", "(Lcom/example/hodos/hodos/model/Time;)Lcom/example/hodos/hodos/model/Time;"⟩ : MethodName)) (z := (⟨"com/example/hodos/hodos/model/Time", "plus", "(Lcom/example/hodos/hodos/model/Time;)Lcom/example/hodos/hodos/model/Time;"⟩ : MethodName)) hown (mvT hZ (hw _ (List.mem_of_getElem? (i := 130) rfl))) (mvT hZ (hw _ (List.mem_of_getElem? (i := 131) rfl))) (notFace_of_selects (args := #[]) (mvT hZ (hw _ (List.mem_of_getElem? (i := 133) rfl)))) (mvT hZ (hw _ (List.mem_of_getElem? (i := 133) rfl))) (mvT hZ (hw _ (List.mem_of_getElem? (i := 132) rfl))) (by decide) (backOf (W := 0) (r_plus l Z a0 hw [] s_T s_Z s_1 m_Z k_Z T15.heap n0 O15 G0 b2 t7 f19 Fn15 Fd15 f20 f21) hZ (hw _ (List.mem_of_getElem? (i := 134) rfl)) (hw _ (List.mem_of_getElem? (i := 28) rfl)) (by decide) (by decide)) q22a q22c (g := (mkF m 43 #[.val (.ref s_T), .val (.ref a1)] [(.ref b2), (.ref s_T)])) rfl (by rw [hml]; rfl) (Steps.refl _) (argsL := [(.ref b2)]) (rest := []) (lenOf pd_14 rfl) rfl (by show 2 * 0 + _ ≤ _; exact Nat.le_of_eq rfl) (hb hby d17_43) (fun _ _ => ⟨rfl, rfl, (by decide : 2 + 0 ≤ _), (by decide : 8 + 0 ≤ _)⟩)
  dsimp only [Pt.U, Pt.locs, Pt.cells, Pt.slots] at X22 l22 y22 z22 st22 hQ22
  subst l22 y22 z22
  obtain ⟨rfl, N22q, e22⟩ := hQ22
  have N22 := Fr.app N15 N22q
  obtain ⟨fs, hr, hrun, hended, hW, hsame⟩ := X22.leave (v := some (.ref s_T)) (fun h => by rw [Bd.returns] at h; cases h)
  refine ⟨_, _, pre0 _ ?_, hrun, hended, _, _, rfl, ?_, ⟨_, rfl⟩, hW, hsame.mono (by decide) (by decide)⟩
  · show Steps p.tables e below (s₁.setTop (mkF m 0 #[.val (.ref s_T), .val (.ref a1)] [])) _
    refine XS.aloadN X0.here hx rfl (hb hby d17_0) rfl rfl ?_
    show Steps p.tables e below (s₁.setTop (mkF m 1 #[.val (.ref s_T), .val (.ref a1)] [(.ref a1)])) _
    refine st1.trans ?_
    show Steps p.tables e below (T1.setTop (mkF m 4 #[.val (.ref s_T), .val (.ref a1)] [(.int (0 : Int32))])) _
    refine XS.ifYes X1.here hx rfl (pc0 := 4) (pc' := 24) rfl (hb hby d17_4) rfl ((if0 _ _).trans (teq (by decide : (0 : Int32) = (0 : Int32))).1) (by decide) (by decide) ?_
    show Steps p.tables e below (T1.setTop (mkF m 24 #[.val (.ref s_T), .val (.ref a1)] [])) _
    refine XS.aloadN X1.here hx rfl (hb hby d17_24) rfl rfl ?_
    show Steps p.tables e below (T1.setTop (mkF m 25 #[.val (.ref s_T), .val (.ref a1)] [(.ref s_T)])) _
    refine st2 _ ?_
    show Steps p.tables e below (T2.setTop (mkF m 28 #[.val (.ref s_T), .val (.ref a1)] [(.ref b2), (.ref s_T)])) _
    refine XS.dup X2.here hx rfl (hb hby d17_28) rfl rfl ?_
    show Steps p.tables e below (T2.setTop (mkF m 29 #[.val (.ref s_T), .val (.ref a1)] [(.ref b2), (.ref b2), (.ref s_T)])) _
    refine XS.aloadN X2.here hx rfl (hb hby d17_29) rfl rfl ?_
    show Steps p.tables e below (T2.setTop (mkF m 30 #[.val (.ref s_T), .val (.ref a1)] [(.ref a1), (.ref b2), (.ref b2), (.ref s_T)])) _
    refine st6 _ ?_
    show Steps p.tables e below (T6.setTop (mkF m 33 #[.val (.ref s_T), .val (.ref a1)] [(.ref s_Z), (.ref b2), (.ref b2), (.ref s_T)])) _
    refine st7.trans ?_
    show Steps p.tables e below (T7.setTop (mkF m 36 #[.val (.ref s_T), .val (.ref a1)] [(.ref t7), (.ref b2), (.ref b2), (.ref s_T)])) _
    refine XS.aloadN X7.here hx rfl (hb hby d17_36) rfl rfl ?_
    show Steps p.tables e below (T7.setTop (mkF m 37 #[.val (.ref s_T), .val (.ref a1)] [(.ref a1), (.ref t7), (.ref b2), (.ref b2), (.ref s_T)])) _
    refine st14 _ ?_
    show Steps p.tables e below (T14.setTop (mkF m 40 #[.val (.ref s_T), .val (.ref a1)] [(.ref s_1), (.ref t7), (.ref b2), (.ref b2), (.ref s_T)])) _
    refine st15.trans ?_
    show Steps p.tables e below (T15.setTop (mkF m 43 #[.val (.ref s_T), .val (.ref a1)] [(.ref b2), (.ref s_T)])) _
    refine st22.trans ?_
    show Steps p.tables e below (T22.setTop (mkF m 46 #[.val (.ref s_T), .val (.ref a1)] [(.ref s_T)])) _
    exact retOut X22 hx Bd.returns rfl (Or.inr (Or.inr (Or.inr (Or.inr ⟨rfl, rfl, rfl⟩)))) (hb hby d17_46) hr
  · show own_Qk (some (.ref s_T)) h0 n0 _ T22.heap _
    rw [e22]
    exact ⟨rfl, N22, K15⟩
theorem d16_0 : decode prog_20_method_7_code 0 = .ok (.getstatic 105, 3) := by decide +kernel
theorem d16_3 : decode prog_20_method_7_code 3 = .ok (.aload_n 0, 1) := by decide +kernel
theorem d16_4 : decode prog_20_method_7_code 4 = .ok (.iconst 0, 1) := by decide +kernel
theorem d16_5 : decode prog_20_method_7_code 5 = .ok (.aload_n 0, 1) := by decide +kernel
theorem d16_6 : decode prog_20_method_7_code 6 = .ok (.iload_n 1, 1) := by decide +kernel
theorem d16_7 : decode prog_20_method_7_code 7 = .ok (.invokevirtual 97, 3) := by decide +kernel
theorem d16_10 : decode prog_20_method_7_code 10 = .ok (.invokevirtual 101, 3) := by decide +kernel
theorem d16_13 : decode prog_20_method_7_code 13 = .ok (.invokevirtual 109, 3) := by decide +kernel
theorem d16_16 : decode prog_20_method_7_code 16 = .ok (.areturn, 1) := by decide +kernel
theorem ef_16_20 (m : MethodId) (x0 : Addr) (x1 : Int32) : entryFrame m #[(.ref x0), (.int x1)] 2 = mkF m 0 #[.val (.ref x0), .val (.int x1)] [] := by first | (simp [entryFrame, mkF, argsToLocals, Value.category]; done) | rfl
set_option maxRecDepth 65536 in
set_option maxHeartbeats 40000000 in
theorem r_low (l : Launch) (Z : State) (a0 : Array Value) (hw : ∀ d ∈ tables_1, d.before a0 Z = true) (ws : List Jvm.Cond) (s_T s_Z s_1 m_Z : Addr) (k_Z : ClassId) (h0 : Heap) (n0 : Nat) (O0 : Old Z n0 h0) (G : own_Ctx Z Z.heap s_T s_Z s_1 m_Z k_Z) (z ar : Addr) (kk : ClassId) (n : Int32) (c1 : Int32) (Ez : Exa Z h0 z "com/example/hodos/hodos/analysis/Zone") (Fa : Fld Z h0 z "com/example/hodos/hodos/analysis/Zone" "size" "I" (.int (n + (1 : Int32)))) (Fb : Fld Z h0 z "com/example/hodos/hodos/analysis/Zone" "numerators" "[J" (.ref ar)) (Fc : Fld Z h0 z "com/example/hodos/hodos/analysis/Zone" "denominator" "J" (.long (1 : Int64))) (Fd : Fld Z h0 z "com/example/hodos/hodos/analysis/Zone" "exact" "[Lcom/example/hodos/hodos/model/Time;" .null) (Va : Arv Z h0 ar kk .long ((n + (1 : Int32)) * (n + (1 : Int32))) [] (.long (0 : Int64))) (h1c1 : ¬ (c1 < (0 : Int32))) (h2c1 : c1 < ((n + (1 : Int32)) - (1 : Int32))) (hi1 : ¬ ((((0 : Int32) * (n + (1 : Int32))) + (c1 + (1 : Int32))) < (0 : Int32))) (hi2 : (((0 : Int32) * (n + (1 : Int32))) + (c1 + (1 : Int32))) < ((n + (1 : Int32)) * (n + (1 : Int32)))) :
    MetFree l (⟨"com/example/hodos/hodos/analysis/Zone", "lower", "(I)Lcom/example/hodos/hodos/model/Time;"⟩ : MethodName) (head1 (Jvm.Cond.code (⟨"com/example/hodos/hodos/analysis/Zone", "lower", "(I)Lcom/example/hodos/hodos/model/Time;"⟩ : MethodName) prog_20_method_7_code 2 (some (.object "com/example/hodos/hodos/model/Time")) :: ws) ({ frames := 5, cells := 3, slots := 10, locals := 71 } : Room)) (fun a U => a = #[(.ref z), (.int c1)] ∧ Z.Warmed39 U.vm ∧ U.heap = h0) (fun _ _ _ _ _ => True) (fun _ U o U' => ∃ v L, o = .returned v ∧ own_Qk (some (.ref s_T)) h0 n0 v U'.heap L ∧ FrameEnd U o U' L ({ frames := 5, cells := 3, slots := 10, locals := 71 } : Room).cells ({ frames := 5, cells := 3, slots := 10, locals := 71 } : Room).slots) := by
  have G0 := G
  obtain ⟨S_T, E_T, N_T, D_T, S_Z, E_Z, G_Z, M_Z, V_Z, S_1, E_1, G_1⟩ := G
  refine MetFree.of_bodySF (plainFor_of_name pn_0) hisR ?_
  intro p e s m args below meth c s₁ Bd hml0 hP hK
  obtain ⟨rfl, hZ, hh⟩ := hP
  have hx := Bd.exec
  have hby := Bd.bytes
  have hml : c.maxLocals = 2 := hml0
  have hown : s.vm.findClass "com/example/hodos/hodos/analysis/Zone" = some m.cls := findClass_of_methodNamed Bd.named
  have hnm := (name_of_methodNamed Bd.named Bd.method).1
  have X0 : Stand p l e ({ frames := 5, cells := 3, slots := 10, locals := 71 } : Room) s m #[(.ref z), (.int c1)] below meth c s₁ [] 0 0 := Stand.of_body Bd
  have e0 : s₁.heap = h0 := by rw [← hh, Bd.state]; rfl
  have N0 := Fr.nil n0
  have pre0 : ∀ t, Steps p.tables e below (s₁.setTop (mkF m 0 #[.val (.ref z), .val (.int c1)] [])) t → Steps p.tables e below (s₁.setTop (entryFrame m #[(.ref z), (.int c1)] 2)) t := fun t k => castTop (ef_16_20 m z c1) k
  obtain ⟨T1, X1, e1, st1⟩ := getS2 X0 hx hZ hown (host := "") (Or.inl (hw _ (List.mem_of_getElem? (i := 91) rfl))) Via.refl e0 (S_T.ext O0.2) (g := (mkF m 0 #[.val (.ref z), .val (.int c1)] [])) rfl (hb hby d16_0)
  obtain ⟨cq2, q2, q2'⟩ := Ez.cell
  obtain ⟨_, _, ⟨T2, L2, k2, n2⟩, -, X2, ⟨Lc2, hQ2, l2, y2, z2⟩, st2⟩ := X1.privateBack hx (y := (⟨"com/example/hodos/hodos/analysis/Zone", "row", "(I)I"⟩ : MethodName)) hown (mvT hZ (hw _ (List.mem_of_getElem? (i := 35) rfl))) (mvT hZ (hw _ (List.mem_of_getElem? (i := 36) rfl))) (own_selP hZ (hw _ (List.mem_of_getElem? (i := 5) rfl)) (hw _ (List.mem_of_getElem? (i := 36) rfl)) (hw _ (List.mem_of_getElem? (i := 37) rfl)) (by decide)) (Cond.privateMethod_at (mvP hZ (hw _ (List.mem_of_getElem? (i := 37) rfl)) (args := #[]))) (mvT hZ (hw _ (List.mem_of_getElem? (i := 38) rfl))) (by decide) (backOf (W := 3) (r_row l Z a0 hw [] s_T s_Z s_1 m_Z k_Z h0 n0 O0 G0 z ar kk n c1 Ez Fa Fb Fc Fd Va h1c1 h2c1) hZ (hw _ (List.mem_of_getElem? (i := 38) rfl)) (hw _ (List.mem_of_getElem? (i := 2) rfl)) (by decide) (by decide)) (g := (mkF m 7 #[.val (.ref z), .val (.int c1)] [(.int c1), (.ref z), (.int (0 : Int32)), (.ref z), (.ref s_T)])) rfl (by rw [hml]; rfl) (Steps.refl _) (a := z) (by rw [e1]; exact q2) q2' (argsL := [(.int c1)]) (rest := [(.int (0 : Int32)), (.ref z), (.ref s_T)]) (lenOf pd_7 rfl) rfl (by show 2 * 0 + _ ≤ _; exact Nat.le_of_eq rfl) (hb hby d16_7) (fun _ _ => ⟨rfl, e1, (by decide : 0 + 0 ≤ _), (by decide : 0 + 0 ≤ _)⟩)
  dsimp only [Pt.U, Pt.locs, Pt.cells, Pt.slots] at X2 l2 y2 z2 st2 hQ2
  subst l2 y2 z2
  obtain ⟨rfl, N2q, e2⟩ := hQ2
  have N2 := Fr.app N0 N2q
  obtain ⟨cq3, q3, q3'⟩ := Ez.cell
  obtain ⟨_, _, ⟨T3, L3, k3, n3⟩, -, X3, ⟨Lc3, hQ3, l3, y3, z3⟩, st3⟩ := X2.privateBack hx (y := (⟨"com/example/hodos/hodos/analysis/Zone", "bound", "(II)Lcom/example/hodos/hodos/model/Time;"⟩ : MethodName)) hown (mvT hZ (hw _ (List.mem_of_getElem? (i := 47) rfl))) (mvT hZ (hw _ (List.mem_of_getElem? (i := 48) rfl))) (own_selP hZ (hw _ (List.mem_of_getElem? (i := 5) rfl)) (hw _ (List.mem_of_getElem? (i := 48) rfl)) (hw _ (List.mem_of_getElem? (i := 49) rfl)) (by decide)) (Cond.privateMethod_at (mvP hZ (hw _ (List.mem_of_getElem? (i := 49) rfl)) (args := #[]))) (mvT hZ (hw _ (List.mem_of_getElem? (i := 50) rfl))) (by decide) (backOf (W := 1) (r_b2 l Z a0 hw [] s_T s_Z s_1 m_Z k_Z h0 n0 O0 G0 z ar kk n (0 : Int32) (c1 + (1 : Int32)) Ez Fa Fb Fc Fd Va hi1 hi2) hZ (hw _ (List.mem_of_getElem? (i := 50) rfl)) (hw _ (List.mem_of_getElem? (i := 2) rfl)) (by decide) (by decide)) (g := (mkF m 10 #[.val (.ref z), .val (.int c1)] [(.int (c1 + (1 : Int32))), (.int (0 : Int32)), (.ref z), (.ref s_T)])) rfl (by rw [hml]; rfl) (Steps.refl _) (a := z) (by rw [e2]; exact q3) q3' (argsL := [(.int (0 : Int32)), (.int (c1 + (1 : Int32)))]) (rest := [(.ref s_T)]) (lenOf pd_8 rfl) rfl (by show 2 * 0 + _ ≤ _; exact Nat.le_of_eq rfl) (hb hby d16_10) (fun _ _ => ⟨rfl, e2, (by decide : 0 + 1 ≤ _), (by decide : 0 + 2 ≤ _)⟩)
  dsimp only [Pt.U, Pt.locs, Pt.cells, Pt.slots] at X3 l3 y3 z3 st3 hQ3
  subst l3 y3 z3
  obtain ⟨t3, rfl, N3q, Kq3, gt3, Et3, Fn3, Fd3⟩ := hQ3
  have N3 := Fr.app N2 N3q
  have ne_z_t3 : z ≠ t3 := Nat.ne_of_lt (Nat.lt_of_lt_of_le Ez.lt gt3)
  have ne_ar_t3 : ar ≠ t3 := Nat.ne_of_lt (Nat.lt_of_lt_of_le Va.lt gt3)
  have ne_s_T_t3 : s_T ≠ t3 := Nat.ne_of_lt (Nat.lt_of_lt_of_le (E_T.ext O0.2).lt gt3)
  have ne_s_Z_t3 : s_Z ≠ t3 := Nat.ne_of_lt (Nat.lt_of_lt_of_le (E_Z.ext O0.2).lt gt3)
  have ne_s_1_t3 : s_1 ≠ t3 := Nat.ne_of_lt (Nat.lt_of_lt_of_le (E_1.ext O0.2).lt gt3)
  have g_t3 : n0 ≤ t3 := Nat.le_trans (O0.1 ▸ O0.2.1) gt3
  have sz_t3 : h0.size ≤ t3 := Nat.le_trans (Keep.refl h0 []).1 gt3
  have f4 := Ez.keep Kq3
  have f5 := Va.keep Kq3 (fun q => nomatch q)
  have f6 := Fa.keep Kq3 (fun q => nomatch q)
  have f7 := Fb.keep Kq3 (fun q => nomatch q)
  have f8 := Fc.keep Kq3 (fun q => nomatch q)
  have f9 := Fd.keep Kq3 (fun q => nomatch q)
  have O3 := O0.keep Kq3 all0
  have K3 : Keep h0 T3.heap [] := (Keep.refl h0 []).trans Kq3 all0
  obtain ⟨cq10, kq10, q10a, q10b, q10c⟩ := isOf hZ rfl (E_T.ext O3.2)
  obtain ⟨_, _, ⟨T10, L10, k10, n10⟩, -, X10, ⟨Lc10, hQ10, l10, y10, z10⟩, st10⟩ := X3.virtualBack hx (y := (⟨"com/example/hodos/hodos/model/Time", "minus", "(Lcom/example/hodos/hodos/model/Time;)Lcom/example/hodos/hodos/model/Time;"⟩ : MethodName)) (z := (⟨"com/example/hodos/hodos/model/Time", "minus", "(Lcom/example/hodos/hodos/model/Time;)Lcom/example/hodos/hodos/model/Time;"⟩ : MethodName)) hown (mvT hZ (hw _ (List.mem_of_getElem? (i := 92) rfl))) (mvT hZ (hw _ (List.mem_of_getElem? (i := 93) rfl))) (notFace_of_selects (args := #[]) (mvT hZ (hw _ (List.mem_of_getElem? (i := 95) rfl)))) (mvT hZ (hw _ (List.mem_of_getElem? (i := 95) rfl))) (mvT hZ (hw _ (List.mem_of_getElem? (i := 94) rfl))) (by decide) (backOf (W := 0) (r_minus l Z a0 hw [] s_T s_Z s_1 m_Z k_Z T3.heap n0 O3 G0 t3 Et3 Fn3 Fd3) hZ (hw _ (List.mem_of_getElem? (i := 96) rfl)) (hw _ (List.mem_of_getElem? (i := 28) rfl)) (by decide) (by decide)) q10a q10c (g := (mkF m 13 #[.val (.ref z), .val (.int c1)] [(.ref t3), (.ref s_T)])) rfl (by rw [hml]; rfl) (Steps.refl _) (argsL := [(.ref t3)]) (rest := []) (lenOf pd_14 rfl) rfl (by show 2 * 0 + _ ≤ _; exact Nat.le_of_eq rfl) (hb hby d16_13) (fun _ _ => ⟨rfl, rfl, (by decide : 1 + 2 ≤ _), (by decide : 2 + 8 ≤ _)⟩)
  dsimp only [Pt.U, Pt.locs, Pt.cells, Pt.slots] at X10 l10 y10 z10 st10 hQ10
  subst l10 y10 z10
  obtain ⟨rfl, N10q, Kq10⟩ := hQ10
  have N10 := Fr.app N3 N10q
  have f11 := f4.keep Kq10
  have f12 := f5.keep Kq10 (fun q => nomatch q)
  have f13 := f6.keep Kq10 (fun q => nomatch q)
  have f14 := f7.keep Kq10 (fun q => nomatch q)
  have f15 := f8.keep Kq10 (fun q => nomatch q)
  have f16 := f9.keep Kq10 (fun q => nomatch q)
  have f17 := Et3.keep Kq10
  have f18 := Fn3.keep Kq10 (fun q => nomatch q)
  have f19 := Fd3.keep Kq10 (fun q => nomatch q)
  have O10 := O3.keep Kq10 all0
  have K10 : Keep h0 T10.heap [] := K3.trans Kq10 all0
  obtain ⟨fs, hr, hrun, hended, hW, hsame⟩ := X10.leave (v := some (.ref s_T)) (fun h => by rw [Bd.returns] at h; cases h)
  refine ⟨_, _, pre0 _ ?_, hrun, hended, _, _, rfl, ?_, ⟨_, rfl⟩, hW, hsame.mono (by decide) (by decide)⟩
  · show Steps p.tables e below (s₁.setTop (mkF m 0 #[.val (.ref z), .val (.int c1)] [])) _
    refine st1 _ ?_
    show Steps p.tables e below (T1.setTop (mkF m 3 #[.val (.ref z), .val (.int c1)] [(.ref s_T)])) _
    refine XS.aloadN X1.here hx rfl (hb hby d16_3) rfl rfl ?_
    show Steps p.tables e below (T1.setTop (mkF m 4 #[.val (.ref z), .val (.int c1)] [(.ref z), (.ref s_T)])) _
    refine XS.iconst X1.here hx rfl (hb hby d16_4) ?_
    show Steps p.tables e below (T1.setTop (mkF m 5 #[.val (.ref z), .val (.int c1)] [(.int (0 : Int32)), (.ref z), (.ref s_T)])) _
    refine XS.aloadN X1.here hx rfl (hb hby d16_5) rfl rfl ?_
    show Steps p.tables e below (T1.setTop (mkF m 6 #[.val (.ref z), .val (.int c1)] [(.ref z), (.int (0 : Int32)), (.ref z), (.ref s_T)])) _
    refine XS.iloadN X1.here hx rfl (hb hby d16_6) rfl ?_
    show Steps p.tables e below (T1.setTop (mkF m 7 #[.val (.ref z), .val (.int c1)] [(.int c1), (.ref z), (.int (0 : Int32)), (.ref z), (.ref s_T)])) _
    refine st2.trans ?_
    show Steps p.tables e below (T2.setTop (mkF m 10 #[.val (.ref z), .val (.int c1)] [(.int (c1 + (1 : Int32))), (.int (0 : Int32)), (.ref z), (.ref s_T)])) _
    refine st3.trans ?_
    show Steps p.tables e below (T3.setTop (mkF m 13 #[.val (.ref z), .val (.int c1)] [(.ref t3), (.ref s_T)])) _
    refine st10.trans ?_
    show Steps p.tables e below (T10.setTop (mkF m 16 #[.val (.ref z), .val (.int c1)] [(.ref s_T)])) _
    exact retOut X10 hx Bd.returns rfl (Or.inr (Or.inr (Or.inr (Or.inr ⟨rfl, rfl, rfl⟩)))) (hb hby d16_16) hr
  · show own_Qk (some (.ref s_T)) h0 n0 _ T10.heap _
    exact ⟨rfl, N10, K10⟩
theorem d15_0 : decode jdk_2097_method_124_code 0 = .ok (.aload_n 1, 1) := by decide +kernel
theorem d15_1 : decode jdk_2097_method_124_code 1 = .ok (.aload_n 0, 1) := by decide +kernel
theorem d15_2 : decode jdk_2097_method_124_code 2 = .ok (.if_acmp .ne 5, 3) := by decide +kernel
theorem d15_5 : decode jdk_2097_method_124_code 5 = .ok (.iconst 1, 1) := by decide +kernel
theorem d15_6 : decode jdk_2097_method_124_code 6 = .ok (.ireturn, 1) := by decide +kernel
theorem ef_15_21 (m : MethodId) (x0 : Addr) (x1 : Addr) : entryFrame m #[(.ref x0), (.ref x1)] 7 = mkF m 0 #[.val (.ref x0), .val (.ref x1), .unset, .unset, .unset, .unset, .unset] [] := by first | (simp [entryFrame, mkF, argsToLocals, Value.category]; done) | rfl
set_option maxRecDepth 65536 in
set_option maxHeartbeats 40000000 in
theorem r_beq_s_Z (l : Launch) (Z : State) (a0 : Array Value) (hw : ∀ d ∈ tables_1, d.before a0 Z = true) (ws : List Jvm.Cond) (s_T s_Z s_1 m_Z : Addr) (k_Z : ClassId) (h0 : Heap) (n0 : Nat) (O0 : Old Z n0 h0) (G : own_Ctx Z Z.heap s_T s_Z s_1 m_Z k_Z)   :
    MetFree l (⟨"java/math/BigInteger", "equals", "(Ljava/lang/Object;)Z"⟩ : MethodName) (head1 (Jvm.Cond.code (⟨"java/math/BigInteger", "equals", "(Ljava/lang/Object;)Z"⟩ : MethodName) jdk_2097_method_124_code 7 (some .boolean) :: ws) ({ frames := 0, cells := 0, slots := 0, locals := 0 } : Room)) (fun a U => a = #[(.ref s_Z), (.ref s_Z)] ∧ Z.Warmed39 U.vm ∧ U.heap = h0) (fun _ _ _ _ _ => True) (fun _ U o U' => ∃ v L, o = .returned v ∧ own_Q (some (.int (1 : Int32))) h0 n0 v U'.heap L ∧ FrameEnd U o U' L ({ frames := 0, cells := 0, slots := 0, locals := 0 } : Room).cells ({ frames := 0, cells := 0, slots := 0, locals := 0 } : Room).slots) := by
  have G0 := G
  obtain ⟨S_T, E_T, N_T, D_T, S_Z, E_Z, G_Z, M_Z, V_Z, S_1, E_1, G_1⟩ := G
  refine MetFree.of_bodySF (plainFor_of_name pn_4) hisR ?_
  intro p e s m args below meth c s₁ Bd hml0 hP hK
  obtain ⟨rfl, hZ, hh⟩ := hP
  have hx := Bd.exec
  have hby := Bd.bytes
  have hml : c.maxLocals = 7 := hml0
  have hown : s.vm.findClass "java/math/BigInteger" = some m.cls := findClass_of_methodNamed Bd.named
  have hnm := (name_of_methodNamed Bd.named Bd.method).1
  have X0 : Stand p l e ({ frames := 0, cells := 0, slots := 0, locals := 0 } : Room) s m #[(.ref s_Z), (.ref s_Z)] below meth c s₁ [] 0 0 := Stand.of_body Bd
  have e0 : s₁.heap = h0 := by rw [← hh, Bd.state]; rfl
  have N0 := Fr.nil n0
  have pre0 : ∀ t, Steps p.tables e below (s₁.setTop (mkF m 0 #[.val (.ref s_Z), .val (.ref s_Z), .unset, .unset, .unset, .unset, .unset] [])) t → Steps p.tables e below (s₁.setTop (entryFrame m #[(.ref s_Z), (.ref s_Z)] 7)) t := fun t k => castTop (ef_15_21 m s_Z s_Z) k
  obtain ⟨fs, hr, hrun, hended, hW, hsame⟩ := X0.leave (v := some (.int (1 : Int32))) (fun h => by rw [Bd.returns] at h; cases h)
  refine ⟨_, _, pre0 _ ?_, hrun, hended, _, _, rfl, ?_, ⟨_, rfl⟩, hW, hsame.mono (by decide) (by decide)⟩
  · show Steps p.tables e below (s₁.setTop (mkF m 0 #[.val (.ref s_Z), .val (.ref s_Z), .unset, .unset, .unset, .unset, .unset] [])) _
    refine XS.aloadN X0.here hx rfl (hb hby d15_0) rfl rfl ?_
    show Steps p.tables e below (s₁.setTop (mkF m 1 #[.val (.ref s_Z), .val (.ref s_Z), .unset, .unset, .unset, .unset, .unset] [(.ref s_Z)])) _
    refine XS.aloadN X0.here hx rfl (hb hby d15_1) rfl rfl ?_
    show Steps p.tables e below (s₁.setTop (mkF m 2 #[.val (.ref s_Z), .val (.ref s_Z), .unset, .unset, .unset, .unset, .unset] [(.ref s_Z), (.ref s_Z)])) _
    refine Jvm.RoadKit.acmp (g := (mkF m 2 #[.val (.ref s_Z), .val (.ref s_Z), .unset, .unset, .unset, .unset, .unset] [(.ref s_Z), (.ref s_Z)])) X0 hx rfl rfl rfl (pc0 := 2) (pc' := 5) (same := true) rfl (hb hby d15_2) rfl (decide_eq_true rfl) (by decide) (by decide) ?_
    show Steps p.tables e below (s₁.setTop (mkF m 5 #[.val (.ref s_Z), .val (.ref s_Z), .unset, .unset, .unset, .unset, .unset] [])) _
    refine XS.iconst X0.here hx rfl (hb hby d15_5) ?_
    show Steps p.tables e below (s₁.setTop (mkF m 6 #[.val (.ref s_Z), .val (.ref s_Z), .unset, .unset, .unset, .unset, .unset] [(.int (1 : Int32))])) _
    exact retN X0 hx (t := .boolean) Bd.returns (by simp) (hb hby d15_6) hr
  · show own_Q (some (.int (1 : Int32))) h0 n0 _ s₁.heap _
    rw [e0]
    exact ⟨rfl, N0, rfl⟩
set_option maxRecDepth 65536 in
set_option maxHeartbeats 40000000 in
theorem r_beq_s_1 (l : Launch) (Z : State) (a0 : Array Value) (hw : ∀ d ∈ tables_1, d.before a0 Z = true) (ws : List Jvm.Cond) (s_T s_Z s_1 m_Z : Addr) (k_Z : ClassId) (h0 : Heap) (n0 : Nat) (O0 : Old Z n0 h0) (G : own_Ctx Z Z.heap s_T s_Z s_1 m_Z k_Z)   :
    MetFree l (⟨"java/math/BigInteger", "equals", "(Ljava/lang/Object;)Z"⟩ : MethodName) (head1 (Jvm.Cond.code (⟨"java/math/BigInteger", "equals", "(Ljava/lang/Object;)Z"⟩ : MethodName) jdk_2097_method_124_code 7 (some .boolean) :: ws) ({ frames := 0, cells := 0, slots := 0, locals := 0 } : Room)) (fun a U => a = #[(.ref s_1), (.ref s_1)] ∧ Z.Warmed39 U.vm ∧ U.heap = h0) (fun _ _ _ _ _ => True) (fun _ U o U' => ∃ v L, o = .returned v ∧ own_Q (some (.int (1 : Int32))) h0 n0 v U'.heap L ∧ FrameEnd U o U' L ({ frames := 0, cells := 0, slots := 0, locals := 0 } : Room).cells ({ frames := 0, cells := 0, slots := 0, locals := 0 } : Room).slots) := by
  have G0 := G
  obtain ⟨S_T, E_T, N_T, D_T, S_Z, E_Z, G_Z, M_Z, V_Z, S_1, E_1, G_1⟩ := G
  refine MetFree.of_bodySF (plainFor_of_name pn_4) hisR ?_
  intro p e s m args below meth c s₁ Bd hml0 hP hK
  obtain ⟨rfl, hZ, hh⟩ := hP
  have hx := Bd.exec
  have hby := Bd.bytes
  have hml : c.maxLocals = 7 := hml0
  have hown : s.vm.findClass "java/math/BigInteger" = some m.cls := findClass_of_methodNamed Bd.named
  have hnm := (name_of_methodNamed Bd.named Bd.method).1
  have X0 : Stand p l e ({ frames := 0, cells := 0, slots := 0, locals := 0 } : Room) s m #[(.ref s_1), (.ref s_1)] below meth c s₁ [] 0 0 := Stand.of_body Bd
  have e0 : s₁.heap = h0 := by rw [← hh, Bd.state]; rfl
  have N0 := Fr.nil n0
  have pre0 : ∀ t, Steps p.tables e below (s₁.setTop (mkF m 0 #[.val (.ref s_1), .val (.ref s_1), .unset, .unset, .unset, .unset, .unset] [])) t → Steps p.tables e below (s₁.setTop (entryFrame m #[(.ref s_1), (.ref s_1)] 7)) t := fun t k => castTop (ef_15_21 m s_1 s_1) k
  obtain ⟨fs, hr, hrun, hended, hW, hsame⟩ := X0.leave (v := some (.int (1 : Int32))) (fun h => by rw [Bd.returns] at h; cases h)
  refine ⟨_, _, pre0 _ ?_, hrun, hended, _, _, rfl, ?_, ⟨_, rfl⟩, hW, hsame.mono (by decide) (by decide)⟩
  · show Steps p.tables e below (s₁.setTop (mkF m 0 #[.val (.ref s_1), .val (.ref s_1), .unset, .unset, .unset, .unset, .unset] [])) _
    refine XS.aloadN X0.here hx rfl (hb hby d15_0) rfl rfl ?_
    show Steps p.tables e below (s₁.setTop (mkF m 1 #[.val (.ref s_1), .val (.ref s_1), .unset, .unset, .unset, .unset, .unset] [(.ref s_1)])) _
    refine XS.aloadN X0.here hx rfl (hb hby d15_1) rfl rfl ?_
    show Steps p.tables e below (s₁.setTop (mkF m 2 #[.val (.ref s_1), .val (.ref s_1), .unset, .unset, .unset, .unset, .unset] [(.ref s_1), (.ref s_1)])) _
    refine Jvm.RoadKit.acmp (g := (mkF m 2 #[.val (.ref s_1), .val (.ref s_1), .unset, .unset, .unset, .unset, .unset] [(.ref s_1), (.ref s_1)])) X0 hx rfl rfl rfl (pc0 := 2) (pc' := 5) (same := true) rfl (hb hby d15_2) rfl (decide_eq_true rfl) (by decide) (by decide) ?_
    show Steps p.tables e below (s₁.setTop (mkF m 5 #[.val (.ref s_1), .val (.ref s_1), .unset, .unset, .unset, .unset, .unset] [])) _
    refine XS.iconst X0.here hx rfl (hb hby d15_5) ?_
    show Steps p.tables e below (s₁.setTop (mkF m 6 #[.val (.ref s_1), .val (.ref s_1), .unset, .unset, .unset, .unset, .unset] [(.int (1 : Int32))])) _
    exact retN X0 hx (t := .boolean) Bd.returns (by simp) (hb hby d15_6) hr
  · show own_Q (some (.int (1 : Int32))) h0 n0 _ s₁.heap _
    rw [e0]
    exact ⟨rfl, N0, rfl⟩
theorem d14_0 : decode prog_69_method_14_code 0 = .ok (.aload_n 1, 1) := by decide +kernel
theorem d14_1 : decode prog_69_method_14_code 1 = .ok (.aload_n 0, 1) := by decide +kernel
theorem d14_2 : decode prog_69_method_14_code 2 = .ok (.if_acmp .eq 43, 3) := by decide +kernel
theorem d14_45 : decode prog_69_method_14_code 45 = .ok (.iconst 1, 1) := by decide +kernel
theorem d14_46 : decode prog_69_method_14_code 46 = .ok (.goto 4, 3) := by decide +kernel
theorem d14_50 : decode prog_69_method_14_code 50 = .ok (.ireturn, 1) := by decide +kernel
theorem ef_14_22 (m : MethodId) (x0 : Addr) (x1 : Addr) : entryFrame m #[(.ref x0), (.ref x1)] 3 = mkF m 0 #[.val (.ref x0), .val (.ref x1), .unset] [] := by first | (simp [entryFrame, mkF, argsToLocals, Value.category]; done) | rfl
set_option maxRecDepth 65536 in
set_option maxHeartbeats 40000000 in
theorem r_eqs (l : Launch) (Z : State) (a0 : Array Value) (hw : ∀ d ∈ tables_1, d.before a0 Z = true) (ws : List Jvm.Cond) (s_T s_Z s_1 m_Z : Addr) (k_Z : ClassId) (h0 : Heap) (n0 : Nat) (O0 : Old Z n0 h0) (G : own_Ctx Z Z.heap s_T s_Z s_1 m_Z k_Z)   :
    MetFree l (⟨"com/example/hodos/hodos/model/Time", "equals", "(Ljava/lang/Object;)Z"⟩ : MethodName) (head1 (Jvm.Cond.code (⟨"com/example/hodos/hodos/model/Time", "equals", "(Ljava/lang/Object;)Z"⟩ : MethodName) prog_69_method_14_code 3 (some .boolean) :: ws) ({ frames := 0, cells := 0, slots := 0, locals := 0 } : Room)) (fun a U => a = #[(.ref s_T), (.ref s_T)] ∧ Z.Warmed39 U.vm ∧ U.heap = h0) (fun _ _ _ _ _ => True) (fun _ U o U' => ∃ v L, o = .returned v ∧ own_Q (some (.int (1 : Int32))) h0 n0 v U'.heap L ∧ FrameEnd U o U' L ({ frames := 0, cells := 0, slots := 0, locals := 0 } : Room).cells ({ frames := 0, cells := 0, slots := 0, locals := 0 } : Room).slots) := by
  have G0 := G
  obtain ⟨S_T, E_T, N_T, D_T, S_Z, E_Z, G_Z, M_Z, V_Z, S_1, E_1, G_1⟩ := G
  refine MetFree.of_bodySF (plainFor_of_name pn_3) hisR ?_
  intro p e s m args below meth c s₁ Bd hml0 hP hK
  obtain ⟨rfl, hZ, hh⟩ := hP
  have hx := Bd.exec
  have hby := Bd.bytes
  have hml : c.maxLocals = 3 := hml0
  have hown : s.vm.findClass "com/example/hodos/hodos/model/Time" = some m.cls := findClass_of_methodNamed Bd.named
  have hnm := (name_of_methodNamed Bd.named Bd.method).1
  have X0 : Stand p l e ({ frames := 0, cells := 0, slots := 0, locals := 0 } : Room) s m #[(.ref s_T), (.ref s_T)] below meth c s₁ [] 0 0 := Stand.of_body Bd
  have e0 : s₁.heap = h0 := by rw [← hh, Bd.state]; rfl
  have N0 := Fr.nil n0
  have pre0 : ∀ t, Steps p.tables e below (s₁.setTop (mkF m 0 #[.val (.ref s_T), .val (.ref s_T), .unset] [])) t → Steps p.tables e below (s₁.setTop (entryFrame m #[(.ref s_T), (.ref s_T)] 3)) t := fun t k => castTop (ef_14_22 m s_T s_T) k
  obtain ⟨fs, hr, hrun, hended, hW, hsame⟩ := X0.leave (v := some (.int (1 : Int32))) (fun h => by rw [Bd.returns] at h; cases h)
  refine ⟨_, _, pre0 _ ?_, hrun, hended, _, _, rfl, ?_, ⟨_, rfl⟩, hW, hsame.mono (by decide) (by decide)⟩
  · show Steps p.tables e below (s₁.setTop (mkF m 0 #[.val (.ref s_T), .val (.ref s_T), .unset] [])) _
    refine XS.aloadN X0.here hx rfl (hb hby d14_0) rfl rfl ?_
    show Steps p.tables e below (s₁.setTop (mkF m 1 #[.val (.ref s_T), .val (.ref s_T), .unset] [(.ref s_T)])) _
    refine XS.aloadN X0.here hx rfl (hb hby d14_1) rfl rfl ?_
    show Steps p.tables e below (s₁.setTop (mkF m 2 #[.val (.ref s_T), .val (.ref s_T), .unset] [(.ref s_T), (.ref s_T)])) _
    refine Jvm.RoadKit.acmp (g := (mkF m 2 #[.val (.ref s_T), .val (.ref s_T), .unset] [(.ref s_T), (.ref s_T)])) X0 hx rfl rfl rfl (pc0 := 2) (pc' := 45) (same := true) rfl (hb hby d14_2) rfl (decide_eq_true rfl) (by decide) (by decide) ?_
    show Steps p.tables e below (s₁.setTop (mkF m 45 #[.val (.ref s_T), .val (.ref s_T), .unset] [])) _
    refine XS.iconst X0.here hx rfl (hb hby d14_45) ?_
    show Steps p.tables e below (s₁.setTop (mkF m 46 #[.val (.ref s_T), .val (.ref s_T), .unset] [(.int (1 : Int32))])) _
    refine XS.goto X0.here hx rfl (pc0 := 46) (pc' := 50) rfl (hb hby d14_46) (by decide) (by decide) ?_
    show Steps p.tables e below (s₁.setTop (mkF m 50 #[.val (.ref s_T), .val (.ref s_T), .unset] [(.int (1 : Int32))])) _
    exact retN X0 hx (t := .boolean) Bd.returns (by simp) (hb hby d14_50) hr
  · show own_Q (some (.int (1 : Int32))) h0 n0 _ s₁.heap _
    rw [e0]
    exact ⟨rfl, N0, rfl⟩
theorem d14_5 : decode prog_69_method_14_code 5 = .ok (.aload_n 1, 1) := by decide +kernel
theorem d14_6 : decode prog_69_method_14_code 6 = .ok (.instanceof 8, 3) := by decide +kernel
theorem d14_9 : decode prog_69_method_14_code 9 = .ok (.ifCond .eq 40, 3) := by decide +kernel
theorem d14_12 : decode prog_69_method_14_code 12 = .ok (.aload_n 1, 1) := by decide +kernel
theorem d14_13 : decode prog_69_method_14_code 13 = .ok (.checkcast 8, 3) := by decide +kernel
theorem d14_16 : decode prog_69_method_14_code 16 = .ok (.astore_n 2, 1) := by decide +kernel
theorem d14_17 : decode prog_69_method_14_code 17 = .ok (.aload_n 0, 1) := by decide +kernel
theorem d14_18 : decode prog_69_method_14_code 18 = .ok (.getfield 7, 3) := by decide +kernel
theorem d14_21 : decode prog_69_method_14_code 21 = .ok (.aload_n 2, 1) := by decide +kernel
theorem d14_22 : decode prog_69_method_14_code 22 = .ok (.getfield 7, 3) := by decide +kernel
theorem d14_25 : decode prog_69_method_14_code 25 = .ok (.invokevirtual 161, 3) := by decide +kernel
theorem pd_15 : parseMethodDescriptor "(Ljava/lang/Object;)Z" = some ⟨[(.object "java/lang/Object")], some .boolean⟩ := by decide +kernel
theorem d14_28 : decode prog_69_method_14_code 28 = .ok (.ifCond .eq 21, 3) := by decide +kernel
theorem d14_31 : decode prog_69_method_14_code 31 = .ok (.aload_n 0, 1) := by decide +kernel
theorem d14_32 : decode prog_69_method_14_code 32 = .ok (.getfield 13, 3) := by decide +kernel
theorem d14_35 : decode prog_69_method_14_code 35 = .ok (.aload_n 2, 1) := by decide +kernel
theorem d14_36 : decode prog_69_method_14_code 36 = .ok (.getfield 13, 3) := by decide +kernel
theorem d14_39 : decode prog_69_method_14_code 39 = .ok (.invokevirtual 161, 3) := by decide +kernel
theorem d14_42 : decode prog_69_method_14_code 42 = .ok (.ifCond .eq 7, 3) := by decide +kernel
set_option maxRecDepth 65536 in
set_option maxHeartbeats 40000000 in
theorem r_eqt (l : Launch) (Z : State) (a0 : Array Value) (hw : ∀ d ∈ tables_1, d.before a0 Z = true) (ws : List Jvm.Cond) (s_T s_Z s_1 m_Z : Addr) (k_Z : ClassId) (h0 : Heap) (n0 : Nat) (O0 : Old Z n0 h0) (G : own_Ctx Z Z.heap s_T s_Z s_1 m_Z k_Z) (a1 : Addr) (Ea : Exa Z h0 a1 "com/example/hodos/hodos/model/Time") (Fn : Fld Z h0 a1 "com/example/hodos/hodos/model/Time" "numerator" "Ljava/math/BigInteger;" (.ref s_Z)) (Fd : Fld Z h0 a1 "com/example/hodos/hodos/model/Time" "denominator" "Ljava/math/BigInteger;" (.ref s_1)) (hne : ¬ (a1 = s_T)) :
    MetFree l (⟨"com/example/hodos/hodos/model/Time", "equals", "(Ljava/lang/Object;)Z"⟩ : MethodName) (head1 (Jvm.Cond.code (⟨"com/example/hodos/hodos/model/Time", "equals", "(Ljava/lang/Object;)Z"⟩ : MethodName) prog_69_method_14_code 3 (some .boolean) :: ws) ({ frames := 1, cells := 0, slots := 0, locals := 18 } : Room)) (fun a U => a = #[(.ref s_T), (.ref a1)] ∧ Z.Warmed39 U.vm ∧ U.heap = h0) (fun _ _ _ _ _ => True) (fun _ U o U' => ∃ v L, o = .returned v ∧ own_Q (some (.int (1 : Int32))) h0 n0 v U'.heap L ∧ FrameEnd U o U' L ({ frames := 1, cells := 0, slots := 0, locals := 18 } : Room).cells ({ frames := 1, cells := 0, slots := 0, locals := 18 } : Room).slots) := by
  have G0 := G
  obtain ⟨S_T, E_T, N_T, D_T, S_Z, E_Z, G_Z, M_Z, V_Z, S_1, E_1, G_1⟩ := G
  refine MetFree.of_bodySF (plainFor_of_name pn_3) hisR ?_
  intro p e s m args below meth c s₁ Bd hml0 hP hK
  obtain ⟨rfl, hZ, hh⟩ := hP
  have hx := Bd.exec
  have hby := Bd.bytes
  have hml : c.maxLocals = 3 := hml0
  have hown : s.vm.findClass "com/example/hodos/hodos/model/Time" = some m.cls := findClass_of_methodNamed Bd.named
  have hnm := (name_of_methodNamed Bd.named Bd.method).1
  have X0 : Stand p l e ({ frames := 1, cells := 0, slots := 0, locals := 18 } : Room) s m #[(.ref s_T), (.ref a1)] below meth c s₁ [] 0 0 := Stand.of_body Bd
  have e0 : s₁.heap = h0 := by rw [← hh, Bd.state]; rfl
  have N0 := Fr.nil n0
  have pre0 : ∀ t, Steps p.tables e below (s₁.setTop (mkF m 0 #[.val (.ref s_T), .val (.ref a1), .unset] [])) t → Steps p.tables e below (s₁.setTop (entryFrame m #[(.ref s_T), (.ref a1)] 3)) t := fun t k => castTop (ef_14_22 m s_T a1) k
  obtain ⟨T1, X1, e1, st1⟩ := instY X0 hx hZ hown (hw _ (List.mem_of_getElem? (i := 59) rfl)) e0 (Ins.self Ea) (g := (mkF m 6 #[.val (.ref s_T), .val (.ref a1), .unset] [(.ref a1)])) rfl rfl (hb hby d14_6)
  obtain ⟨T2, X2, e2, st2⟩ := castY X1 hx hZ hown (hw _ (List.mem_of_getElem? (i := 59) rfl)) e1 (Ins.self Ea) (g := (mkF m 13 #[.val (.ref s_T), .val (.ref a1), .unset] [(.ref a1)])) rfl rfl (hb hby d14_13)
  obtain ⟨T3, X3, e3, st3⟩ := getF X2 hx hZ hown (host := "") (Or.inl (hw _ (List.mem_of_getElem? (i := 71) rfl))) Via.refl e2 (N_T.ext O0.2) (g := (mkF m 18 #[.val (.ref s_T), .val (.ref a1), .val (.ref a1)] [(.ref s_T)])) rfl rfl (hb hby d14_18)
  obtain ⟨T4, X4, e4, st4⟩ := getF X3 hx hZ hown (host := "") (Or.inl (hw _ (List.mem_of_getElem? (i := 71) rfl))) Via.refl e3 Fn (g := (mkF m 22 #[.val (.ref s_T), .val (.ref a1), .val (.ref a1)] [(.ref a1), (.ref s_Z)])) rfl rfl (hb hby d14_22)
  obtain ⟨cq5, kq5, q5a, q5b, q5c⟩ := isOf hZ e4 (E_Z.ext O0.2)
  obtain ⟨_, _, ⟨T5, L5, k5, n5⟩, -, X5, ⟨Lc5, hQ5, l5, y5, z5⟩, st5⟩ := X4.virtualBack hx (y := (⟨"java/math/BigInteger", "equals", "(Ljava/lang/Object;)Z"⟩ : MethodName)) (z := (⟨"java/math/BigInteger", "equals", "(Ljava/lang/Object;)Z"⟩ : MethodName)) hown (mvT hZ (hw _ (List.mem_of_getElem? (i := 81) rfl))) (mvT hZ (hw _ (List.mem_of_getElem? (i := 82) rfl))) (notFace_of_selects (args := #[]) (mvT hZ (hw _ (List.mem_of_getElem? (i := 84) rfl)))) (mvT hZ (hw _ (List.mem_of_getElem? (i := 84) rfl))) (mvT hZ (hw _ (List.mem_of_getElem? (i := 83) rfl))) (by decide) (backOf (W := 0) (r_beq_s_Z l Z a0 hw [] s_T s_Z s_1 m_Z k_Z h0 n0 O0 G0) hZ (hw _ (List.mem_of_getElem? (i := 85) rfl)) (hw _ (List.mem_of_getElem? (i := 63) rfl)) (by decide) (by decide)) q5a q5c (g := (mkF m 25 #[.val (.ref s_T), .val (.ref a1), .val (.ref a1)] [(.ref s_Z), (.ref s_Z)])) rfl (by rw [hml]; rfl) (Steps.refl _) (argsL := [(.ref s_Z)]) (rest := []) (lenOf pd_15 rfl) rfl (by show 2 * 0 + _ ≤ _; exact Nat.le_of_eq rfl) (hb hby d14_25) (fun _ _ => ⟨rfl, e4, (by decide : 0 + 0 ≤ _), (by decide : 0 + 0 ≤ _)⟩)
  dsimp only [Pt.U, Pt.locs, Pt.cells, Pt.slots] at X5 l5 y5 z5 st5 hQ5
  subst l5 y5 z5
  obtain ⟨rfl, N5q, e5⟩ := hQ5
  have N5 := Fr.app N0 N5q
  obtain ⟨T6, X6, e6, st6⟩ := getF X5 hx hZ hown (host := "") (Or.inl (hw _ (List.mem_of_getElem? (i := 73) rfl))) Via.refl e5 (D_T.ext O0.2) (g := (mkF m 32 #[.val (.ref s_T), .val (.ref a1), .val (.ref a1)] [(.ref s_T)])) rfl rfl (hb hby d14_32)
  obtain ⟨T7, X7, e7, st7⟩ := getF X6 hx hZ hown (host := "") (Or.inl (hw _ (List.mem_of_getElem? (i := 73) rfl))) Via.refl e6 Fd (g := (mkF m 36 #[.val (.ref s_T), .val (.ref a1), .val (.ref a1)] [(.ref a1), (.ref s_1)])) rfl rfl (hb hby d14_36)
  obtain ⟨cq8, kq8, q8a, q8b, q8c⟩ := isOf hZ e7 (E_1.ext O0.2)
  obtain ⟨_, _, ⟨T8, L8, k8, n8⟩, -, X8, ⟨Lc8, hQ8, l8, y8, z8⟩, st8⟩ := X7.virtualBack hx (y := (⟨"java/math/BigInteger", "equals", "(Ljava/lang/Object;)Z"⟩ : MethodName)) (z := (⟨"java/math/BigInteger", "equals", "(Ljava/lang/Object;)Z"⟩ : MethodName)) hown (mvT hZ (hw _ (List.mem_of_getElem? (i := 81) rfl))) (mvT hZ (hw _ (List.mem_of_getElem? (i := 82) rfl))) (notFace_of_selects (args := #[]) (mvT hZ (hw _ (List.mem_of_getElem? (i := 84) rfl)))) (mvT hZ (hw _ (List.mem_of_getElem? (i := 84) rfl))) (mvT hZ (hw _ (List.mem_of_getElem? (i := 83) rfl))) (by decide) (backOf (W := 0) (r_beq_s_1 l Z a0 hw [] s_T s_Z s_1 m_Z k_Z h0 n0 O0 G0) hZ (hw _ (List.mem_of_getElem? (i := 85) rfl)) (hw _ (List.mem_of_getElem? (i := 63) rfl)) (by decide) (by decide)) q8a q8c (g := (mkF m 39 #[.val (.ref s_T), .val (.ref a1), .val (.ref a1)] [(.ref s_1), (.ref s_1)])) rfl (by rw [hml]; rfl) (Steps.refl _) (argsL := [(.ref s_1)]) (rest := []) (lenOf pd_15 rfl) rfl (by show 2 * 0 + _ ≤ _; exact Nat.le_of_eq rfl) (hb hby d14_39) (fun _ _ => ⟨rfl, e7, (by decide : 0 + 0 ≤ _), (by decide : 0 + 0 ≤ _)⟩)
  dsimp only [Pt.U, Pt.locs, Pt.cells, Pt.slots] at X8 l8 y8 z8 st8 hQ8
  subst l8 y8 z8
  obtain ⟨rfl, N8q, e8⟩ := hQ8
  have N8 := Fr.app N5 N8q
  obtain ⟨fs, hr, hrun, hended, hW, hsame⟩ := X8.leave (v := some (.int (1 : Int32))) (fun h => by rw [Bd.returns] at h; cases h)
  refine ⟨_, _, pre0 _ ?_, hrun, hended, _, _, rfl, ?_, ⟨_, rfl⟩, hW, hsame.mono (by decide) (by decide)⟩
  · show Steps p.tables e below (s₁.setTop (mkF m 0 #[.val (.ref s_T), .val (.ref a1), .unset] [])) _
    refine XS.aloadN X0.here hx rfl (hb hby d14_0) rfl rfl ?_
    show Steps p.tables e below (s₁.setTop (mkF m 1 #[.val (.ref s_T), .val (.ref a1), .unset] [(.ref a1)])) _
    refine XS.aloadN X0.here hx rfl (hb hby d14_1) rfl rfl ?_
    show Steps p.tables e below (s₁.setTop (mkF m 2 #[.val (.ref s_T), .val (.ref a1), .unset] [(.ref s_T), (.ref a1)])) _
    refine Jvm.RoadKit.acmp (g := (mkF m 2 #[.val (.ref s_T), .val (.ref a1), .unset] [(.ref s_T), (.ref a1)])) X0 hx rfl rfl rfl (pc0 := 2) (pc' := 5) (same := false) rfl (hb hby d14_2) rfl (decide_eq_false fun q => hne (Value.ref.inj q)) (by decide) (by decide) ?_
    show Steps p.tables e below (s₁.setTop (mkF m 5 #[.val (.ref s_T), .val (.ref a1), .unset] [])) _
    refine XS.aloadN X0.here hx rfl (hb hby d14_5) rfl rfl ?_
    show Steps p.tables e below (s₁.setTop (mkF m 6 #[.val (.ref s_T), .val (.ref a1), .unset] [(.ref a1)])) _
    refine st1 _ ?_
    show Steps p.tables e below (T1.setTop (mkF m 9 #[.val (.ref s_T), .val (.ref a1), .unset] [(.int (1 : Int32))])) _
    refine XS.ifNo X1.here hx rfl (hb hby d14_9) rfl ((if0 _ _).trans (feq (by decide : ¬ ((1 : Int32) = (0 : Int32)))).1) ?_
    show Steps p.tables e below (T1.setTop (mkF m 12 #[.val (.ref s_T), .val (.ref a1), .unset] [])) _
    refine XS.aloadN X1.here hx rfl (hb hby d14_12) rfl rfl ?_
    show Steps p.tables e below (T1.setTop (mkF m 13 #[.val (.ref s_T), .val (.ref a1), .unset] [(.ref a1)])) _
    refine st2 _ ?_
    show Steps p.tables e below (T2.setTop (mkF m 16 #[.val (.ref s_T), .val (.ref a1), .unset] [(.ref a1)])) _
    refine XS.astoreN X2.here hx rfl (hb hby d14_16) rfl rfl (l' := #[.val (.ref s_T), .val (.ref a1), .val (.ref a1)]) rfl ?_
    show Steps p.tables e below (T2.setTop (mkF m 17 #[.val (.ref s_T), .val (.ref a1), .val (.ref a1)] [])) _
    refine XS.aloadN X2.here hx rfl (hb hby d14_17) rfl rfl ?_
    show Steps p.tables e below (T2.setTop (mkF m 18 #[.val (.ref s_T), .val (.ref a1), .val (.ref a1)] [(.ref s_T)])) _
    refine st3 _ ?_
    show Steps p.tables e below (T3.setTop (mkF m 21 #[.val (.ref s_T), .val (.ref a1), .val (.ref a1)] [(.ref s_Z)])) _
    refine XS.aloadN X3.here hx rfl (hb hby d14_21) rfl rfl ?_
    show Steps p.tables e below (T3.setTop (mkF m 22 #[.val (.ref s_T), .val (.ref a1), .val (.ref a1)] [(.ref a1), (.ref s_Z)])) _
    refine st4 _ ?_
    show Steps p.tables e below (T4.setTop (mkF m 25 #[.val (.ref s_T), .val (.ref a1), .val (.ref a1)] [(.ref s_Z), (.ref s_Z)])) _
    refine st5.trans ?_
    show Steps p.tables e below (T5.setTop (mkF m 28 #[.val (.ref s_T), .val (.ref a1), .val (.ref a1)] [(.int (1 : Int32))])) _
    refine XS.ifNo X5.here hx rfl (hb hby d14_28) rfl ((if0 _ _).trans (feq (by decide : ¬ ((1 : Int32) = (0 : Int32)))).1) ?_
    show Steps p.tables e below (T5.setTop (mkF m 31 #[.val (.ref s_T), .val (.ref a1), .val (.ref a1)] [])) _
    refine XS.aloadN X5.here hx rfl (hb hby d14_31) rfl rfl ?_
    show Steps p.tables e below (T5.setTop (mkF m 32 #[.val (.ref s_T), .val (.ref a1), .val (.ref a1)] [(.ref s_T)])) _
    refine st6 _ ?_
    show Steps p.tables e below (T6.setTop (mkF m 35 #[.val (.ref s_T), .val (.ref a1), .val (.ref a1)] [(.ref s_1)])) _
    refine XS.aloadN X6.here hx rfl (hb hby d14_35) rfl rfl ?_
    show Steps p.tables e below (T6.setTop (mkF m 36 #[.val (.ref s_T), .val (.ref a1), .val (.ref a1)] [(.ref a1), (.ref s_1)])) _
    refine st7 _ ?_
    show Steps p.tables e below (T7.setTop (mkF m 39 #[.val (.ref s_T), .val (.ref a1), .val (.ref a1)] [(.ref s_1), (.ref s_1)])) _
    refine st8.trans ?_
    show Steps p.tables e below (T8.setTop (mkF m 42 #[.val (.ref s_T), .val (.ref a1), .val (.ref a1)] [(.int (1 : Int32))])) _
    refine XS.ifNo X8.here hx rfl (hb hby d14_42) rfl ((if0 _ _).trans (feq (by decide : ¬ ((1 : Int32) = (0 : Int32)))).1) ?_
    show Steps p.tables e below (T8.setTop (mkF m 45 #[.val (.ref s_T), .val (.ref a1), .val (.ref a1)] [])) _
    refine XS.iconst X8.here hx rfl (hb hby d14_45) ?_
    show Steps p.tables e below (T8.setTop (mkF m 46 #[.val (.ref s_T), .val (.ref a1), .val (.ref a1)] [(.int (1 : Int32))])) _
    refine XS.goto X8.here hx rfl (pc0 := 46) (pc' := 50) rfl (hb hby d14_46) (by decide) (by decide) ?_
    show Steps p.tables e below (T8.setTop (mkF m 50 #[.val (.ref s_T), .val (.ref a1), .val (.ref a1)] [(.int (1 : Int32))])) _
    exact retN X8 hx (t := .boolean) Bd.returns (by simp) (hb hby d14_50) hr
  · show own_Q (some (.int (1 : Int32))) h0 n0 _ T8.heap _
    rw [e8]
    exact ⟨rfl, N8, rfl⟩
theorem own_bnd {n : Int32} (h : n.toInt ≤ 63) (h0 : 0 ≤ n.toInt) : ¬ (n < (0 : Int32)) ∧ (n + (1 : Int32)).toInt = n.toInt + 1 ∧ ((n + (1 : Int32)) * (n + (1 : Int32))).toInt = (n.toInt + 1) * (n.toInt + 1) ∧ (n.toInt + 1) * (n.toInt + 1) ≤ 4096 ∧ 1 ≤ (n.toInt + 1) * (n.toInt + 1) ∧ (n + (1 : Int32)) - (1 : Int32) = n := by
  have z0 : (0 : Int32).toInt = 0 := rfl
  have z1 : (1 : Int32).toInt = 1 := rfl
  have e1 : (n + (1 : Int32)).toInt = n.toInt + 1 := Jvm.Kit.i32_add (by omega) (by omega)
  have b1 : (n.toInt + 1) * (n.toInt + 1) ≤ 64 * 64 := Int.mul_le_mul (by omega) (by omega) (by omega) (by omega)
  have b2 : 1 * 1 ≤ (n.toInt + 1) * (n.toInt + 1) := Int.mul_le_mul (by omega) (by omega) (by omega) (by omega)
  have e2 : ((n + (1 : Int32)) * (n + (1 : Int32))).toInt = (n.toInt + 1) * (n.toInt + 1) := by
    rw [← e1]; exact Jvm.Kit.i32_mul (by rw [e1]; omega) (by rw [e1]; omega)
  refine ⟨by rw [Int32.lt_iff_toInt_lt]; omega, e1, e2, by omega, by omega, ?_⟩
  apply Int32.toInt_inj.mp
  rw [Jvm.Kit.i32_sub (by omega) (by omega)]; omega
theorem own_ix {n c d : Int32} (h : n.toInt ≤ 63) (h0 : 0 ≤ n.toInt) (c0 : 0 ≤ c.toInt) (c1 : c.toInt ≤ n.toInt) (d0 : 0 ≤ d.toInt) (d1 : d.toInt ≤ n.toInt) : ¬ (((c * (n + (1 : Int32))) + d) < (0 : Int32)) ∧ ((c * (n + (1 : Int32))) + d) < ((n + (1 : Int32)) * (n + (1 : Int32))) := by
  obtain ⟨-, e1, e2, b1, b2, -⟩ := own_bnd h h0
  have z0 : (0 : Int32).toInt = 0 := rfl
  have m1 : c.toInt * (n.toInt + 1) ≤ n.toInt * (n.toInt + 1) := Int.mul_le_mul_of_nonneg_right c1 (by omega)
  have m0 : 0 ≤ c.toInt * (n.toInt + 1) := Int.mul_nonneg c0 (by omega)
  have m2 : (n.toInt + 1) * (n.toInt + 1) = n.toInt * (n.toInt + 1) + (n.toInt + 1) := by rw [Int.add_mul, Int.one_mul]
  have e3 : (c * (n + (1 : Int32))).toInt = c.toInt * (n.toInt + 1) := by rw [← e1]; exact Jvm.Kit.i32_mul (by rw [e1]; omega) (by rw [e1]; omega)
  have e4 : ((c * (n + (1 : Int32))) + d).toInt = c.toInt * (n.toInt + 1) + d.toInt := by rw [← e3]; exact Jvm.Kit.i32_add (by rw [e3]; omega) (by rw [e3]; omega)
  exact ⟨by rw [Int32.lt_iff_toInt_lt, e4]; omega, by rw [Int32.lt_iff_toInt_lt, e4, e2]; omega⟩
theorem own_cap {n : Int32} (h : n.toInt ≤ 63) (h0 : 0 ≤ n.toInt) : ¬ ((n + (1 : Int32)) * (n + (1 : Int32)) < 0) ∧ ((n + (1 : Int32)) * (n + (1 : Int32))).toNatClampNeg ≤ 4096 := by
  obtain ⟨-, e1, e2, b1, b2, -⟩ := own_bnd h h0
  have z0 : (0 : Int32).toInt = 0 := rfl
  exact ⟨by rw [Int32.lt_iff_toInt_lt, e2]; omega, by simp only [Int32.toNatClampNeg, e2]; omega⟩
theorem own_c1 {n c : Int32} (h : n.toInt ≤ 63) (c0 : 0 ≤ c.toInt) (c1 : c.toInt < n.toInt) : (c + (1 : Int32)).toInt = c.toInt + 1 ∧ ¬ (c < (0 : Int32)) ∧ c < ((n + (1 : Int32)) - (1 : Int32)) := by
  have z1 : (1 : Int32).toInt = 1 := rfl
  have z0 : (0 : Int32).toInt = 0 := rfl
  refine ⟨Jvm.Kit.i32_add (by omega) (by omega), by rw [Int32.lt_iff_toInt_lt]; omega, ?_⟩
  rw [(own_bnd h (by omega)).2.2.2.2.2, Int32.lt_iff_toInt_lt]; exact c1
theorem pd_16 : parseMethodDescriptor "(I)Lcom/example/hodos/hodos/analysis/Zone;" = some ⟨[.int], some (.object "com/example/hodos/hodos/analysis/Zone")⟩ := by decide +kernel
theorem ef_0_23 (m : MethodId) (x0 : Int32) (x1 : Int32) (x2 : Int32) : entryFrame m #[(.int x0), (.int x1), (.int x2)] maxLocals = mkF m 0 #[.val (.int x0), .val (.int x1), .val (.int x2), .unset, .unset, .unset, .unset] [] := by first | (simp [entryFrame, mkF, argsToLocals, Value.category, maxLocals]; done) | rfl
theorem pn_6 : plainName "com/example/hodos/hodos/analysis/ZoneOriginPinLaw" = true := by first | (simp [plainName, overriddenIn]; done) | decide +kernel
set_option maxRecDepth 65536 in
set_option maxHeartbeats 40000000 in
theorem r_law0 (l : Launch) (Z : State) (a0 : Array Value) (hw : ∀ d ∈ tables_1, d.before a0 Z = true) (ws : List Jvm.Cond) (s_T s_Z s_1 m_Z : Addr) (k_Z : ClassId) (h0 : Heap) (n0 : Nat) (O0 : Old Z n0 h0) (G : own_Ctx Z Z.heap s_T s_Z s_1 m_Z k_Z) (p1 p2 p3 n : Int32) (hn : p1 &&& (63 : Int32) = n) (hle : n.toInt ≤ 63) (hge : 0 ≤ n.toInt) (hz : n = (0 : Int32)) :
    MetFree l x (head1 (Jvm.Cond.code x code maxLocals ret :: ws) room_1) (fun a U => a = #[(.int p1), (.int p2), (.int p3)] ∧ Z.Warmed39 U.vm ∧ U.heap = h0) (fun _ _ _ _ _ => True) (fun _ U o U' => ∃ v L, o = .returned v ∧ own_Qk (some (.int (1 : Int32))) h0 n0 v U'.heap L ∧ FrameEnd U o U' L 24 8320) := by
  have G0 := G
  obtain ⟨S_T, E_T, N_T, D_T, S_Z, E_Z, G_Z, M_Z, V_Z, S_1, E_1, G_1⟩ := G
  refine MetFree.of_bodySF (plainFor_of_name pn_6) hisR ?_
  intro p e s m args below meth c s₁ Bd hml0 hP hK
  obtain ⟨rfl, hZ, hh⟩ := hP
  have hx := Bd.exec
  have hby := Bd.bytes
  have hml : c.maxLocals = 7 := hml0
  have hown : s.vm.findClass "com/example/hodos/hodos/analysis/ZoneOriginPinLaw" = some m.cls := findClass_of_methodNamed Bd.named
  have hnm := (name_of_methodNamed Bd.named Bd.method).1
  have X0 : Stand p l e room_1 s m #[(.int p1), (.int p2), (.int p3)] below meth c s₁ [] 0 0 := Stand.of_body Bd
  have e0 : s₁.heap = h0 := by rw [← hh, Bd.state]; rfl
  have N0 := Fr.nil n0
  have pre0 : ∀ t, Steps p.tables e below (s₁.setTop (mkF m 0 #[.val (.int p1), .val (.int p2), .val (.int p3), .unset, .unset, .unset, .unset] [])) t → Steps p.tables e below (s₁.setTop (entryFrame m #[(.int p1), (.int p2), (.int p3)] maxLocals)) t := fun t k => castTop (ef_0_23 m p1 p2 p3) k
  obtain ⟨_, _, ⟨T1, L1, k1, n1⟩, -, X1, ⟨Lc1, hQ1, l1, y1, z1⟩, st1⟩ := Jvm.LawKit.callS X0 hx (y := (⟨"com/example/hodos/hodos/analysis/Zone", "origin", "(I)Lcom/example/hodos/hodos/analysis/Zone;"⟩ : MethodName)) hown (mvT hZ (hw _ (List.mem_of_getElem? (i := 0) rfl))) (mvT hZ (hw _ (List.mem_of_getElem? (i := 1) rfl))) (mvT hZ (hw _ (List.mem_of_getElem? (i := 2) rfl))) (mvT hZ (hw _ (List.mem_of_getElem? (i := 3) rfl))) (by decide) (backOf (W := 0) (r_origin l Z a0 hw [] s_T s_Z s_1 m_Z k_Z h0 n0 O0 G0 n (own_bnd hle hge).1 (own_cap hle hge).1 (own_cap hle hge).2) hZ (hw _ (List.mem_of_getElem? (i := 3) rfl)) (hw _ (List.mem_of_getElem? (i := 2) rfl)) (by decide) (by decide)) (g := (mkF m 6 #[.val (.int p1), .val (.int p2), .val (.int p3), .val (.int n), .unset, .unset, .unset] [(.int n)])) rfl (by rw [hml]; rfl) (argsL := [(.int n)]) (rest := []) (lenOf pd_16 rfl) rfl (by show 2 * 0 + _ ≤ _; exact Nat.le_of_eq rfl) (hb hby at_6) (fun _ _ => ⟨rfl, e0, (by decide : 0 + 2 ≤ _), (by decide : 0 + 4100 ≤ _)⟩)
  dsimp only [Pt.U, Pt.locs, Pt.cells, Pt.slots] at X1 l1 y1 z1 st1 hQ1
  subst l1 y1 z1
  obtain ⟨z1, ar1, kk1, rfl, N1q, Kq1, Ez1, Fa1, Fb1, Fc1, Fd1, Va1⟩ := hQ1
  have N1 := Fr.app N0 N1q
  have O1 := O0.keep Kq1 all0
  have K1 : Keep h0 T1.heap [] := (Keep.refl h0 []).trans Kq1 all0
  obtain ⟨cq2, kq2, q2a, q2b, q2c⟩ := isOf hZ rfl Ez1
  obtain ⟨_, _, ⟨T2, L2, k2, n2⟩, -, X2, ⟨Lc2, hQ2, l2, y2, z2⟩, st2⟩ := X1.virtualBack hx (y := (⟨"com/example/hodos/hodos/analysis/Zone", "components", "()I"⟩ : MethodName)) (z := (⟨"com/example/hodos/hodos/analysis/Zone", "components", "()I"⟩ : MethodName)) hown (mvT hZ (hw _ (List.mem_of_getElem? (i := 21) rfl))) (mvT hZ (hw _ (List.mem_of_getElem? (i := 22) rfl))) (notFace_of_selects (args := #[]) (mvT hZ (hw _ (List.mem_of_getElem? (i := 24) rfl)))) (mvT hZ (hw _ (List.mem_of_getElem? (i := 24) rfl))) (mvT hZ (hw _ (List.mem_of_getElem? (i := 23) rfl))) (by decide) (backOf (W := 0) (r_comp l Z a0 hw [] s_T s_Z s_1 m_Z k_Z T1.heap n0 O1 G0 z1 ar1 kk1 n  Ez1 Fa1 Fb1 Fc1 Fd1 Va1) hZ (hw _ (List.mem_of_getElem? (i := 25) rfl)) (hw _ (List.mem_of_getElem? (i := 2) rfl)) (by decide) (by decide)) q2a q2c (g := (mkF m 13 #[.val (.int p1), .val (.int p2), .val (.int p3), .val (.int n), .val (.ref z1), .unset, .unset] [(.ref z1)])) rfl (by rw [hml]; rfl) (Steps.refl _) (argsL := []) (rest := []) (lenOf pd_11 rfl) rfl (by show 2 * 0 + _ ≤ _; exact Nat.le_of_eq rfl) (hb hby at_13) (fun _ _ => ⟨rfl, rfl, (by decide : 2 + 0 ≤ _), (by decide : 4100 + 0 ≤ _)⟩)
  dsimp only [Pt.U, Pt.locs, Pt.cells, Pt.slots] at X2 l2 y2 z2 st2 hQ2
  subst l2 y2 z2
  obtain ⟨rfl, N2q, e2⟩ := hQ2
  have N2 := Fr.app N1 N2q
  obtain ⟨fs, hr, hrun, hended, hW, hsame⟩ := X2.leave (v := some (.int (1 : Int32))) (fun h => by rw [Bd.returns] at h; cases h)
  refine ⟨_, _, pre0 _ ?_, hrun, hended, _, _, rfl, ?_, ⟨_, rfl⟩, hW, hsame.mono (by decide) (by decide)⟩
  · show Steps p.tables e below (s₁.setTop (mkF m 0 #[.val (.int p1), .val (.int p2), .val (.int p3), .unset, .unset, .unset, .unset] [])) _
    refine XS.iloadN X0.here hx rfl (hb hby at_0) rfl ?_
    show Steps p.tables e below (s₁.setTop (mkF m 1 #[.val (.int p1), .val (.int p2), .val (.int p3), .unset, .unset, .unset, .unset] [(.int p1)])) _
    refine XS.bipush X0.here hx rfl (hb hby at_1) ?_
    show Steps p.tables e below (s₁.setTop (mkF m 3 #[.val (.int p1), .val (.int p2), .val (.int p3), .unset, .unset, .unset, .unset] [(.int (63 : Int32)), (.int p1)])) _
    refine XS.iand X0.here hx rfl (hb hby at_3) rfl ?_
    show Steps p.tables e below (s₁.setTop (mkF m 4 #[.val (.int p1), .val (.int p2), .val (.int p3), .unset, .unset, .unset, .unset] [(.int (p1 &&& (63 : Int32)))])) _
    rw [hn]
    show Steps p.tables e below (s₁.setTop (mkF m 4 #[.val (.int p1), .val (.int p2), .val (.int p3), .unset, .unset, .unset, .unset] [(.int n)])) _
    refine XS.istoreN X0.here hx rfl (hb hby at_4) rfl (l' := #[.val (.int p1), .val (.int p2), .val (.int p3), .val (.int n), .unset, .unset, .unset]) rfl ?_
    show Steps p.tables e below (s₁.setTop (mkF m 5 #[.val (.int p1), .val (.int p2), .val (.int p3), .val (.int n), .unset, .unset, .unset] [])) _
    refine XS.iloadN X0.here hx rfl (hb hby at_5) rfl ?_
    show Steps p.tables e below (s₁.setTop (mkF m 6 #[.val (.int p1), .val (.int p2), .val (.int p3), .val (.int n), .unset, .unset, .unset] [(.int n)])) _
    refine st1 _ ?_
    show Steps p.tables e below (T1.setTop (mkF m 9 #[.val (.int p1), .val (.int p2), .val (.int p3), .val (.int n), .unset, .unset, .unset] [(.ref z1)])) _
    refine XS.astore X1.here hx rfl (hb hby at_9) rfl rfl (l' := #[.val (.int p1), .val (.int p2), .val (.int p3), .val (.int n), .val (.ref z1), .unset, .unset]) rfl ?_
    show Steps p.tables e below (T1.setTop (mkF m 11 #[.val (.int p1), .val (.int p2), .val (.int p3), .val (.int n), .val (.ref z1), .unset, .unset] [])) _
    refine XS.aload X1.here hx rfl (hb hby at_11) rfl rfl ?_
    show Steps p.tables e below (T1.setTop (mkF m 13 #[.val (.int p1), .val (.int p2), .val (.int p3), .val (.int n), .val (.ref z1), .unset, .unset] [(.ref z1)])) _
    refine st2.trans ?_
    show Steps p.tables e below (T2.setTop (mkF m 16 #[.val (.int p1), .val (.int p2), .val (.int p3), .val (.int n), .val (.ref z1), .unset, .unset] [(.int ((n + (1 : Int32)) - (1 : Int32)))])) _
    refine XS.iloadN X2.here hx rfl (hb hby at_16) rfl ?_
    show Steps p.tables e below (T2.setTop (mkF m 17 #[.val (.int p1), .val (.int p2), .val (.int p3), .val (.int n), .val (.ref z1), .unset, .unset] [(.int n), (.int ((n + (1 : Int32)) - (1 : Int32)))])) _
    refine XS.icmpYes X2.here hx rfl (pc0 := 17) (pc' := 22) rfl (hb hby at_17) rfl (teq ((own_bnd hle hge).2.2.2.2.2 : ((n + (1 : Int32)) - (1 : Int32)) = n)).1 (by decide) (by decide) ?_
    show Steps p.tables e below (T2.setTop (mkF m 22 #[.val (.int p1), .val (.int p2), .val (.int p3), .val (.int n), .val (.ref z1), .unset, .unset] [])) _
    refine XS.iloadN X2.here hx rfl (hb hby at_22) rfl ?_
    show Steps p.tables e below (T2.setTop (mkF m 23 #[.val (.int p1), .val (.int p2), .val (.int p3), .val (.int n), .val (.ref z1), .unset, .unset] [(.int n)])) _
    refine XS.ifNo X2.here hx rfl (hb hby at_23) rfl ((if0 _ _).trans (teq (hz : n = (0 : Int32))).2) ?_
    show Steps p.tables e below (T2.setTop (mkF m 26 #[.val (.int p1), .val (.int p2), .val (.int p3), .val (.int n), .val (.ref z1), .unset, .unset] [])) _
    refine XS.iconst X2.here hx rfl (hb hby at_26) ?_
    show Steps p.tables e below (T2.setTop (mkF m 27 #[.val (.int p1), .val (.int p2), .val (.int p3), .val (.int n), .val (.ref z1), .unset, .unset] [(.int (1 : Int32))])) _
    exact retN X2 hx (t := .boolean) Bd.returns (by simp) (hb hby at_27) hr
  · show own_Qk (some (.int (1 : Int32))) h0 n0 _ T2.heap _
    rw [e2]
    exact ⟨rfl, N2, K1⟩
set_option maxRecDepth 65536 in
set_option maxHeartbeats 40000000 in
theorem r_law1 (l : Launch) (Z : State) (a0 : Array Value) (hw : ∀ d ∈ tables_1, d.before a0 Z = true) (ws : List Jvm.Cond) (s_T s_Z s_1 m_Z : Addr) (k_Z : ClassId) (h0 : Heap) (n0 : Nat) (O0 : Old Z n0 h0) (G : own_Ctx Z Z.heap s_T s_Z s_1 m_Z k_Z) (p1 p2 p3 n cc dd : Int32) (hn : p1 &&& (63 : Int32) = n) (hle : n.toInt ≤ 63) (hge : 0 ≤ n.toInt) (hz : ¬ (n = (0 : Int32))) (hc : (p2 &&& (2147483647 : Int32)) % n = cc) (hd : (p3 &&& (2147483647 : Int32)) % n = dd) (cc0 : 0 ≤ cc.toInt) (cc1 : cc.toInt < n.toInt) (dd0 : 0 ≤ dd.toInt) (dd1 : dd.toInt < n.toInt) (jcc0 : 0 ≤ (cc + (1 : Int32)).toInt) (jcc1 : (cc + (1 : Int32)).toInt ≤ n.toInt) (jdd0 : 0 ≤ (dd + (1 : Int32)).toInt) (jdd1 : (dd + (1 : Int32)).toInt ≤ n.toInt) :
    MetFree l x (head1 (Jvm.Cond.code x code maxLocals ret :: ws) room_1) (fun a U => a = #[(.int p1), (.int p2), (.int p3)] ∧ Z.Warmed39 U.vm ∧ U.heap = h0) (fun _ _ _ _ _ => True) (fun _ U o U' => ∃ v L, o = .returned v ∧ own_Qk (some (.int (1 : Int32))) h0 n0 v U'.heap L ∧ FrameEnd U o U' L 24 8320) := by
  have G0 := G
  obtain ⟨S_T, E_T, N_T, D_T, S_Z, E_Z, G_Z, M_Z, V_Z, S_1, E_1, G_1⟩ := G
  refine MetFree.of_bodySF (plainFor_of_name pn_6) hisR ?_
  intro p e s m args below meth c s₁ Bd hml0 hP hK
  obtain ⟨rfl, hZ, hh⟩ := hP
  have hx := Bd.exec
  have hby := Bd.bytes
  have hml : c.maxLocals = 7 := hml0
  have hown : s.vm.findClass "com/example/hodos/hodos/analysis/ZoneOriginPinLaw" = some m.cls := findClass_of_methodNamed Bd.named
  have hnm := (name_of_methodNamed Bd.named Bd.method).1
  have X0 : Stand p l e room_1 s m #[(.int p1), (.int p2), (.int p3)] below meth c s₁ [] 0 0 := Stand.of_body Bd
  have e0 : s₁.heap = h0 := by rw [← hh, Bd.state]; rfl
  have N0 := Fr.nil n0
  have pre0 : ∀ t, Steps p.tables e below (s₁.setTop (mkF m 0 #[.val (.int p1), .val (.int p2), .val (.int p3), .unset, .unset, .unset, .unset] [])) t → Steps p.tables e below (s₁.setTop (entryFrame m #[(.int p1), (.int p2), (.int p3)] maxLocals)) t := fun t k => castTop (ef_0_23 m p1 p2 p3) k
  obtain ⟨_, _, ⟨T1, L1, k1, n1⟩, -, X1, ⟨Lc1, hQ1, l1, y1, z1⟩, st1⟩ := Jvm.LawKit.callS X0 hx (y := (⟨"com/example/hodos/hodos/analysis/Zone", "origin", "(I)Lcom/example/hodos/hodos/analysis/Zone;"⟩ : MethodName)) hown (mvT hZ (hw _ (List.mem_of_getElem? (i := 0) rfl))) (mvT hZ (hw _ (List.mem_of_getElem? (i := 1) rfl))) (mvT hZ (hw _ (List.mem_of_getElem? (i := 2) rfl))) (mvT hZ (hw _ (List.mem_of_getElem? (i := 3) rfl))) (by decide) (backOf (W := 0) (r_origin l Z a0 hw [] s_T s_Z s_1 m_Z k_Z h0 n0 O0 G0 n (own_bnd hle hge).1 (own_cap hle hge).1 (own_cap hle hge).2) hZ (hw _ (List.mem_of_getElem? (i := 3) rfl)) (hw _ (List.mem_of_getElem? (i := 2) rfl)) (by decide) (by decide)) (g := (mkF m 6 #[.val (.int p1), .val (.int p2), .val (.int p3), .val (.int n), .unset, .unset, .unset] [(.int n)])) rfl (by rw [hml]; rfl) (argsL := [(.int n)]) (rest := []) (lenOf pd_16 rfl) rfl (by show 2 * 0 + _ ≤ _; exact Nat.le_of_eq rfl) (hb hby at_6) (fun _ _ => ⟨rfl, e0, (by decide : 0 + 2 ≤ _), (by decide : 0 + 4100 ≤ _)⟩)
  dsimp only [Pt.U, Pt.locs, Pt.cells, Pt.slots] at X1 l1 y1 z1 st1 hQ1
  subst l1 y1 z1
  obtain ⟨z1, ar1, kk1, rfl, N1q, Kq1, Ez1, Fa1, Fb1, Fc1, Fd1, Va1⟩ := hQ1
  have N1 := Fr.app N0 N1q
  have O1 := O0.keep Kq1 all0
  have K1 : Keep h0 T1.heap [] := (Keep.refl h0 []).trans Kq1 all0
  obtain ⟨cq2, kq2, q2a, q2b, q2c⟩ := isOf hZ rfl Ez1
  obtain ⟨_, _, ⟨T2, L2, k2, n2⟩, -, X2, ⟨Lc2, hQ2, l2, y2, z2⟩, st2⟩ := X1.virtualBack hx (y := (⟨"com/example/hodos/hodos/analysis/Zone", "components", "()I"⟩ : MethodName)) (z := (⟨"com/example/hodos/hodos/analysis/Zone", "components", "()I"⟩ : MethodName)) hown (mvT hZ (hw _ (List.mem_of_getElem? (i := 21) rfl))) (mvT hZ (hw _ (List.mem_of_getElem? (i := 22) rfl))) (notFace_of_selects (args := #[]) (mvT hZ (hw _ (List.mem_of_getElem? (i := 24) rfl)))) (mvT hZ (hw _ (List.mem_of_getElem? (i := 24) rfl))) (mvT hZ (hw _ (List.mem_of_getElem? (i := 23) rfl))) (by decide) (backOf (W := 0) (r_comp l Z a0 hw [] s_T s_Z s_1 m_Z k_Z T1.heap n0 O1 G0 z1 ar1 kk1 n  Ez1 Fa1 Fb1 Fc1 Fd1 Va1) hZ (hw _ (List.mem_of_getElem? (i := 25) rfl)) (hw _ (List.mem_of_getElem? (i := 2) rfl)) (by decide) (by decide)) q2a q2c (g := (mkF m 13 #[.val (.int p1), .val (.int p2), .val (.int p3), .val (.int n), .val (.ref z1), .unset, .unset] [(.ref z1)])) rfl (by rw [hml]; rfl) (Steps.refl _) (argsL := []) (rest := []) (lenOf pd_11 rfl) rfl (by show 2 * 0 + _ ≤ _; exact Nat.le_of_eq rfl) (hb hby at_13) (fun _ _ => ⟨rfl, rfl, (by decide : 2 + 0 ≤ _), (by decide : 4100 + 0 ≤ _)⟩)
  dsimp only [Pt.U, Pt.locs, Pt.cells, Pt.slots] at X2 l2 y2 z2 st2 hQ2
  subst l2 y2 z2
  obtain ⟨rfl, N2q, e2⟩ := hQ2
  have N2 := Fr.app N1 N2q
  obtain ⟨T3, X3, e3, st3⟩ := getS2 X2 hx hZ hown (host := "") (Or.inl (hw _ (List.mem_of_getElem? (i := 27) rfl))) Via.refl e2 (S_T.ext O1.2) (g := (mkF m 44 #[.val (.int p1), .val (.int p2), .val (.int p3), .val (.int n), .val (.ref z1), .val (.int cc), .val (.int dd)] [])) rfl (hb hby at_44)
  obtain ⟨cq4, kq4, q4a, q4b, q4c⟩ := isOf hZ e3 Ez1
  obtain ⟨_, _, ⟨T4, L4, k4, n4⟩, -, X4, ⟨Lc4, hQ4, l4, y4, z4⟩, st4⟩ := X3.virtualBack hx (y := (⟨"com/example/hodos/hodos/analysis/Zone", "upper", "(I)Lcom/example/hodos/hodos/model/Time;"⟩ : MethodName)) (z := (⟨"com/example/hodos/hodos/analysis/Zone", "upper", "(I)Lcom/example/hodos/hodos/model/Time;"⟩ : MethodName)) hown (mvT hZ (hw _ (List.mem_of_getElem? (i := 30) rfl))) (mvT hZ (hw _ (List.mem_of_getElem? (i := 31) rfl))) (notFace_of_selects (args := #[]) (mvT hZ (hw _ (List.mem_of_getElem? (i := 33) rfl)))) (mvT hZ (hw _ (List.mem_of_getElem? (i := 33) rfl))) (mvT hZ (hw _ (List.mem_of_getElem? (i := 32) rfl))) (by decide) (backOf (W := 1) (r_up1 l Z a0 hw [] s_T s_Z s_1 m_Z k_Z T1.heap n0 O1 G0 z1 ar1 kk1 n cc Ez1 Fa1 Fb1 Fc1 Fd1 Va1 (own_c1 hle cc0 cc1).2.1 (own_c1 hle cc0 cc1).2.2 (own_ix (d := (0 : Int32)) hle hge jcc0 jcc1 (by decide) (show (0 : Int32).toInt ≤ n.toInt from hge)).1 (own_ix (d := (0 : Int32)) hle hge jcc0 jcc1 (by decide) (show (0 : Int32).toInt ≤ n.toInt from hge)).2) hZ (hw _ (List.mem_of_getElem? (i := 34) rfl)) (hw _ (List.mem_of_getElem? (i := 2) rfl)) (by decide) (by decide)) q4a q4c (g := (mkF m 51 #[.val (.int p1), .val (.int p2), .val (.int p3), .val (.int n), .val (.ref z1), .val (.int cc), .val (.int dd)] [(.int cc), (.ref z1), (.ref s_T)])) rfl (by rw [hml]; rfl) (Steps.refl _) (argsL := [(.int cc)]) (rest := [(.ref s_T)]) (lenOf pd_6 rfl) rfl (by show 2 * 0 + _ ≤ _; exact Nat.le_of_eq rfl) (hb hby at_51) (fun _ _ => ⟨rfl, e3, (by decide : 2 + 1 ≤ _), (by decide : 4100 + 2 ≤ _)⟩)
  dsimp only [Pt.U, Pt.locs, Pt.cells, Pt.slots] at X4 l4 y4 z4 st4 hQ4
  subst l4 y4 z4
  obtain ⟨t4, rfl, N4q, Kq4, gt4, Et4, Fn4, Fd4⟩ := hQ4
  have N4 := Fr.app N2 N4q
  have ne_z1_t4 : z1 ≠ t4 := Nat.ne_of_lt (Nat.lt_of_lt_of_le Ez1.lt gt4)
  have ne_ar1_t4 : ar1 ≠ t4 := Nat.ne_of_lt (Nat.lt_of_lt_of_le Va1.lt gt4)
  have ne_s_T_t4 : s_T ≠ t4 := Nat.ne_of_lt (Nat.lt_of_lt_of_le (E_T.ext O1.2).lt gt4)
  have ne_s_Z_t4 : s_Z ≠ t4 := Nat.ne_of_lt (Nat.lt_of_lt_of_le (E_Z.ext O1.2).lt gt4)
  have ne_s_1_t4 : s_1 ≠ t4 := Nat.ne_of_lt (Nat.lt_of_lt_of_le (E_1.ext O1.2).lt gt4)
  have g_t4 : n0 ≤ t4 := Nat.le_trans (O1.1 ▸ O1.2.1) gt4
  have sz_t4 : h0.size ≤ t4 := Nat.le_trans K1.1 gt4
  have f5 := Ez1.keep Kq4
  have f6 := Fa1.keep Kq4 (fun q => nomatch q)
  have f7 := Fb1.keep Kq4 (fun q => nomatch q)
  have f8 := Fc1.keep Kq4 (fun q => nomatch q)
  have f9 := Fd1.keep Kq4 (fun q => nomatch q)
  have f10 := Va1.keep Kq4 (fun q => nomatch q)
  have O4 := O1.keep Kq4 all0
  have K4 : Keep h0 T4.heap [] := K1.trans Kq4 all0
  obtain ⟨cq11, kq11, q11a, q11b, q11c⟩ := isOf hZ rfl (E_T.ext O4.2)
  obtain ⟨_, _, ⟨T11, L11, k11, n11⟩, -, X11, ⟨Lc11, hQ11, l11, y11, z11⟩, st11⟩ := X4.virtualBack hx (y := (⟨"com/example/hodos/hodos/model/Time", "equals", "(Ljava/lang/Object;)Z"⟩ : MethodName)) (z := (⟨"com/example/hodos/hodos/model/Time", "equals", "(Ljava/lang/Object;)Z"⟩ : MethodName)) hown (mvT hZ (hw _ (List.mem_of_getElem? (i := 75) rfl))) (mvT hZ (hw _ (List.mem_of_getElem? (i := 76) rfl))) (notFace_of_selects (args := #[]) (mvT hZ (hw _ (List.mem_of_getElem? (i := 78) rfl)))) (mvT hZ (hw _ (List.mem_of_getElem? (i := 78) rfl))) (mvT hZ (hw _ (List.mem_of_getElem? (i := 77) rfl))) (by decide) (backOf (W := 0) (r_eqt l Z a0 hw [] s_T s_Z s_1 m_Z k_Z T4.heap n0 O4 G0 t4 Et4 Fn4 Fd4 (Ne.symm (Old.ne O4 E_T.lt g_t4))) hZ (hw _ (List.mem_of_getElem? (i := 79) rfl)) (hw _ (List.mem_of_getElem? (i := 28) rfl)) (by decide) (by decide)) q11a q11c (g := (mkF m 54 #[.val (.int p1), .val (.int p2), .val (.int p3), .val (.int n), .val (.ref z1), .val (.int cc), .val (.int dd)] [(.ref t4), (.ref s_T)])) rfl (by rw [hml]; rfl) (Steps.refl _) (argsL := [(.ref t4)]) (rest := []) (lenOf pd_15 rfl) rfl (by show 2 * 0 + _ ≤ _; exact Nat.le_of_eq rfl) (hb hby at_54) (fun _ _ => ⟨rfl, rfl, (by decide : 3 + 0 ≤ _), (by decide : 4102 + 0 ≤ _)⟩)
  dsimp only [Pt.U, Pt.locs, Pt.cells, Pt.slots] at X11 l11 y11 z11 st11 hQ11
  subst l11 y11 z11
  obtain ⟨rfl, N11q, e11⟩ := hQ11
  have N11 := Fr.app N4 N11q
  obtain ⟨T12, X12, e12, st12⟩ := getS2 X11 hx hZ hown (host := "") (Or.inl (hw _ (List.mem_of_getElem? (i := 27) rfl))) Via.refl e11 (S_T.ext O4.2) (g := (mkF m 60 #[.val (.int p1), .val (.int p2), .val (.int p3), .val (.int n), .val (.ref z1), .val (.int cc), .val (.int dd)] [])) rfl (hb hby at_60)
  obtain ⟨cq13, kq13, q13a, q13b, q13c⟩ := isOf hZ e12 f5
  obtain ⟨_, _, ⟨T13, L13, k13, n13⟩, -, X13, ⟨Lc13, hQ13, l13, y13, z13⟩, st13⟩ := X12.virtualBack hx (y := (⟨"com/example/hodos/hodos/analysis/Zone", "lower", "(I)Lcom/example/hodos/hodos/model/Time;"⟩ : MethodName)) (z := (⟨"com/example/hodos/hodos/analysis/Zone", "lower", "(I)Lcom/example/hodos/hodos/model/Time;"⟩ : MethodName)) hown (mvT hZ (hw _ (List.mem_of_getElem? (i := 86) rfl))) (mvT hZ (hw _ (List.mem_of_getElem? (i := 87) rfl))) (notFace_of_selects (args := #[]) (mvT hZ (hw _ (List.mem_of_getElem? (i := 89) rfl)))) (mvT hZ (hw _ (List.mem_of_getElem? (i := 89) rfl))) (mvT hZ (hw _ (List.mem_of_getElem? (i := 88) rfl))) (by decide) (backOf (W := 1) (r_low l Z a0 hw [] s_T s_Z s_1 m_Z k_Z T4.heap n0 O4 G0 z1 ar1 kk1 n cc f5 f6 f7 f8 f9 f10 (own_c1 hle cc0 cc1).2.1 (own_c1 hle cc0 cc1).2.2 (own_ix (c := (0 : Int32)) hle hge (by decide) (show (0 : Int32).toInt ≤ n.toInt from hge) jcc0 jcc1).1 (own_ix (c := (0 : Int32)) hle hge (by decide) (show (0 : Int32).toInt ≤ n.toInt from hge) jcc0 jcc1).2) hZ (hw _ (List.mem_of_getElem? (i := 90) rfl)) (hw _ (List.mem_of_getElem? (i := 2) rfl)) (by decide) (by decide)) q13a q13c (g := (mkF m 67 #[.val (.int p1), .val (.int p2), .val (.int p3), .val (.int n), .val (.ref z1), .val (.int cc), .val (.int dd)] [(.int cc), (.ref z1), (.ref s_T)])) rfl (by rw [hml]; rfl) (Steps.refl _) (argsL := [(.int cc)]) (rest := [(.ref s_T)]) (lenOf pd_6 rfl) rfl (by show 2 * 0 + _ ≤ _; exact Nat.le_of_eq rfl) (hb hby at_67) (fun _ _ => ⟨rfl, e12, (by decide : 3 + 3 ≤ _), (by decide : 4102 + 10 ≤ _)⟩)
  dsimp only [Pt.U, Pt.locs, Pt.cells, Pt.slots] at X13 l13 y13 z13 st13 hQ13
  subst l13 y13 z13
  obtain ⟨rfl, N13q, Kq13⟩ := hQ13
  have N13 := Fr.app N11 N13q
  have f14 := f5.keep Kq13
  have f15 := f6.keep Kq13 (fun q => nomatch q)
  have f16 := f7.keep Kq13 (fun q => nomatch q)
  have f17 := f8.keep Kq13 (fun q => nomatch q)
  have f18 := f9.keep Kq13 (fun q => nomatch q)
  have f19 := f10.keep Kq13 (fun q => nomatch q)
  have f20 := Et4.keep Kq13
  have f21 := Fn4.keep Kq13 (fun q => nomatch q)
  have f22 := Fd4.keep Kq13 (fun q => nomatch q)
  have O13 := O4.keep Kq13 all0
  have K13 : Keep h0 T13.heap [] := K4.trans Kq13 all0
  obtain ⟨cq23, kq23, q23a, q23b, q23c⟩ := isOf hZ rfl (E_T.ext O13.2)
  obtain ⟨_, _, ⟨T23, L23, k23, n23⟩, -, X23, ⟨Lc23, hQ23, l23, y23, z23⟩, st23⟩ := X13.virtualBack hx (y := (⟨"com/example/hodos/hodos/model/Time", "equals", "(Ljava/lang/Object;)Z"⟩ : MethodName)) (z := (⟨"com/example/hodos/hodos/model/Time", "equals", "(Ljava/lang/Object;)Z"⟩ : MethodName)) hown (mvT hZ (hw _ (List.mem_of_getElem? (i := 75) rfl))) (mvT hZ (hw _ (List.mem_of_getElem? (i := 76) rfl))) (notFace_of_selects (args := #[]) (mvT hZ (hw _ (List.mem_of_getElem? (i := 78) rfl)))) (mvT hZ (hw _ (List.mem_of_getElem? (i := 78) rfl))) (mvT hZ (hw _ (List.mem_of_getElem? (i := 77) rfl))) (by decide) (backOf (W := 0) (r_eqs l Z a0 hw [] s_T s_Z s_1 m_Z k_Z T13.heap n0 O13 G0) hZ (hw _ (List.mem_of_getElem? (i := 79) rfl)) (hw _ (List.mem_of_getElem? (i := 28) rfl)) (by decide) (by decide)) q23a q23c (g := (mkF m 70 #[.val (.int p1), .val (.int p2), .val (.int p3), .val (.int n), .val (.ref z1), .val (.int cc), .val (.int dd)] [(.ref s_T), (.ref s_T)])) rfl (by rw [hml]; rfl) (Steps.refl _) (argsL := [(.ref s_T)]) (rest := []) (lenOf pd_15 rfl) rfl (by show 2 * 0 + _ ≤ _; exact Nat.le_of_eq rfl) (hb hby at_70) (fun _ _ => ⟨rfl, rfl, (by decide : 6 + 0 ≤ _), (by decide : 4112 + 0 ≤ _)⟩)
  dsimp only [Pt.U, Pt.locs, Pt.cells, Pt.slots] at X23 l23 y23 z23 st23 hQ23
  subst l23 y23 z23
  obtain ⟨rfl, N23q, e23⟩ := hQ23
  have N23 := Fr.app N13 N23q
  obtain ⟨T24, X24, e24, st24⟩ := getS2 X23 hx hZ hown (host := "") (Or.inl (hw _ (List.mem_of_getElem? (i := 27) rfl))) Via.refl e23 (S_T.ext O13.2) (g := (mkF m 76 #[.val (.int p1), .val (.int p2), .val (.int p3), .val (.int n), .val (.ref z1), .val (.int cc), .val (.int dd)] [])) rfl (hb hby at_76)
  obtain ⟨cq25, kq25, q25a, q25b, q25c⟩ := isOf hZ e24 f14
  obtain ⟨_, _, ⟨T25, L25, k25, n25⟩, -, X25, ⟨Lc25, hQ25, l25, y25, z25⟩, st25⟩ := X24.virtualBack hx (y := (⟨"com/example/hodos/hodos/analysis/Zone", "upper", "(II)Lcom/example/hodos/hodos/model/Time;"⟩ : MethodName)) (z := (⟨"com/example/hodos/hodos/analysis/Zone", "upper", "(II)Lcom/example/hodos/hodos/model/Time;"⟩ : MethodName)) hown (mvT hZ (hw _ (List.mem_of_getElem? (i := 135) rfl))) (mvT hZ (hw _ (List.mem_of_getElem? (i := 136) rfl))) (notFace_of_selects (args := #[]) (mvT hZ (hw _ (List.mem_of_getElem? (i := 138) rfl)))) (mvT hZ (hw _ (List.mem_of_getElem? (i := 138) rfl))) (mvT hZ (hw _ (List.mem_of_getElem? (i := 137) rfl))) (by decide) (backOf (W := 1) (r_up2 l Z a0 hw [] s_T s_Z s_1 m_Z k_Z T13.heap n0 O13 G0 z1 ar1 kk1 n cc dd f14 f15 f16 f17 f18 f19 (own_c1 hle cc0 cc1).2.1 (own_c1 hle cc0 cc1).2.2 (own_c1 hle dd0 dd1).2.1 (own_c1 hle dd0 dd1).2.2 (own_ix hle hge jcc0 jcc1 jdd0 jdd1).1 (own_ix hle hge jcc0 jcc1 jdd0 jdd1).2) hZ (hw _ (List.mem_of_getElem? (i := 139) rfl)) (hw _ (List.mem_of_getElem? (i := 2) rfl)) (by decide) (by decide)) q25a q25c (g := (mkF m 85 #[.val (.int p1), .val (.int p2), .val (.int p3), .val (.int n), .val (.ref z1), .val (.int cc), .val (.int dd)] [(.int dd), (.int cc), (.ref z1), (.ref s_T)])) rfl (by rw [hml]; rfl) (Steps.refl _) (argsL := [(.int cc), (.int dd)]) (rest := [(.ref s_T)]) (lenOf pd_8 rfl) rfl (by show 2 * 0 + _ ≤ _; exact Nat.le_of_eq rfl) (hb hby at_85) (fun _ _ => ⟨rfl, e24, (by decide : 6 + 1 ≤ _), (by decide : 4112 + 2 ≤ _)⟩)
  dsimp only [Pt.U, Pt.locs, Pt.cells, Pt.slots] at X25 l25 y25 z25 st25 hQ25
  subst l25 y25 z25
  obtain ⟨t25, rfl, N25q, Kq25, gt25, Et25, Fn25, Fd25⟩ := hQ25
  have N25 := Fr.app N23 N25q
  have ne_z1_t25 : z1 ≠ t25 := Nat.ne_of_lt (Nat.lt_of_lt_of_le f14.lt gt25)
  have ne_ar1_t25 : ar1 ≠ t25 := Nat.ne_of_lt (Nat.lt_of_lt_of_le f19.lt gt25)
  have ne_t4_t25 : t4 ≠ t25 := Nat.ne_of_lt (Nat.lt_of_lt_of_le f20.lt gt25)
  have ne_s_T_t25 : s_T ≠ t25 := Nat.ne_of_lt (Nat.lt_of_lt_of_le (E_T.ext O13.2).lt gt25)
  have ne_s_Z_t25 : s_Z ≠ t25 := Nat.ne_of_lt (Nat.lt_of_lt_of_le (E_Z.ext O13.2).lt gt25)
  have ne_s_1_t25 : s_1 ≠ t25 := Nat.ne_of_lt (Nat.lt_of_lt_of_le (E_1.ext O13.2).lt gt25)
  have g_t25 : n0 ≤ t25 := Nat.le_trans (O13.1 ▸ O13.2.1) gt25
  have sz_t25 : h0.size ≤ t25 := Nat.le_trans K13.1 gt25
  have f26 := f14.keep Kq25
  have f27 := f15.keep Kq25 (fun q => nomatch q)
  have f28 := f16.keep Kq25 (fun q => nomatch q)
  have f29 := f17.keep Kq25 (fun q => nomatch q)
  have f30 := f18.keep Kq25 (fun q => nomatch q)
  have f31 := f19.keep Kq25 (fun q => nomatch q)
  have f32 := f20.keep Kq25
  have f33 := f21.keep Kq25 (fun q => nomatch q)
  have f34 := f22.keep Kq25 (fun q => nomatch q)
  have O25 := O13.keep Kq25 all0
  have K25 : Keep h0 T25.heap [] := K13.trans Kq25 all0
  obtain ⟨cq35, kq35, q35a, q35b, q35c⟩ := isOf hZ rfl (E_T.ext O25.2)
  obtain ⟨_, _, ⟨T35, L35, k35, n35⟩, -, X35, ⟨Lc35, hQ35, l35, y35, z35⟩, st35⟩ := X25.virtualBack hx (y := (⟨"com/example/hodos/hodos/model/Time", "equals", "(Ljava/lang/Object;)Z"⟩ : MethodName)) (z := (⟨"com/example/hodos/hodos/model/Time", "equals", "(Ljava/lang/Object;)Z"⟩ : MethodName)) hown (mvT hZ (hw _ (List.mem_of_getElem? (i := 75) rfl))) (mvT hZ (hw _ (List.mem_of_getElem? (i := 76) rfl))) (notFace_of_selects (args := #[]) (mvT hZ (hw _ (List.mem_of_getElem? (i := 78) rfl)))) (mvT hZ (hw _ (List.mem_of_getElem? (i := 78) rfl))) (mvT hZ (hw _ (List.mem_of_getElem? (i := 77) rfl))) (by decide) (backOf (W := 0) (r_eqt l Z a0 hw [] s_T s_Z s_1 m_Z k_Z T25.heap n0 O25 G0 t25 Et25 Fn25 Fd25 (Ne.symm (Old.ne O25 E_T.lt g_t25))) hZ (hw _ (List.mem_of_getElem? (i := 79) rfl)) (hw _ (List.mem_of_getElem? (i := 28) rfl)) (by decide) (by decide)) q35a q35c (g := (mkF m 88 #[.val (.int p1), .val (.int p2), .val (.int p3), .val (.int n), .val (.ref z1), .val (.int cc), .val (.int dd)] [(.ref t25), (.ref s_T)])) rfl (by rw [hml]; rfl) (Steps.refl _) (argsL := [(.ref t25)]) (rest := []) (lenOf pd_15 rfl) rfl (by show 2 * 0 + _ ≤ _; exact Nat.le_of_eq rfl) (hb hby at_88) (fun _ _ => ⟨rfl, rfl, (by decide : 7 + 0 ≤ _), (by decide : 4114 + 0 ≤ _)⟩)
  dsimp only [Pt.U, Pt.locs, Pt.cells, Pt.slots] at X35 l35 y35 z35 st35 hQ35
  subst l35 y35 z35
  obtain ⟨rfl, N35q, e35⟩ := hQ35
  have N35 := Fr.app N25 N35q
  obtain ⟨T36, X36, e36, st36⟩ := getS2 X35 hx hZ hown (host := "") (Or.inl (hw _ (List.mem_of_getElem? (i := 27) rfl))) Via.refl e35 (S_T.ext O25.2) (g := (mkF m 94 #[.val (.int p1), .val (.int p2), .val (.int p3), .val (.int n), .val (.ref z1), .val (.int cc), .val (.int dd)] [])) rfl (hb hby at_94)
  obtain ⟨cq37, kq37, q37a, q37b, q37c⟩ := isOf hZ e36 f26
  obtain ⟨_, _, ⟨T37, L37, k37, n37⟩, -, X37, ⟨Lc37, hQ37, l37, y37, z37⟩, st37⟩ := X36.virtualBack hx (y := (⟨"com/example/hodos/hodos/analysis/Zone", "upper", "(II)Lcom/example/hodos/hodos/model/Time;"⟩ : MethodName)) (z := (⟨"com/example/hodos/hodos/analysis/Zone", "upper", "(II)Lcom/example/hodos/hodos/model/Time;"⟩ : MethodName)) hown (mvT hZ (hw _ (List.mem_of_getElem? (i := 135) rfl))) (mvT hZ (hw _ (List.mem_of_getElem? (i := 136) rfl))) (notFace_of_selects (args := #[]) (mvT hZ (hw _ (List.mem_of_getElem? (i := 138) rfl)))) (mvT hZ (hw _ (List.mem_of_getElem? (i := 138) rfl))) (mvT hZ (hw _ (List.mem_of_getElem? (i := 137) rfl))) (by decide) (backOf (W := 1) (r_up2 l Z a0 hw [] s_T s_Z s_1 m_Z k_Z T25.heap n0 O25 G0 z1 ar1 kk1 n dd cc f26 f27 f28 f29 f30 f31 (own_c1 hle dd0 dd1).2.1 (own_c1 hle dd0 dd1).2.2 (own_c1 hle cc0 cc1).2.1 (own_c1 hle cc0 cc1).2.2 (own_ix hle hge jdd0 jdd1 jcc0 jcc1).1 (own_ix hle hge jdd0 jdd1 jcc0 jcc1).2) hZ (hw _ (List.mem_of_getElem? (i := 139) rfl)) (hw _ (List.mem_of_getElem? (i := 2) rfl)) (by decide) (by decide)) q37a q37c (g := (mkF m 103 #[.val (.int p1), .val (.int p2), .val (.int p3), .val (.int n), .val (.ref z1), .val (.int cc), .val (.int dd)] [(.int cc), (.int dd), (.ref z1), (.ref s_T)])) rfl (by rw [hml]; rfl) (Steps.refl _) (argsL := [(.int dd), (.int cc)]) (rest := [(.ref s_T)]) (lenOf pd_8 rfl) rfl (by show 2 * 0 + _ ≤ _; exact Nat.le_of_eq rfl) (hb hby at_103) (fun _ _ => ⟨rfl, e36, (by decide : 7 + 1 ≤ _), (by decide : 4114 + 2 ≤ _)⟩)
  dsimp only [Pt.U, Pt.locs, Pt.cells, Pt.slots] at X37 l37 y37 z37 st37 hQ37
  subst l37 y37 z37
  obtain ⟨t37, rfl, N37q, Kq37, gt37, Et37, Fn37, Fd37⟩ := hQ37
  have N37 := Fr.app N35 N37q
  have ne_z1_t37 : z1 ≠ t37 := Nat.ne_of_lt (Nat.lt_of_lt_of_le f26.lt gt37)
  have ne_ar1_t37 : ar1 ≠ t37 := Nat.ne_of_lt (Nat.lt_of_lt_of_le f31.lt gt37)
  have ne_t4_t37 : t4 ≠ t37 := Nat.ne_of_lt (Nat.lt_of_lt_of_le f32.lt gt37)
  have ne_t25_t37 : t25 ≠ t37 := Nat.ne_of_lt (Nat.lt_of_lt_of_le Et25.lt gt37)
  have ne_s_T_t37 : s_T ≠ t37 := Nat.ne_of_lt (Nat.lt_of_lt_of_le (E_T.ext O25.2).lt gt37)
  have ne_s_Z_t37 : s_Z ≠ t37 := Nat.ne_of_lt (Nat.lt_of_lt_of_le (E_Z.ext O25.2).lt gt37)
  have ne_s_1_t37 : s_1 ≠ t37 := Nat.ne_of_lt (Nat.lt_of_lt_of_le (E_1.ext O25.2).lt gt37)
  have g_t37 : n0 ≤ t37 := Nat.le_trans (O25.1 ▸ O25.2.1) gt37
  have sz_t37 : h0.size ≤ t37 := Nat.le_trans K25.1 gt37
  have f38 := f26.keep Kq37
  have f39 := f27.keep Kq37 (fun q => nomatch q)
  have f40 := f28.keep Kq37 (fun q => nomatch q)
  have f41 := f29.keep Kq37 (fun q => nomatch q)
  have f42 := f30.keep Kq37 (fun q => nomatch q)
  have f43 := f31.keep Kq37 (fun q => nomatch q)
  have f44 := f32.keep Kq37
  have f45 := f33.keep Kq37 (fun q => nomatch q)
  have f46 := f34.keep Kq37 (fun q => nomatch q)
  have f47 := Et25.keep Kq37
  have f48 := Fn25.keep Kq37 (fun q => nomatch q)
  have f49 := Fd25.keep Kq37 (fun q => nomatch q)
  have O37 := O25.keep Kq37 all0
  have K37 : Keep h0 T37.heap [] := K25.trans Kq37 all0
  obtain ⟨cq50, kq50, q50a, q50b, q50c⟩ := isOf hZ rfl (E_T.ext O37.2)
  obtain ⟨_, _, ⟨T50, L50, k50, n50⟩, -, X50, ⟨Lc50, hQ50, l50, y50, z50⟩, st50⟩ := X37.virtualBack hx (y := (⟨"com/example/hodos/hodos/model/Time", "equals", "(Ljava/lang/Object;)Z"⟩ : MethodName)) (z := (⟨"com/example/hodos/hodos/model/Time", "equals", "(Ljava/lang/Object;)Z"⟩ : MethodName)) hown (mvT hZ (hw _ (List.mem_of_getElem? (i := 75) rfl))) (mvT hZ (hw _ (List.mem_of_getElem? (i := 76) rfl))) (notFace_of_selects (args := #[]) (mvT hZ (hw _ (List.mem_of_getElem? (i := 78) rfl)))) (mvT hZ (hw _ (List.mem_of_getElem? (i := 78) rfl))) (mvT hZ (hw _ (List.mem_of_getElem? (i := 77) rfl))) (by decide) (backOf (W := 0) (r_eqt l Z a0 hw [] s_T s_Z s_1 m_Z k_Z T37.heap n0 O37 G0 t37 Et37 Fn37 Fd37 (Ne.symm (Old.ne O37 E_T.lt g_t37))) hZ (hw _ (List.mem_of_getElem? (i := 79) rfl)) (hw _ (List.mem_of_getElem? (i := 28) rfl)) (by decide) (by decide)) q50a q50c (g := (mkF m 106 #[.val (.int p1), .val (.int p2), .val (.int p3), .val (.int n), .val (.ref z1), .val (.int cc), .val (.int dd)] [(.ref t37), (.ref s_T)])) rfl (by rw [hml]; rfl) (Steps.refl _) (argsL := [(.ref t37)]) (rest := []) (lenOf pd_15 rfl) rfl (by show 2 * 0 + _ ≤ _; exact Nat.le_of_eq rfl) (hb hby at_106) (fun _ _ => ⟨rfl, rfl, (by decide : 8 + 0 ≤ _), (by decide : 4116 + 0 ≤ _)⟩)
  dsimp only [Pt.U, Pt.locs, Pt.cells, Pt.slots] at X50 l50 y50 z50 st50 hQ50
  subst l50 y50 z50
  obtain ⟨rfl, N50q, e50⟩ := hQ50
  have N50 := Fr.app N37 N50q
  obtain ⟨fs, hr, hrun, hended, hW, hsame⟩ := X50.leave (v := some (.int (1 : Int32))) (fun h => by rw [Bd.returns] at h; cases h)
  refine ⟨_, _, pre0 _ ?_, hrun, hended, _, _, rfl, ?_, ⟨_, rfl⟩, hW, hsame.mono (by decide) (by decide)⟩
  · show Steps p.tables e below (s₁.setTop (mkF m 0 #[.val (.int p1), .val (.int p2), .val (.int p3), .unset, .unset, .unset, .unset] [])) _
    refine XS.iloadN X0.here hx rfl (hb hby at_0) rfl ?_
    show Steps p.tables e below (s₁.setTop (mkF m 1 #[.val (.int p1), .val (.int p2), .val (.int p3), .unset, .unset, .unset, .unset] [(.int p1)])) _
    refine XS.bipush X0.here hx rfl (hb hby at_1) ?_
    show Steps p.tables e below (s₁.setTop (mkF m 3 #[.val (.int p1), .val (.int p2), .val (.int p3), .unset, .unset, .unset, .unset] [(.int (63 : Int32)), (.int p1)])) _
    refine XS.iand X0.here hx rfl (hb hby at_3) rfl ?_
    show Steps p.tables e below (s₁.setTop (mkF m 4 #[.val (.int p1), .val (.int p2), .val (.int p3), .unset, .unset, .unset, .unset] [(.int (p1 &&& (63 : Int32)))])) _
    rw [hn]
    show Steps p.tables e below (s₁.setTop (mkF m 4 #[.val (.int p1), .val (.int p2), .val (.int p3), .unset, .unset, .unset, .unset] [(.int n)])) _
    refine XS.istoreN X0.here hx rfl (hb hby at_4) rfl (l' := #[.val (.int p1), .val (.int p2), .val (.int p3), .val (.int n), .unset, .unset, .unset]) rfl ?_
    show Steps p.tables e below (s₁.setTop (mkF m 5 #[.val (.int p1), .val (.int p2), .val (.int p3), .val (.int n), .unset, .unset, .unset] [])) _
    refine XS.iloadN X0.here hx rfl (hb hby at_5) rfl ?_
    show Steps p.tables e below (s₁.setTop (mkF m 6 #[.val (.int p1), .val (.int p2), .val (.int p3), .val (.int n), .unset, .unset, .unset] [(.int n)])) _
    refine st1 _ ?_
    show Steps p.tables e below (T1.setTop (mkF m 9 #[.val (.int p1), .val (.int p2), .val (.int p3), .val (.int n), .unset, .unset, .unset] [(.ref z1)])) _
    refine XS.astore X1.here hx rfl (hb hby at_9) rfl rfl (l' := #[.val (.int p1), .val (.int p2), .val (.int p3), .val (.int n), .val (.ref z1), .unset, .unset]) rfl ?_
    show Steps p.tables e below (T1.setTop (mkF m 11 #[.val (.int p1), .val (.int p2), .val (.int p3), .val (.int n), .val (.ref z1), .unset, .unset] [])) _
    refine XS.aload X1.here hx rfl (hb hby at_11) rfl rfl ?_
    show Steps p.tables e below (T1.setTop (mkF m 13 #[.val (.int p1), .val (.int p2), .val (.int p3), .val (.int n), .val (.ref z1), .unset, .unset] [(.ref z1)])) _
    refine st2.trans ?_
    show Steps p.tables e below (T2.setTop (mkF m 16 #[.val (.int p1), .val (.int p2), .val (.int p3), .val (.int n), .val (.ref z1), .unset, .unset] [(.int ((n + (1 : Int32)) - (1 : Int32)))])) _
    refine XS.iloadN X2.here hx rfl (hb hby at_16) rfl ?_
    show Steps p.tables e below (T2.setTop (mkF m 17 #[.val (.int p1), .val (.int p2), .val (.int p3), .val (.int n), .val (.ref z1), .unset, .unset] [(.int n), (.int ((n + (1 : Int32)) - (1 : Int32)))])) _
    refine XS.icmpYes X2.here hx rfl (pc0 := 17) (pc' := 22) rfl (hb hby at_17) rfl (teq ((own_bnd hle hge).2.2.2.2.2 : ((n + (1 : Int32)) - (1 : Int32)) = n)).1 (by decide) (by decide) ?_
    show Steps p.tables e below (T2.setTop (mkF m 22 #[.val (.int p1), .val (.int p2), .val (.int p3), .val (.int n), .val (.ref z1), .unset, .unset] [])) _
    refine XS.iloadN X2.here hx rfl (hb hby at_22) rfl ?_
    show Steps p.tables e below (T2.setTop (mkF m 23 #[.val (.int p1), .val (.int p2), .val (.int p3), .val (.int n), .val (.ref z1), .unset, .unset] [(.int n)])) _
    refine XS.ifYes X2.here hx rfl (pc0 := 23) (pc' := 28) rfl (hb hby at_23) rfl ((if0 _ _).trans (feq (hz : ¬ (n = (0 : Int32)))).2) (by decide) (by decide) ?_
    show Steps p.tables e below (T2.setTop (mkF m 28 #[.val (.int p1), .val (.int p2), .val (.int p3), .val (.int n), .val (.ref z1), .unset, .unset] [])) _
    refine XS.iloadN X2.here hx rfl (hb hby at_28) rfl ?_
    show Steps p.tables e below (T2.setTop (mkF m 29 #[.val (.int p1), .val (.int p2), .val (.int p3), .val (.int n), .val (.ref z1), .unset, .unset] [(.int p2)])) _
    refine X2.ldcInt hx hown (mvT hZ (hw _ (List.mem_of_getElem? (i := 26) rfl))) (g := (mkF m 29 #[.val (.int p1), .val (.int p2), .val (.int p3), .val (.int n), .val (.ref z1), .unset, .unset] [(.int p2)])) rfl (hb hby at_29) _ ?_
    show Steps p.tables e below (T2.setTop (mkF m 31 #[.val (.int p1), .val (.int p2), .val (.int p3), .val (.int n), .val (.ref z1), .unset, .unset] [(.int (2147483647 : Int32)), (.int p2)])) _
    refine XS.iand X2.here hx rfl (hb hby at_31) rfl ?_
    show Steps p.tables e below (T2.setTop (mkF m 32 #[.val (.int p1), .val (.int p2), .val (.int p3), .val (.int n), .val (.ref z1), .unset, .unset] [(.int (p2 &&& (2147483647 : Int32)))])) _
    refine XS.iloadN X2.here hx rfl (hb hby at_32) rfl ?_
    show Steps p.tables e below (T2.setTop (mkF m 33 #[.val (.int p1), .val (.int p2), .val (.int p3), .val (.int n), .val (.ref z1), .unset, .unset] [(.int n), (.int (p2 &&& (2147483647 : Int32)))])) _
    refine iremM X2 hx rfl (hb hby at_33) rfl hz ?_
    show Steps p.tables e below (T2.setTop (mkF m 34 #[.val (.int p1), .val (.int p2), .val (.int p3), .val (.int n), .val (.ref z1), .unset, .unset] [(.int ((p2 &&& (2147483647 : Int32)) % n))])) _
    rw [hc]
    show Steps p.tables e below (T2.setTop (mkF m 34 #[.val (.int p1), .val (.int p2), .val (.int p3), .val (.int n), .val (.ref z1), .unset, .unset] [(.int cc)])) _
    refine XS.istore X2.here hx rfl (hb hby at_34) rfl (l' := #[.val (.int p1), .val (.int p2), .val (.int p3), .val (.int n), .val (.ref z1), .val (.int cc), .unset]) rfl ?_
    show Steps p.tables e below (T2.setTop (mkF m 36 #[.val (.int p1), .val (.int p2), .val (.int p3), .val (.int n), .val (.ref z1), .val (.int cc), .unset] [])) _
    refine XS.iloadN X2.here hx rfl (hb hby at_36) rfl ?_
    show Steps p.tables e below (T2.setTop (mkF m 37 #[.val (.int p1), .val (.int p2), .val (.int p3), .val (.int n), .val (.ref z1), .val (.int cc), .unset] [(.int p3)])) _
    refine X2.ldcInt hx hown (mvT hZ (hw _ (List.mem_of_getElem? (i := 26) rfl))) (g := (mkF m 37 #[.val (.int p1), .val (.int p2), .val (.int p3), .val (.int n), .val (.ref z1), .val (.int cc), .unset] [(.int p3)])) rfl (hb hby at_37) _ ?_
    show Steps p.tables e below (T2.setTop (mkF m 39 #[.val (.int p1), .val (.int p2), .val (.int p3), .val (.int n), .val (.ref z1), .val (.int cc), .unset] [(.int (2147483647 : Int32)), (.int p3)])) _
    refine XS.iand X2.here hx rfl (hb hby at_39) rfl ?_
    show Steps p.tables e below (T2.setTop (mkF m 40 #[.val (.int p1), .val (.int p2), .val (.int p3), .val (.int n), .val (.ref z1), .val (.int cc), .unset] [(.int (p3 &&& (2147483647 : Int32)))])) _
    refine XS.iloadN X2.here hx rfl (hb hby at_40) rfl ?_
    show Steps p.tables e below (T2.setTop (mkF m 41 #[.val (.int p1), .val (.int p2), .val (.int p3), .val (.int n), .val (.ref z1), .val (.int cc), .unset] [(.int n), (.int (p3 &&& (2147483647 : Int32)))])) _
    refine iremM X2 hx rfl (hb hby at_41) rfl hz ?_
    show Steps p.tables e below (T2.setTop (mkF m 42 #[.val (.int p1), .val (.int p2), .val (.int p3), .val (.int n), .val (.ref z1), .val (.int cc), .unset] [(.int ((p3 &&& (2147483647 : Int32)) % n))])) _
    rw [hd]
    show Steps p.tables e below (T2.setTop (mkF m 42 #[.val (.int p1), .val (.int p2), .val (.int p3), .val (.int n), .val (.ref z1), .val (.int cc), .unset] [(.int dd)])) _
    refine XS.istore X2.here hx rfl (hb hby at_42) rfl (l' := #[.val (.int p1), .val (.int p2), .val (.int p3), .val (.int n), .val (.ref z1), .val (.int cc), .val (.int dd)]) rfl ?_
    show Steps p.tables e below (T2.setTop (mkF m 44 #[.val (.int p1), .val (.int p2), .val (.int p3), .val (.int n), .val (.ref z1), .val (.int cc), .val (.int dd)] [])) _
    refine st3 _ ?_
    show Steps p.tables e below (T3.setTop (mkF m 47 #[.val (.int p1), .val (.int p2), .val (.int p3), .val (.int n), .val (.ref z1), .val (.int cc), .val (.int dd)] [(.ref s_T)])) _
    refine XS.aload X3.here hx rfl (hb hby at_47) rfl rfl ?_
    show Steps p.tables e below (T3.setTop (mkF m 49 #[.val (.int p1), .val (.int p2), .val (.int p3), .val (.int n), .val (.ref z1), .val (.int cc), .val (.int dd)] [(.ref z1), (.ref s_T)])) _
    refine XS.iload X3.here hx rfl (hb hby at_49) rfl ?_
    show Steps p.tables e below (T3.setTop (mkF m 51 #[.val (.int p1), .val (.int p2), .val (.int p3), .val (.int n), .val (.ref z1), .val (.int cc), .val (.int dd)] [(.int cc), (.ref z1), (.ref s_T)])) _
    refine st4.trans ?_
    show Steps p.tables e below (T4.setTop (mkF m 54 #[.val (.int p1), .val (.int p2), .val (.int p3), .val (.int n), .val (.ref z1), .val (.int cc), .val (.int dd)] [(.ref t4), (.ref s_T)])) _
    refine st11.trans ?_
    show Steps p.tables e below (T11.setTop (mkF m 57 #[.val (.int p1), .val (.int p2), .val (.int p3), .val (.int n), .val (.ref z1), .val (.int cc), .val (.int dd)] [(.int (1 : Int32))])) _
    refine XS.ifNo X11.here hx rfl (hb hby at_57) rfl ((if0 _ _).trans (feq (by decide : ¬ ((1 : Int32) = (0 : Int32)))).1) ?_
    show Steps p.tables e below (T11.setTop (mkF m 60 #[.val (.int p1), .val (.int p2), .val (.int p3), .val (.int n), .val (.ref z1), .val (.int cc), .val (.int dd)] [])) _
    refine st12 _ ?_
    show Steps p.tables e below (T12.setTop (mkF m 63 #[.val (.int p1), .val (.int p2), .val (.int p3), .val (.int n), .val (.ref z1), .val (.int cc), .val (.int dd)] [(.ref s_T)])) _
    refine XS.aload X12.here hx rfl (hb hby at_63) rfl rfl ?_
    show Steps p.tables e below (T12.setTop (mkF m 65 #[.val (.int p1), .val (.int p2), .val (.int p3), .val (.int n), .val (.ref z1), .val (.int cc), .val (.int dd)] [(.ref z1), (.ref s_T)])) _
    refine XS.iload X12.here hx rfl (hb hby at_65) rfl ?_
    show Steps p.tables e below (T12.setTop (mkF m 67 #[.val (.int p1), .val (.int p2), .val (.int p3), .val (.int n), .val (.ref z1), .val (.int cc), .val (.int dd)] [(.int cc), (.ref z1), (.ref s_T)])) _
    refine st13.trans ?_
    show Steps p.tables e below (T13.setTop (mkF m 70 #[.val (.int p1), .val (.int p2), .val (.int p3), .val (.int n), .val (.ref z1), .val (.int cc), .val (.int dd)] [(.ref s_T), (.ref s_T)])) _
    refine st23.trans ?_
    show Steps p.tables e below (T23.setTop (mkF m 73 #[.val (.int p1), .val (.int p2), .val (.int p3), .val (.int n), .val (.ref z1), .val (.int cc), .val (.int dd)] [(.int (1 : Int32))])) _
    refine XS.ifNo X23.here hx rfl (hb hby at_73) rfl ((if0 _ _).trans (feq (by decide : ¬ ((1 : Int32) = (0 : Int32)))).1) ?_
    show Steps p.tables e below (T23.setTop (mkF m 76 #[.val (.int p1), .val (.int p2), .val (.int p3), .val (.int n), .val (.ref z1), .val (.int cc), .val (.int dd)] [])) _
    refine st24 _ ?_
    show Steps p.tables e below (T24.setTop (mkF m 79 #[.val (.int p1), .val (.int p2), .val (.int p3), .val (.int n), .val (.ref z1), .val (.int cc), .val (.int dd)] [(.ref s_T)])) _
    refine XS.aload X24.here hx rfl (hb hby at_79) rfl rfl ?_
    show Steps p.tables e below (T24.setTop (mkF m 81 #[.val (.int p1), .val (.int p2), .val (.int p3), .val (.int n), .val (.ref z1), .val (.int cc), .val (.int dd)] [(.ref z1), (.ref s_T)])) _
    refine XS.iload X24.here hx rfl (hb hby at_81) rfl ?_
    show Steps p.tables e below (T24.setTop (mkF m 83 #[.val (.int p1), .val (.int p2), .val (.int p3), .val (.int n), .val (.ref z1), .val (.int cc), .val (.int dd)] [(.int cc), (.ref z1), (.ref s_T)])) _
    refine XS.iload X24.here hx rfl (hb hby at_83) rfl ?_
    show Steps p.tables e below (T24.setTop (mkF m 85 #[.val (.int p1), .val (.int p2), .val (.int p3), .val (.int n), .val (.ref z1), .val (.int cc), .val (.int dd)] [(.int dd), (.int cc), (.ref z1), (.ref s_T)])) _
    refine st25.trans ?_
    show Steps p.tables e below (T25.setTop (mkF m 88 #[.val (.int p1), .val (.int p2), .val (.int p3), .val (.int n), .val (.ref z1), .val (.int cc), .val (.int dd)] [(.ref t25), (.ref s_T)])) _
    refine st35.trans ?_
    show Steps p.tables e below (T35.setTop (mkF m 91 #[.val (.int p1), .val (.int p2), .val (.int p3), .val (.int n), .val (.ref z1), .val (.int cc), .val (.int dd)] [(.int (1 : Int32))])) _
    refine XS.ifNo X35.here hx rfl (hb hby at_91) rfl ((if0 _ _).trans (feq (by decide : ¬ ((1 : Int32) = (0 : Int32)))).1) ?_
    show Steps p.tables e below (T35.setTop (mkF m 94 #[.val (.int p1), .val (.int p2), .val (.int p3), .val (.int n), .val (.ref z1), .val (.int cc), .val (.int dd)] [])) _
    refine st36 _ ?_
    show Steps p.tables e below (T36.setTop (mkF m 97 #[.val (.int p1), .val (.int p2), .val (.int p3), .val (.int n), .val (.ref z1), .val (.int cc), .val (.int dd)] [(.ref s_T)])) _
    refine XS.aload X36.here hx rfl (hb hby at_97) rfl rfl ?_
    show Steps p.tables e below (T36.setTop (mkF m 99 #[.val (.int p1), .val (.int p2), .val (.int p3), .val (.int n), .val (.ref z1), .val (.int cc), .val (.int dd)] [(.ref z1), (.ref s_T)])) _
    refine XS.iload X36.here hx rfl (hb hby at_99) rfl ?_
    show Steps p.tables e below (T36.setTop (mkF m 101 #[.val (.int p1), .val (.int p2), .val (.int p3), .val (.int n), .val (.ref z1), .val (.int cc), .val (.int dd)] [(.int dd), (.ref z1), (.ref s_T)])) _
    refine XS.iload X36.here hx rfl (hb hby at_101) rfl ?_
    show Steps p.tables e below (T36.setTop (mkF m 103 #[.val (.int p1), .val (.int p2), .val (.int p3), .val (.int n), .val (.ref z1), .val (.int cc), .val (.int dd)] [(.int cc), (.int dd), (.ref z1), (.ref s_T)])) _
    refine st37.trans ?_
    show Steps p.tables e below (T37.setTop (mkF m 106 #[.val (.int p1), .val (.int p2), .val (.int p3), .val (.int n), .val (.ref z1), .val (.int cc), .val (.int dd)] [(.ref t37), (.ref s_T)])) _
    refine st50.trans ?_
    show Steps p.tables e below (T50.setTop (mkF m 109 #[.val (.int p1), .val (.int p2), .val (.int p3), .val (.int n), .val (.ref z1), .val (.int cc), .val (.int dd)] [(.int (1 : Int32))])) _
    refine XS.ifNo X50.here hx rfl (hb hby at_109) rfl ((if0 _ _).trans (feq (by decide : ¬ ((1 : Int32) = (0 : Int32)))).1) ?_
    show Steps p.tables e below (T50.setTop (mkF m 112 #[.val (.int p1), .val (.int p2), .val (.int p3), .val (.int n), .val (.ref z1), .val (.int cc), .val (.int dd)] [])) _
    refine XS.iconst X50.here hx rfl (hb hby at_112) ?_
    show Steps p.tables e below (T50.setTop (mkF m 113 #[.val (.int p1), .val (.int p2), .val (.int p3), .val (.int n), .val (.ref z1), .val (.int cc), .val (.int dd)] [(.int (1 : Int32))])) _
    refine XS.goto X50.here hx rfl (pc0 := 113) (pc' := 117) rfl (hb hby at_113) (by decide) (by decide) ?_
    show Steps p.tables e below (T50.setTop (mkF m 117 #[.val (.int p1), .val (.int p2), .val (.int p3), .val (.int n), .val (.ref z1), .val (.int cc), .val (.int dd)] [(.int (1 : Int32))])) _
    exact retN X50 hx (t := .boolean) Bd.returns (by simp) (hb hby at_117) hr
  · show own_Qk (some (.int (1 : Int32))) h0 n0 _ T50.heap _
    rw [e50]
    exact ⟨rfl, N50, K37⟩
theorem own_rem {p n : Int32} (h0 : 0 < n.toInt) : 0 ≤ ((p &&& (2147483647 : Int32)) % n).toInt ∧ ((p &&& (2147483647 : Int32)) % n).toInt < n.toInt := by
  have h1 := c_and p (2147483647 : Int32) (by decide)
  have h2 := (c_iremV (p &&& (2147483647 : Int32)) n).1 h1.1 h0
  exact ⟨h2.1, h2.2.1⟩
theorem own_law (l : Launch) (Z : State) (a0 : Array Value) (hw : ∀ d ∈ tables_1, d.before a0 Z = true) (ws : List Jvm.Cond) (s_T s_Z s_1 m_Z : Addr) (k_Z : ClassId) (h0 : Heap) (n0 : Nat) (O0 : Old Z n0 h0) (G : own_Ctx Z Z.heap s_T s_Z s_1 m_Z k_Z) (p1 p2 p3 : Int32) : MetFree l x (head1 (Jvm.Cond.code x code maxLocals ret :: ws) room_1) (fun a U => a = #[(.int p1), (.int p2), (.int p3)] ∧ Z.Warmed39 U.vm ∧ U.heap = h0) (fun _ _ _ _ _ => True) (fun _ U o U' => ∃ v L, o = .returned v ∧ own_Qk (some (.int (1 : Int32))) h0 n0 v U'.heap L ∧ FrameEnd U o U' L 24 8320) := by
  have h1 := c_and p1 (63 : Int32) (by decide)
  have e63 : (63 : Int32).toInt = 63 := rfl
  have z0 : (0 : Int32).toInt = 0 := rfl
  by_cases hz : p1 &&& (63 : Int32) = (0 : Int32)
  · exact r_law0 l Z a0 hw ws s_T s_Z s_1 m_Z k_Z h0 n0 O0 G p1 p2 p3 _ rfl (by omega) h1.1 hz
  · have hp : 0 < (p1 &&& (63 : Int32)).toInt := by
      have : (p1 &&& (63 : Int32)).toInt ≠ 0 := fun q => hz (Int32.toInt_inj.mp (q.trans rfl))
      omega
    obtain ⟨c0, c1⟩ := own_rem (p := p2) hp
    obtain ⟨d0, d1⟩ := own_rem (p := p3) hp
    have ec := (own_c1 (by omega) c0 c1).1
    have ed := (own_c1 (by omega) d0 d1).1
    exact r_law1 l Z a0 hw ws s_T s_Z s_1 m_Z k_Z h0 n0 O0 G p1 p2 p3 _ _ _ rfl (by omega) h1.1 hz rfl rfl c0 c1 d0 d1 (by omega) (by omega) (by omega) (by omega)
set_option maxRecDepth 65536 in
set_option maxHeartbeats 40000000 in
theorem comes_1 {Post : Tables → Env → Array Value → State → Outcome → State → Prop} (hpost : ∀ tb e args s v u, (limb_1_1.after args s (.returned v) u = true ∧ limb_1_2.after args s (.returned v) u = true ∧ True) → FrameEnd s (.returned v) u (Jvm.fieldLocs frame_1_writes args s ++ Jvm.arrayLocs frame_1_arrays args s ++ Jvm.staticLocs frame_1_statics s) 24 8320 → Post tb e args s (.returned v) u) :
    ArmFor flags0 classFile x code maxLocals ret World_1 tables_1 room_1 Calls_1 rest_1 Pre_1 Post := by
  intro l hfl _ _ p e ha hc hk s m args below hf hA hF happ hP
  obtain ⟨hcalls, hrest, hpre⟩ := hP
  obtain ⟨-, -, -, hnamed, -, -, -, hat⟩ := (Spec.applies_iff hf).mp happ
  obtain ⟨hg, hn⟩ := and_e (Cond.before_iff.mp (show (Jvm.Cond.and given_1 narrow_1).before args s = true from hpre))
  obtain ⟨hg0, hg1⟩ := and_e hg
  obtain ⟨hg10, hg11⟩ := and_e hg1
  obtain ⟨hg110, hg111⟩ := and_e hg11
  obtain ⟨w0, w1, w2, rfl⟩ : ∃ w0 w1 w2 : Value, args = #[w0, w1, w2] := by
    have hs : args.size = 3 := by simpa [Cond.value, given_1] using hg0
    obtain ⟨L⟩ := args
    match L, hs with
    | [w0, w1, w2], _ => exact ⟨w0, w1, w2, rfl⟩
  obtain ⟨i0, ei0⟩ := is_v hg10
  obtain rfl : w0 = (.int i0) := Option.some.inj ei0
  obtain ⟨i1, ei1⟩ := is_v hg110
  obtain rfl : w1 = (.int i1) := Option.some.inj ei1
  obtain ⟨i2, ei2⟩ := is_v hg111
  obtain rfl : w2 = (.int i2) := Option.some.inj ei2
  have hw := fun d (hd : d ∈ tables_1) => atoms_spec (ws := Jvm.Cond.code x code maxLocals ret :: tables_1) hat d (List.mem_cons_of_mem _ hd)
  have hfit : Fit s := fun {y c} hc i hi => by
    obtain ⟨ha, rfl⟩ := Array.getElem?_eq_some_iff.mp hc
    have q := List.all_eq_true.mp ((Array.all_eq_true_iff_forall_mem.mp hF) _ (Array.getElem_mem ha)) i (List.mem_range.mpr hi)
    simpa [Array.getElem?_eq_getElem hi] using q
  obtain ⟨hn0, hn1⟩ := and_e hn
  obtain ⟨hn10, hn11⟩ := and_e hn1
  obtain ⟨hsets, hown0⟩ := atoms_of _ (rest_1_c_eq ▸ (show rest_1_c.before _ s = true from hrest))
  obtain ⟨s_T, ev_T⟩ := exa_v hn0
  have E_T := Exa.start ev_T hn0
  have S_T := Sta.start ev_T (Or.inr ⟨(hw _ (List.mem_of_getElem? (i := 28) rfl)), (hw _ (List.mem_of_getElem? (i := 29) rfl))⟩)
  have q2 := Cond.before_iff.mp (hsets _ (List.mem_of_getElem? (i := 2) rfl))
  obtain ⟨s_Z, ev_Z⟩ := exa_v q2
  have E_Z := Exa.start ev_Z q2
  have S_Z := Sta.start ev_Z (Or.inl (hsets _ (List.mem_of_getElem? (i := 1) rfl)))
  have G_Z := Fld.start ((fld_at ev_Z).symm.trans (own_eqI (Cond.before_iff.mp (hsets _ (List.mem_of_getElem? (i := 3) rfl)))))
  have q4 := Cond.before_iff.mp (hsets _ (List.mem_of_getElem? (i := 4) rfl))
  obtain ⟨m_Z, ev_m⟩ := arr_v q4
  have M_Z := Fld.start ((fld_at ev_Z).symm.trans ev_m)
  obtain ⟨cl_Z, A_Z⟩ := Arr.start ev_m q4
  obtain ⟨z1, z2⟩ := own_len A_Z ev_m (own_eqI (Cond.before_iff.mp (hsets _ (List.mem_of_getElem? (i := 6) rfl))))
  have V_Z : Arv s s.heap m_Z cl_Z.cls .int (0 : Int32) [] (.int (0 : Int32)) := Arv.start hfit A_Z z1 z2 (by decide) rfl trivial
  obtain ⟨k_Z, ek_Z⟩ : ∃ k, k = cl_Z.cls := ⟨_, rfl⟩
  rw [← ek_Z] at V_Z
  have q9 := Cond.before_iff.mp (hsets _ (List.mem_of_getElem? (i := 9) rfl))
  obtain ⟨s_1, ev_1⟩ := exa_v q9
  have E_1 := Exa.start ev_1 q9
  have S_1 := Sta.start ev_1 (Or.inl (hsets _ (List.mem_of_getElem? (i := 8) rfl)))
  have G_1 := Fld.start ((fld_at ev_1).symm.trans (own_eqI (Cond.before_iff.mp (hsets _ (List.mem_of_getElem? (i := 10) rfl)))))
  have N_T := Fld.start ((fld_at ev_T).symm.trans (own_eqR hn10 ev_Z))
  have D_T := Fld.start ((fld_at ev_T).symm.trans (own_eqR hn11 ev_1))
  have G : own_Ctx s s.heap s_T s_Z s_1 m_Z k_Z := ⟨S_T, E_T, N_T, D_T, S_Z, E_Z, G_Z, M_Z, V_Z, S_1, E_1, G_1⟩
  obtain ⟨n, o, h1, h2, h3, _, L, rfl, ⟨rfl, N, -⟩, hq⟩ := own_law l s _ hw tables_1 s_T s_Z s_1 m_Z k_Z s.heap s.heap.size (Old.start s) G i0 i1 i2 p e ha hc hk s m _ below hf ((Spec.applies_iff_loose hf).mp happ).1 ⟨rfl, State.Warmed39.refl s, rfl⟩ trivial
  refine ⟨n, _, h1, h2, h3, hpost _ _ _ _ _ _ ⟨Cond.after_iff.mpr rfl, Cond.after_iff.mpr (eq_i res_at (Term.int_eval (1)) rfl), trivial⟩ ⟨hq.1, hq.2.1, (hq.2.2.sift fun y hy => Or.inr (N y hy)).mono (by decide) (by decide)⟩⟩
theorem main_1_1 : Claimed_1_1 := comes_1 fun _ _ _ _ _ _ h hF => ⟨h.1, hF⟩
theorem main_1_2 : Claimed_1_2 := comes_1 fun _ _ _ _ _ _ h hF => ⟨h.2.1, hF⟩
end Jvm.Pilot.@@N@@
namespace Jvm.Pilot.@@N@@
open Jvm Jvm.ClassFile Sem Op Lib Jvm.Free Jvm.Stand Jvm.Pilot.@@N@@.Jvm.D
/-! MADE BY PROGRAM (witnessworld.py) out of the Statement's table words and the real class files: 17 classes; the members and pool entries that the words name. The judged class is class 1, her method 1. -/
namespace start1
open Jvm.ClassFile
def u (s : String) : CpInfo := .utf8 (stringToUtf16 s)
/-- a pool by its gaps: so many unusable entries, then the entry; so many at the end -/
def gap : Nat → List CpInfo → List CpInfo
  | 0, r => r
  | n + 1, r => .unusable :: gap n r
def poolList (es : List (Nat × CpInfo)) (last : Nat) : List CpInfo := es.foldr (fun e r => gap e.1 (e.2 :: r)) (gap last [])
def pool (es : List (Nat × CpInfo)) (last : Nat) : Array CpInfo := ⟨poolList es last⟩
def fileOf (pool : Array CpInfo) (this : Nat) (attrs : Array Attribute := #[]) (ms : Array MethodInfo := #[]) (fl : Nat := 33) (sup : Nat := 0) (ifs : Array Nat := #[]) (fds : Array FieldInfo := #[]) : ClassFile where
  minorVersion := 0
  majorVersion := 65
  constantPool := pool
  accessFlags := fl
  thisClass := this
  superClass := sup
  interfaces := ifs
  fields := fds
  methods := ms
  attributes := attrs
def plain (name : String) (sup : Option ClassId) : Class where
  name := name
  kind := .ordinary
  loader := none
  accessFlags := 33
  super := sup
  interfaces := #[]
  cf := none
  fields := #[]
  methods := #[]
  instanceTypes := #[]
  staticTypes := #[]
  resolved := #[]
  callSites := []
  init := .initialized
  statics := none
  mirror := none

def pool0 : Array CpInfo := pool [(5, u "<init>"), (0, u "()V"), (1, .class_ 10), (1, u "java/lang/Object")] 113

def k0c0 : Code := { maxStack := 0, maxLocals := 1, code := object_method_1_code, exceptionTable := #[], attributes := #[] }
def k0m0 : Method := { name := "<init>", desc := "()V", sig := { parameters := [], returnType := none }, accessFlags := 1, code := some k0c0 }
/-- java/lang/Object -/
def k0 : Class := { plain "java/lang/Object" none with
  accessFlags := 33
  interfaces := #[]
  cf := some (fileOf pool0 8 #[] #[{ accessFlags := 1, nameIndex := 5, descriptorIndex := 6, attributes := #[] }] 33 0 #[] #[])
  fields := #[]
  methods := #[k0m0]
  instanceTypes := #[]
  staticTypes := #[]
  resolved := Array.replicate 124 none
  statics := none }

def pool1 : Array CpInfo := pool [(2, .class_ 4), (1, u "java/lang/Object"), (0, u "<init>"), (0, u "()V"), (0, .methodref 8 9), (0, .class_ 10), (0, .nameAndType 11 12), (0, u "com/example/hodos/hodos/analysis/Zone"), (0, u "origin"), (0, u "(I)Lcom/example/hodos/hodos/analysis/Zone;"), (0, .methodref 8 14), (0, .nameAndType 15 16), (0, u "components"), (0, u "()I"), (0, .integer 2147483647), (0, .fieldref 19 20), (0, .class_ 21), (0, .nameAndType 22 23), (0, u "com/example/hodos/hodos/model/Time"), (0, u "ZERO"), (0, u "Lcom/example/hodos/hodos/model/Time;"), (0, .methodref 8 25), (0, .nameAndType 26 27), (0, u "upper"), (0, u "(I)Lcom/example/hodos/hodos/model/Time;"), (0, .methodref 19 29), (0, .nameAndType 30 31), (0, u "equals"), (0, u "(Ljava/lang/Object;)Z"), (0, .methodref 8 33), (0, .nameAndType 34 27), (0, u "lower"), (0, .methodref 8 36), (0, .nameAndType 26 37), (0, u "(II)Lcom/example/hodos/hodos/model/Time;"), (0, .class_ 39), (0, u "com/example/hodos/hodos/analysis/ZoneOriginPinLaw"), (2, u "law"), (0, u "(III)Z")] 3

def k1m0 : Method := { name := "<init>", desc := "()V", sig := { parameters := [], returnType := none }, accessFlags := 1, code := none }
def k1c1 : Code := { maxStack := 4, maxLocals := 7, code := code, exceptionTable := #[], attributes := #[] }
def k1m1 : Method := { name := "law", desc := "(III)Z", sig := { parameters := [.int, .int, .int], returnType := some .boolean }, accessFlags := 9, code := some k1c1 }
/-- com/example/hodos/hodos/analysis/ZoneOriginPinLaw -/
def k1 : Class := { plain "com/example/hodos/hodos/analysis/ZoneOriginPinLaw" (some 0) with
  accessFlags := 49
  interfaces := #[]
  cf := some (fileOf pool1 38 #[] #[{ accessFlags := 1, nameIndex := 5, descriptorIndex := 6, attributes := #[] }, { accessFlags := 9, nameIndex := 42, descriptorIndex := 43, attributes := #[] }] 49 2 #[] #[])
  fields := #[]
  methods := #[k1m0, k1m1]
  instanceTypes := #[]
  staticTypes := #[]
  resolved := Array.replicate 47 none
  statics := none }

def pool2 : Array CpInfo := pool [(3, .methodref 4 5), (0, .class_ 6), (0, .nameAndType 7 8), (0, u "java/lang/Object"), (0, u "<init>"), (0, u "()V"), (0, .fieldref 10 11), (0, .class_ 12), (0, .nameAndType 13 14), (0, u "com/example/hodos/hodos/analysis/Zone"), (0, u "size"), (0, u "I"), (0, .fieldref 10 16), (0, .nameAndType 17 18), (0, u "numerators"), (0, u "[J"), (0, .fieldref 10 20), (0, .nameAndType 21 22), (0, u "denominator"), (0, u "J"), (0, .fieldref 10 24), (0, .nameAndType 25 26), (0, u "exact"), (0, u "[Lcom/example/hodos/hodos/model/Time;"), (0, .long 9223372036854775807), (11, .methodref 10 40), (0, .nameAndType 7 41), (0, u "(I[JJ[Lcom/example/hodos/hodos/model/Time;)V"), (7, .class_ 51), (1, u "com/example/hodos/hodos/model/Time"), (45, .methodref 10 98), (0, .nameAndType 99 100), (0, u "row"), (0, u "(I)I"), (0, .methodref 10 102), (0, .nameAndType 103 104), (0, u "bound"), (0, u "(II)Lcom/example/hodos/hodos/model/Time;"), (0, .fieldref 49 106), (0, .nameAndType 107 108), (0, u "ZERO"), (0, u "Lcom/example/hodos/hodos/model/Time;"), (0, .methodref 49 110), (0, .nameAndType 111 112), (0, u "minus"), (0, u "(Lcom/example/hodos/hodos/model/Time;)Lcom/example/hodos/hodos/model/Time;"), (8, u "()I"), (2, u "components"), (74, .methodref 200 201), (0, .class_ 202), (0, .nameAndType 203 204), (0, u "java/util/Objects"), (0, u "checkIndex"), (0, u "(II)I"), (0, .methodref 10 206), (0, .nameAndType 103 207), (0, u "(I)Lcom/example/hodos/hodos/model/Time;"), (0, .methodref 49 209), (0, .nameAndType 210 211), (0, u "of"), (0, u "(JJ)Lcom/example/hodos/hodos/model/Time;"), (111, u "INFINITE"), (1, u "MAX_HELD"), (0, u "NO_SOURCE"), (4, u "origin"), (0, u "(I)Lcom/example/hodos/hodos/analysis/Zone;"), (0, u "upper"), (0, u "lower")] 60

def k2c0 : Code := { maxStack := 3, maxLocals := 6, code := prog_20_method_1_code, exceptionTable := #[], attributes := #[] }
def k2m0 : Method := { name := "<init>", desc := "(I[JJ[Lcom/example/hodos/hodos/model/Time;)V", sig := { parameters := [.int, (.array .long), .long, (.array (.object "com/example/hodos/hodos/model/Time"))], returnType := none }, accessFlags := 2, code := some k2c0 }
def k2c1 : Code := { maxStack := 7, maxLocals := 1, code := prog_20_method_4_code, exceptionTable := #[], attributes := #[] }
def k2m1 : Method := { name := "origin", desc := "(I)Lcom/example/hodos/hodos/analysis/Zone;", sig := { parameters := [.int], returnType := some (.object "com/example/hodos/hodos/analysis/Zone") }, accessFlags := 9, code := some k2c1 }
def k2c2 : Code := { maxStack := 2, maxLocals := 1, code := prog_20_method_5_code, exceptionTable := #[], attributes := #[] }
def k2m2 : Method := { name := "components", desc := "()I", sig := { parameters := [], returnType := some .int }, accessFlags := 1, code := some k2c2 }
def k2c3 : Code := { maxStack := 3, maxLocals := 2, code := prog_20_method_6_code, exceptionTable := #[], attributes := #[] }
def k2m3 : Method := { name := "upper", desc := "(I)Lcom/example/hodos/hodos/model/Time;", sig := { parameters := [.int], returnType := some (.object "com/example/hodos/hodos/model/Time") }, accessFlags := 1, code := some k2c3 }
def k2c4 : Code := { maxStack := 5, maxLocals := 2, code := prog_20_method_7_code, exceptionTable := #[], attributes := #[] }
def k2m4 : Method := { name := "lower", desc := "(I)Lcom/example/hodos/hodos/model/Time;", sig := { parameters := [.int], returnType := some (.object "com/example/hodos/hodos/model/Time") }, accessFlags := 1, code := some k2c4 }
def k2c5 : Code := { maxStack := 4, maxLocals := 3, code := prog_20_method_8_code, exceptionTable := #[], attributes := #[] }
def k2m5 : Method := { name := "upper", desc := "(II)Lcom/example/hodos/hodos/model/Time;", sig := { parameters := [.int, .int], returnType := some (.object "com/example/hodos/hodos/model/Time") }, accessFlags := 1, code := some k2c5 }
def k2c6 : Code := { maxStack := 3, maxLocals := 2, code := prog_20_method_24_code, exceptionTable := #[], attributes := #[] }
def k2m6 : Method := { name := "row", desc := "(I)I", sig := { parameters := [.int], returnType := some .int }, accessFlags := 2, code := some k2c6 }
def k2c7 : Code := { maxStack := 3, maxLocals := 3, code := prog_20_method_25_code, exceptionTable := #[], attributes := #[] }
def k2m7 : Method := { name := "bound", desc := "(II)Lcom/example/hodos/hodos/model/Time;", sig := { parameters := [.int, .int], returnType := some (.object "com/example/hodos/hodos/model/Time") }, accessFlags := 2, code := some k2c7 }
def k2c8 : Code := { maxStack := 4, maxLocals := 3, code := prog_20_method_26_code, exceptionTable := #[], attributes := #[] }
def k2m8 : Method := { name := "bound", desc := "(I)Lcom/example/hodos/hodos/model/Time;", sig := { parameters := [.int], returnType := some (.object "com/example/hodos/hodos/model/Time") }, accessFlags := 2, code := some k2c8 }
/-- com/example/hodos/hodos/analysis/Zone -/
def k2 : Class := { plain "com/example/hodos/hodos/analysis/Zone" (some 0) with
  accessFlags := 49
  interfaces := #[]
  cf := some (fileOf pool2 10 #[] #[{ accessFlags := 2, nameIndex := 7, descriptorIndex := 41, attributes := #[] }, { accessFlags := 9, nameIndex := 331, descriptorIndex := 332, attributes := #[] }, { accessFlags := 1, nameIndex := 124, descriptorIndex := 121, attributes := #[] }, { accessFlags := 1, nameIndex := 333, descriptorIndex := 207, attributes := #[] }, { accessFlags := 1, nameIndex := 334, descriptorIndex := 207, attributes := #[] }, { accessFlags := 1, nameIndex := 333, descriptorIndex := 104, attributes := #[] }, { accessFlags := 2, nameIndex := 99, descriptorIndex := 100, attributes := #[] }, { accessFlags := 2, nameIndex := 103, descriptorIndex := 104, attributes := #[] }, { accessFlags := 2, nameIndex := 103, descriptorIndex := 207, attributes := #[] }] 49 4 #[] #[{ accessFlags := 26, nameIndex := 323, descriptorIndex := 22, attributes := #[] }, { accessFlags := 26, nameIndex := 325, descriptorIndex := 22, attributes := #[] }, { accessFlags := 26, nameIndex := 326, descriptorIndex := 14, attributes := #[] }, { accessFlags := 18, nameIndex := 13, descriptorIndex := 14, attributes := #[] }, { accessFlags := 18, nameIndex := 17, descriptorIndex := 18, attributes := #[] }, { accessFlags := 18, nameIndex := 21, descriptorIndex := 22, attributes := #[] }, { accessFlags := 18, nameIndex := 25, descriptorIndex := 26, attributes := #[] }])
  fields := #[{ name := "INFINITE", type := .long, accessFlags := 26, slot := 0, constantValue := 0 }, { name := "MAX_HELD", type := .long, accessFlags := 26, slot := 1, constantValue := 0 }, { name := "NO_SOURCE", type := .int, accessFlags := 26, slot := 2, constantValue := 0 }, { name := "size", type := .int, accessFlags := 18, slot := 0, constantValue := 0 }, { name := "numerators", type := (.array .long), accessFlags := 18, slot := 1, constantValue := 0 }, { name := "denominator", type := .long, accessFlags := 18, slot := 2, constantValue := 0 }, { name := "exact", type := (.array (.object "com/example/hodos/hodos/model/Time")), accessFlags := 18, slot := 3, constantValue := 0 }]
  methods := #[k2m0, k2m1, k2m2, k2m3, k2m4, k2m5, k2m6, k2m7, k2m8]
  instanceTypes := #[.int, (.array .long), .long, (.array (.object "com/example/hodos/hodos/model/Time"))]
  staticTypes := #[.long, .long, .int]
  resolved := Array.replicate 395 none
  statics := none }

def pool3 : Array CpInfo := pool [(1, .class_ 2), (0, u "java/lang/Comparable"), (0, .class_ 4), (0, u "java/lang/Object")] 7

/-- java/lang/Comparable -/
def k3 : Class := { plain "java/lang/Comparable" (some 0) with
  accessFlags := 1537
  interfaces := #[]
  cf := some (fileOf pool3 1 #[] #[] 1537 3 #[] #[])
  fields := #[]
  methods := #[]
  instanceTypes := #[]
  staticTypes := #[]
  resolved := Array.replicate 12 none
  statics := none }

def pool4 : Array CpInfo := pool [(1, .methodref 2 3), (0, .class_ 4), (0, .nameAndType 5 6), (0, u "java/lang/Object"), (0, u "<init>"), (0, u "()V"), (0, .fieldref 8 9), (0, .class_ 10), (0, .nameAndType 11 12), (0, u "com/example/hodos/hodos/model/Time"), (0, u "numerator"), (0, u "Ljava/math/BigInteger;"), (0, .fieldref 8 14), (0, .nameAndType 15 12), (0, u "denominator"), (0, .methodref 17 18), (0, .class_ 19), (0, .nameAndType 20 21), (0, u "java/math/BigInteger"), (0, u "signum"), (0, u "()I"), (6, u "valueOf"), (12, .methodref 17 42), (0, .nameAndType 28 43), (0, u "(J)Ljava/math/BigInteger;"), (6, .methodref 8 51), (0, .nameAndType 5 52), (0, u "(Ljava/math/BigInteger;Ljava/math/BigInteger;)V"), (0, .fieldref 17 54), (0, .nameAndType 55 12), (0, u "ONE"), (2, u "of"), (17, u "DECIMAL"), (0, u "Ljava/util/regex/Pattern;"), (8, u "FRACTION"), (3, .nameAndType 91 92), (0, u "equals"), (0, u "(Ljava/lang/Object;)Z"), (2, u "INFINITY"), (0, u "Lcom/example/hodos/hodos/model/Time;"), (5, u "()Z"), (25, .methodref 8 129), (0, .nameAndType 130 102), (0, u "isInfinite"), (4, .methodref 17 136), (0, .nameAndType 137 138), (0, u "negate"), (0, u "()Ljava/math/BigInteger;"), (0, .methodref 8 140), (0, .nameAndType 141 142), (0, u "plus"), (0, u "(Lcom/example/hodos/hodos/model/Time;)Lcom/example/hodos/hodos/model/Time;"), (18, .methodref 17 90), (44, u "FIVE"), (11, u "ZERO"), (12, .class_ 232), (0, u "java/lang/Comparable"), (0, u "MAX_WRITTEN_LENGTH"), (0, u "I"), (2, u "INFINITY_TEXT"), (0, u "Ljava/lang/String;"), (0, u "HASH_FACTOR"), (3, u "(JJ)Lcom/example/hodos/hodos/model/Time;"), (2, u "minus")] 40

def k4c0 : Code := { maxStack := 2, maxLocals := 3, code := prog_69_method_1_code, exceptionTable := #[], attributes := #[] }
def k4m0 : Method := { name := "<init>", desc := "(Ljava/math/BigInteger;Ljava/math/BigInteger;)V", sig := { parameters := [(.object "java/math/BigInteger"), (.object "java/math/BigInteger")], returnType := none }, accessFlags := 2, code := some k4c0 }
def k4c1 : Code := { maxStack := 4, maxLocals := 4, code := prog_69_method_3_code, exceptionTable := #[], attributes := #[] }
def k4m1 : Method := { name := "of", desc := "(JJ)Lcom/example/hodos/hodos/model/Time;", sig := { parameters := [.long, .long], returnType := some (.object "com/example/hodos/hodos/model/Time") }, accessFlags := 9, code := some k4c1 }
def k4c2 : Code := { maxStack := 1, maxLocals := 1, code := prog_69_method_8_code, exceptionTable := #[], attributes := #[] }
def k4m2 : Method := { name := "isInfinite", desc := "()Z", sig := { parameters := [], returnType := some .boolean }, accessFlags := 1, code := some k4c2 }
def k4c3 : Code := { maxStack := 3, maxLocals := 3, code := prog_69_method_9_code, exceptionTable := #[], attributes := #[] }
def k4m3 : Method := { name := "plus", desc := "(Lcom/example/hodos/hodos/model/Time;)Lcom/example/hodos/hodos/model/Time;", sig := { parameters := [(.object "com/example/hodos/hodos/model/Time")], returnType := some (.object "com/example/hodos/hodos/model/Time") }, accessFlags := 1, code := some k4c3 }
def k4c4 : Code := { maxStack := 5, maxLocals := 2, code := prog_69_method_10_code, exceptionTable := #[], attributes := #[] }
def k4m4 : Method := { name := "minus", desc := "(Lcom/example/hodos/hodos/model/Time;)Lcom/example/hodos/hodos/model/Time;", sig := { parameters := [(.object "com/example/hodos/hodos/model/Time")], returnType := some (.object "com/example/hodos/hodos/model/Time") }, accessFlags := 1, code := some k4c4 }
def k4c5 : Code := { maxStack := 2, maxLocals := 3, code := prog_69_method_14_code, exceptionTable := #[], attributes := #[] }
def k4m5 : Method := { name := "equals", desc := "(Ljava/lang/Object;)Z", sig := { parameters := [(.object "java/lang/Object")], returnType := some .boolean }, accessFlags := 1, code := some k4c5 }
/-- com/example/hodos/hodos/model/Time -/
def k4 : Class := { plain "com/example/hodos/hodos/model/Time" (some 0) with
  accessFlags := 49
  interfaces := #[3]
  cf := some (fileOf pool4 8 #[] #[{ accessFlags := 2, nameIndex := 5, descriptorIndex := 52, attributes := #[] }, { accessFlags := 9, nameIndex := 58, descriptorIndex := 243, attributes := #[] }, { accessFlags := 1, nameIndex := 130, descriptorIndex := 102, attributes := #[] }, { accessFlags := 1, nameIndex := 141, descriptorIndex := 142, attributes := #[] }, { accessFlags := 1, nameIndex := 246, descriptorIndex := 142, attributes := #[] }, { accessFlags := 1, nameIndex := 91, descriptorIndex := 92, attributes := #[] }] 49 2 #[231] #[{ accessFlags := 25, nameIndex := 218, descriptorIndex := 96, attributes := #[] }, { accessFlags := 25, nameIndex := 95, descriptorIndex := 96, attributes := #[] }, { accessFlags := 25, nameIndex := 233, descriptorIndex := 234, attributes := #[] }, { accessFlags := 26, nameIndex := 237, descriptorIndex := 238, attributes := #[] }, { accessFlags := 26, nameIndex := 76, descriptorIndex := 77, attributes := #[] }, { accessFlags := 26, nameIndex := 86, descriptorIndex := 77, attributes := #[] }, { accessFlags := 26, nameIndex := 206, descriptorIndex := 12, attributes := #[] }, { accessFlags := 24, nameIndex := 239, descriptorIndex := 234, attributes := #[] }, { accessFlags := 18, nameIndex := 11, descriptorIndex := 12, attributes := #[] }, { accessFlags := 18, nameIndex := 15, descriptorIndex := 12, attributes := #[] }])
  fields := #[{ name := "ZERO", type := (.object "com/example/hodos/hodos/model/Time"), accessFlags := 25, slot := 0, constantValue := 0 }, { name := "INFINITY", type := (.object "com/example/hodos/hodos/model/Time"), accessFlags := 25, slot := 1, constantValue := 0 }, { name := "MAX_WRITTEN_LENGTH", type := .int, accessFlags := 25, slot := 2, constantValue := 0 }, { name := "INFINITY_TEXT", type := (.object "java/lang/String"), accessFlags := 26, slot := 3, constantValue := 0 }, { name := "DECIMAL", type := (.object "java/util/regex/Pattern"), accessFlags := 26, slot := 4, constantValue := 0 }, { name := "FRACTION", type := (.object "java/util/regex/Pattern"), accessFlags := 26, slot := 5, constantValue := 0 }, { name := "FIVE", type := (.object "java/math/BigInteger"), accessFlags := 26, slot := 6, constantValue := 0 }, { name := "HASH_FACTOR", type := .int, accessFlags := 24, slot := 7, constantValue := 0 }, { name := "numerator", type := (.object "java/math/BigInteger"), accessFlags := 18, slot := 0, constantValue := 0 }, { name := "denominator", type := (.object "java/math/BigInteger"), accessFlags := 18, slot := 1, constantValue := 0 }]
  methods := #[k4m0, k4m1, k4m2, k4m3, k4m4, k4m5]
  instanceTypes := #[(.object "java/math/BigInteger"), (.object "java/math/BigInteger")]
  staticTypes := #[(.object "com/example/hodos/hodos/model/Time"), (.object "com/example/hodos/hodos/model/Time"), .int, (.object "java/lang/String"), (.object "java/util/regex/Pattern"), (.object "java/util/regex/Pattern"), (.object "java/math/BigInteger"), .int]
  resolved := Array.replicate 287 none
  statics := some 0 }

def pool5 : Array CpInfo := pool [(2, .class_ 4), (1, u "java/lang/Object"), (0, u "<init>"), (0, u "()V"), (35, .class_ 44), (1, u "java/util/Objects"), (60, .methodref 106 107), (0, .class_ 108), (0, .nameAndType 109 110), (0, u "jdk/internal/util/Preconditions"), (0, u "checkIndex"), (0, u "(IILjava/util/function/BiFunction;)I"), (60, u "(II)I")] 12

def k5m0 : Method := { name := "<init>", desc := "()V", sig := { parameters := [], returnType := none }, accessFlags := 2, code := none }
def k5c1 : Code := { maxStack := 3, maxLocals := 2, code := jdk_31_method_17_code, exceptionTable := #[], attributes := #[] }
def k5m1 : Method := { name := "checkIndex", desc := "(II)I", sig := { parameters := [.int, .int], returnType := some .int }, accessFlags := 9, code := some k5c1 }
/-- java/util/Objects -/
def k5 : Class := { plain "java/util/Objects" (some 0) with
  accessFlags := 49
  interfaces := #[]
  cf := some (fileOf pool5 42 #[] #[{ accessFlags := 2, nameIndex := 5, descriptorIndex := 6, attributes := #[] }, { accessFlags := 9, nameIndex := 109, descriptorIndex := 171, attributes := #[] }] 49 2 #[] #[])
  fields := #[]
  methods := #[k5m0, k5m1]
  instanceTypes := #[]
  staticTypes := #[]
  resolved := Array.replicate 184 none
  statics := none }

def pool6 : Array CpInfo := pool [(2, .class_ 4), (1, u "java/lang/Object"), (0, u "<init>"), (0, u "()V"), (17, .class_ 26), (1, u "jdk/internal/util/Preconditions"), (6, u "checkIndex"), (21, .class_ 56), (0, u "jdk/internal/util/Preconditions$4"), (57, .class_ 115), (0, u "jdk/internal/util/Preconditions$1"), (7, u "SIOOBE_FORMATTER"), (0, u "Ljava/util/function/BiFunction;"), (0, .class_ 126), (0, u "jdk/internal/util/Preconditions$2"), (3, u "AIOOBE_FORMATTER"), (0, .class_ 132), (0, u "jdk/internal/util/Preconditions$3"), (3, u "IOOBE_FORMATTER"), (41, u "(IILjava/util/function/BiFunction;)I")] 15

def k6m0 : Method := { name := "<init>", desc := "()V", sig := { parameters := [], returnType := none }, accessFlags := 1, code := none }
def k6c1 : Code := { maxStack := 3, maxLocals := 3, code := jdk_41_method_11_code, exceptionTable := #[], attributes := #[] }
def k6m1 : Method := { name := "checkIndex", desc := "(IILjava/util/function/BiFunction;)I", sig := { parameters := [.int, .int, (.object "java/util/function/BiFunction")], returnType := some .int }, accessFlags := 9, code := some k6c1 }
/-- jdk/internal/util/Preconditions -/
def k6 : Class := { plain "jdk/internal/util/Preconditions" (some 0) with
  accessFlags := 33
  interfaces := #[]
  cf := some (fileOf pool6 24 #[.nestMembers #[55, 131, 125, 114]] #[{ accessFlags := 1, nameIndex := 5, descriptorIndex := 6, attributes := #[] }, { accessFlags := 9, nameIndex := 33, descriptorIndex := 178, attributes := #[] }] 33 2 #[] #[{ accessFlags := 25, nameIndex := 123, descriptorIndex := 124, attributes := #[] }, { accessFlags := 25, nameIndex := 130, descriptorIndex := 124, attributes := #[] }, { accessFlags := 25, nameIndex := 136, descriptorIndex := 124, attributes := #[] }])
  fields := #[{ name := "SIOOBE_FORMATTER", type := (.object "java/util/function/BiFunction"), accessFlags := 25, slot := 0, constantValue := 0 }, { name := "AIOOBE_FORMATTER", type := (.object "java/util/function/BiFunction"), accessFlags := 25, slot := 1, constantValue := 0 }, { name := "IOOBE_FORMATTER", type := (.object "java/util/function/BiFunction"), accessFlags := 25, slot := 2, constantValue := 0 }]
  methods := #[k6m0, k6m1]
  instanceTypes := #[]
  staticTypes := #[(.object "java/util/function/BiFunction"), (.object "java/util/function/BiFunction"), (.object "java/util/function/BiFunction")]
  resolved := Array.replicate 194 none
  statics := none }

def pool7 : Array CpInfo := pool [(1, .class_ 2), (0, u "java/io/Serializable"), (0, .class_ 4), (0, u "java/lang/Object")] 2

/-- java/io/Serializable -/
def k7 : Class := { plain "java/io/Serializable" (some 0) with
  accessFlags := 1537
  interfaces := #[]
  cf := some (fileOf pool7 1 #[] #[] 1537 3 #[] #[])
  fields := #[]
  methods := #[]
  instanceTypes := #[]
  staticTypes := #[]
  resolved := Array.replicate 7 none
  statics := none }

def pool8 : Array CpInfo := pool [(1, .methodref 2 3), (0, .class_ 4), (0, .nameAndType 5 6), (0, u "java/lang/Object"), (0, u "<init>"), (0, u "()V"), (1, .class_ 10), (1, u "java/lang/Number"), (2, .class_ 14), (0, u "java/io/Serializable"), (0, u "serialVersionUID"), (0, u "J")] 20

def k8c0 : Code := { maxStack := 1, maxLocals := 1, code := jdk_18_method_1_code, exceptionTable := #[], attributes := #[] }
def k8m0 : Method := { name := "<init>", desc := "()V", sig := { parameters := [], returnType := none }, accessFlags := 1, code := some k8c0 }
/-- java/lang/Number -/
def k8 : Class := { plain "java/lang/Number" (some 0) with
  accessFlags := 1057
  interfaces := #[7]
  cf := some (fileOf pool8 8 #[] #[{ accessFlags := 1, nameIndex := 5, descriptorIndex := 6, attributes := #[] }] 1057 2 #[13] #[{ accessFlags := 26, nameIndex := 15, descriptorIndex := 16, attributes := #[] }])
  fields := #[{ name := "serialVersionUID", type := .long, accessFlags := 26, slot := 0, constantValue := 0 }]
  methods := #[k8m0]
  instanceTypes := #[]
  staticTypes := #[.long]
  resolved := Array.replicate 37 none
  statics := none }

def pool9 : Array CpInfo := pool [(3, .methodref 4 5), (0, .class_ 6), (0, .nameAndType 7 8), (0, u "java/lang/Number"), (0, u "<init>"), (0, u "()V"), (13, .fieldref 23 24), (0, .class_ 25), (0, .nameAndType 26 27), (0, u "java/math/BigInteger"), (0, u "ZERO"), (0, u "Ljava/math/BigInteger;"), (0, .fieldref 23 29), (0, .nameAndType 30 31), (0, u "mag"), (0, u "[I"), (0, .fieldref 23 33), (0, .nameAndType 34 35), (0, u "signum"), (0, u "I"), (7, .integer 67108864), (30, u "()I"), (20, u "bitsPerDigit"), (0, u "[J"), (9, u "digitsPerInt"), (12, u "intRadix"), (55, .methodref 23 176), (0, .nameAndType 7 177), (0, u "([II)V"), (2, u "SMALL_PRIME_PRODUCT"), (56, u "valueOf"), (0, u "(J)Ljava/math/BigInteger;"), (21, u "ONE"), (2, u "equals"), (0, u "(Ljava/lang/Object;)Z"), (2, u "TWO"), (43, u "$assertionsDisabled"), (0, u "Z"), (9, u "()Ljava/math/BigInteger;"), (26, u "posConst"), (0, u "[Ljava/math/BigInteger;"), (4, u "negConst"), (40, u "negate"), (75, .class_ 474), (1, u "java/math/BigInteger$RecursiveOp"), (106, u "NEGATIVE_ONE"), (91, u "bnExpModThreshTable"), (72, u "lowestSetBitPlusTwo"), (2, u "bitLengthPlusOne"), (2, u "bitCountPlusOne"), (6, u "LOG_TWO"), (0, u "D"), (2, u "logCache"), (0, u "[D"), (13, u "NUM_ZEROS"), (2, u "ZEROS"), (0, u "Ljava/lang/String;"), (9, u "longRadix"), (5, u "digitsPerLong"), (22, u "powerCache"), (0, u "[[Ljava/math/BigInteger;"), (45, u "firstNonzeroIntNumPlusTwo"), (38, .class_ 909), (1, u "java/math/BigInteger$UnsafeHolder"), (141, u "TEN"), (106, u "serialPersistentFields"), (0, u "[Ljava/io/ObjectStreamField;"), (0, .class_ 1161), (0, u "java/lang/Comparable"), (0, u "LONG_MASK"), (0, u "J"), (1, u "MAX_MAG_LENGTH"), (0, u "PRIME_SEARCH_BIT_LENGTH_LIMIT"), (1, u "KARATSUBA_THRESHOLD"), (1, u "TOOM_COOK_THRESHOLD"), (1, u "KARATSUBA_SQUARE_THRESHOLD"), (1, u "TOOM_COOK_SQUARE_THRESHOLD"), (1, u "BURNIKEL_ZIEGLER_THRESHOLD"), (0, u "BURNIKEL_ZIEGLER_OFFSET"), (1, u "SCHOENHAGE_BASE_CONVERSION_THRESHOLD"), (1, u "MULTIPLY_SQUARE_THRESHOLD"), (0, u "MONTGOMERY_INTRINSIC_THRESHOLD"), (1, u "SMALL_PRIME_THRESHOLD"), (1, u "DEFAULT_PRIME_CERTAINTY"), (1, u "MAX_CONSTANT"), (3, u "serialVersionUID"), (338, .class_ 1532), (0, u "java/math/BigInteger$RecursiveOp$RecursiveSquare"), (0, .class_ 1534), (0, u "java/math/BigInteger$RecursiveOp$RecursiveMultiply")] 7

def k9c0 : Code := { maxStack := 2, maxLocals := 3, code := jdk_2097_method_25_code, exceptionTable := #[], attributes := #[] }
def k9m0 : Method := { name := "<init>", desc := "([II)V", sig := { parameters := [(.array .int), .int], returnType := none }, accessFlags := 0, code := some k9c0 }
def k9c1 : Code := { maxStack := 4, maxLocals := 2, code := jdk_2097_method_29_code, exceptionTable := #[], attributes := #[] }
def k9m1 : Method := { name := "valueOf", desc := "(J)Ljava/math/BigInteger;", sig := { parameters := [.long], returnType := some (.object "java/math/BigInteger") }, accessFlags := 9, code := some k9c1 }
def k9c2 : Code := { maxStack := 4, maxLocals := 1, code := jdk_2097_method_80_code, exceptionTable := #[], attributes := #[] }
def k9m2 : Method := { name := "negate", desc := "()Ljava/math/BigInteger;", sig := { parameters := [], returnType := some (.object "java/math/BigInteger") }, accessFlags := 1, code := some k9c2 }
def k9c3 : Code := { maxStack := 1, maxLocals := 1, code := jdk_2097_method_81_code, exceptionTable := #[], attributes := #[] }
def k9m3 : Method := { name := "signum", desc := "()I", sig := { parameters := [], returnType := some .int }, accessFlags := 1, code := some k9c3 }
def k9c4 : Code := { maxStack := 3, maxLocals := 7, code := jdk_2097_method_124_code, exceptionTable := #[], attributes := #[] }
def k9m4 : Method := { name := "equals", desc := "(Ljava/lang/Object;)Z", sig := { parameters := [(.object "java/lang/Object")], returnType := some .boolean }, accessFlags := 1, code := some k9c4 }
/-- java/math/BigInteger -/
def k9 : Class := { plain "java/math/BigInteger" (some 8) with
  accessFlags := 33
  interfaces := #[3]
  cf := some (fileOf pool9 23 #[.nestMembers #[907, 472, 1531, 1533]] #[{ accessFlags := 0, nameIndex := 7, descriptorIndex := 177, attributes := #[] }, { accessFlags := 9, nameIndex := 237, descriptorIndex := 238, attributes := #[] }, { accessFlags := 1, nameIndex := 396, descriptorIndex := 322, attributes := #[] }, { accessFlags := 1, nameIndex := 34, descriptorIndex := 74, attributes := #[] }, { accessFlags := 1, nameIndex := 263, descriptorIndex := 264, attributes := #[] }] 33 4 #[1160] #[{ accessFlags := 16, nameIndex := 34, descriptorIndex := 35, attributes := #[] }, { accessFlags := 16, nameIndex := 30, descriptorIndex := 31, attributes := #[] }, { accessFlags := 2, nameIndex := 752, descriptorIndex := 35, attributes := #[] }, { accessFlags := 2, nameIndex := 749, descriptorIndex := 35, attributes := #[] }, { accessFlags := 2, nameIndex := 746, descriptorIndex := 35, attributes := #[] }, { accessFlags := 2, nameIndex := 868, descriptorIndex := 35, attributes := #[] }, { accessFlags := 24, nameIndex := 1162, descriptorIndex := 1163, attributes := #[] }, { accessFlags := 26, nameIndex := 1165, descriptorIndex := 35, attributes := #[] }, { accessFlags := 26, nameIndex := 1166, descriptorIndex := 35, attributes := #[] }, { accessFlags := 26, nameIndex := 1168, descriptorIndex := 35, attributes := #[] }, { accessFlags := 26, nameIndex := 1170, descriptorIndex := 35, attributes := #[] }, { accessFlags := 26, nameIndex := 1172, descriptorIndex := 35, attributes := #[] }, { accessFlags := 26, nameIndex := 1174, descriptorIndex := 35, attributes := #[] }, { accessFlags := 24, nameIndex := 1176, descriptorIndex := 35, attributes := #[] }, { accessFlags := 24, nameIndex := 1177, descriptorIndex := 35, attributes := #[] }, { accessFlags := 26, nameIndex := 1179, descriptorIndex := 35, attributes := #[] }, { accessFlags := 26, nameIndex := 1181, descriptorIndex := 35, attributes := #[] }, { accessFlags := 26, nameIndex := 1182, descriptorIndex := 35, attributes := #[] }, { accessFlags := 10, nameIndex := 95, descriptorIndex := 96, attributes := #[] }, { accessFlags := 26, nameIndex := 1184, descriptorIndex := 35, attributes := #[] }, { accessFlags := 26, nameIndex := 1186, descriptorIndex := 35, attributes := #[] }, { accessFlags := 26, nameIndex := 180, descriptorIndex := 27, attributes := #[] }, { accessFlags := 26, nameIndex := 1188, descriptorIndex := 35, attributes := #[] }, { accessFlags := 26, nameIndex := 349, descriptorIndex := 350, attributes := #[] }, { accessFlags := 26, nameIndex := 355, descriptorIndex := 350, attributes := #[] }, { accessFlags := 74, nameIndex := 821, descriptorIndex := 822, attributes := #[] }, { accessFlags := 26, nameIndex := 763, descriptorIndex := 764, attributes := #[] }, { accessFlags := 26, nameIndex := 759, descriptorIndex := 760, attributes := #[] }, { accessFlags := 25, nameIndex := 26, descriptorIndex := 27, attributes := #[] }, { accessFlags := 25, nameIndex := 260, descriptorIndex := 27, attributes := #[] }, { accessFlags := 25, nameIndex := 267, descriptorIndex := 27, attributes := #[] }, { accessFlags := 26, nameIndex := 581, descriptorIndex := 27, attributes := #[] }, { accessFlags := 25, nameIndex := 1051, descriptorIndex := 27, attributes := #[] }, { accessFlags := 8, nameIndex := 673, descriptorIndex := 31, attributes := #[] }, { accessFlags := 10, nameIndex := 778, descriptorIndex := 35, attributes := #[] }, { accessFlags := 26, nameIndex := 781, descriptorIndex := 782, attributes := #[] }, { accessFlags := 10, nameIndex := 798, descriptorIndex := 31, attributes := #[] }, { accessFlags := 10, nameIndex := 792, descriptorIndex := 350, attributes := #[] }, { accessFlags := 10, nameIndex := 106, descriptorIndex := 31, attributes := #[] }, { accessFlags := 10, nameIndex := 119, descriptorIndex := 31, attributes := #[] }, { accessFlags := 26, nameIndex := 1192, descriptorIndex := 1163, attributes := #[] }, { accessFlags := 26, nameIndex := 1158, descriptorIndex := 1159, attributes := #[] }, { accessFlags := 4120, nameIndex := 311, descriptorIndex := 312, attributes := #[] }])
  fields := #[{ name := "signum", type := .int, accessFlags := 16, slot := 0, constantValue := 0 }, { name := "mag", type := (.array .int), accessFlags := 16, slot := 1, constantValue := 0 }, { name := "bitCountPlusOne", type := .int, accessFlags := 2, slot := 2, constantValue := 0 }, { name := "bitLengthPlusOne", type := .int, accessFlags := 2, slot := 3, constantValue := 0 }, { name := "lowestSetBitPlusTwo", type := .int, accessFlags := 2, slot := 4, constantValue := 0 }, { name := "firstNonzeroIntNumPlusTwo", type := .int, accessFlags := 2, slot := 5, constantValue := 0 }, { name := "LONG_MASK", type := .long, accessFlags := 24, slot := 0, constantValue := 0 }, { name := "MAX_MAG_LENGTH", type := .int, accessFlags := 26, slot := 1, constantValue := 0 }, { name := "PRIME_SEARCH_BIT_LENGTH_LIMIT", type := .int, accessFlags := 26, slot := 2, constantValue := 0 }, { name := "KARATSUBA_THRESHOLD", type := .int, accessFlags := 26, slot := 3, constantValue := 0 }, { name := "TOOM_COOK_THRESHOLD", type := .int, accessFlags := 26, slot := 4, constantValue := 0 }, { name := "KARATSUBA_SQUARE_THRESHOLD", type := .int, accessFlags := 26, slot := 5, constantValue := 0 }, { name := "TOOM_COOK_SQUARE_THRESHOLD", type := .int, accessFlags := 26, slot := 6, constantValue := 0 }, { name := "BURNIKEL_ZIEGLER_THRESHOLD", type := .int, accessFlags := 24, slot := 7, constantValue := 0 }, { name := "BURNIKEL_ZIEGLER_OFFSET", type := .int, accessFlags := 24, slot := 8, constantValue := 0 }, { name := "SCHOENHAGE_BASE_CONVERSION_THRESHOLD", type := .int, accessFlags := 26, slot := 9, constantValue := 0 }, { name := "MULTIPLY_SQUARE_THRESHOLD", type := .int, accessFlags := 26, slot := 10, constantValue := 0 }, { name := "MONTGOMERY_INTRINSIC_THRESHOLD", type := .int, accessFlags := 26, slot := 11, constantValue := 0 }, { name := "bitsPerDigit", type := (.array .long), accessFlags := 10, slot := 12, constantValue := 0 }, { name := "SMALL_PRIME_THRESHOLD", type := .int, accessFlags := 26, slot := 13, constantValue := 0 }, { name := "DEFAULT_PRIME_CERTAINTY", type := .int, accessFlags := 26, slot := 14, constantValue := 0 }, { name := "SMALL_PRIME_PRODUCT", type := (.object "java/math/BigInteger"), accessFlags := 26, slot := 15, constantValue := 0 }, { name := "MAX_CONSTANT", type := .int, accessFlags := 26, slot := 16, constantValue := 0 }, { name := "posConst", type := (.array (.object "java/math/BigInteger")), accessFlags := 26, slot := 17, constantValue := 0 }, { name := "negConst", type := (.array (.object "java/math/BigInteger")), accessFlags := 26, slot := 18, constantValue := 0 }, { name := "powerCache", type := (.array (.array (.object "java/math/BigInteger"))), accessFlags := 74, slot := 19, constantValue := 0 }, { name := "logCache", type := (.array .double), accessFlags := 26, slot := 20, constantValue := 0 }, { name := "LOG_TWO", type := .double, accessFlags := 26, slot := 21, constantValue := 0 }, { name := "ZERO", type := (.object "java/math/BigInteger"), accessFlags := 25, slot := 22, constantValue := 0 }, { name := "ONE", type := (.object "java/math/BigInteger"), accessFlags := 25, slot := 23, constantValue := 0 }, { name := "TWO", type := (.object "java/math/BigInteger"), accessFlags := 25, slot := 24, constantValue := 0 }, { name := "NEGATIVE_ONE", type := (.object "java/math/BigInteger"), accessFlags := 26, slot := 25, constantValue := 0 }, { name := "TEN", type := (.object "java/math/BigInteger"), accessFlags := 25, slot := 26, constantValue := 0 }, { name := "bnExpModThreshTable", type := (.array .int), accessFlags := 8, slot := 27, constantValue := 0 }, { name := "NUM_ZEROS", type := .int, accessFlags := 10, slot := 28, constantValue := 0 }, { name := "ZEROS", type := (.object "java/lang/String"), accessFlags := 26, slot := 29, constantValue := 0 }, { name := "digitsPerLong", type := (.array .int), accessFlags := 10, slot := 30, constantValue := 0 }, { name := "longRadix", type := (.array (.object "java/math/BigInteger")), accessFlags := 10, slot := 31, constantValue := 0 }, { name := "digitsPerInt", type := (.array .int), accessFlags := 10, slot := 32, constantValue := 0 }, { name := "intRadix", type := (.array .int), accessFlags := 10, slot := 33, constantValue := 0 }, { name := "serialVersionUID", type := .long, accessFlags := 26, slot := 34, constantValue := 0 }, { name := "serialPersistentFields", type := (.array (.object "java/io/ObjectStreamField")), accessFlags := 26, slot := 35, constantValue := 0 }, { name := "$assertionsDisabled", type := .boolean, accessFlags := 4120, slot := 36, constantValue := 0 }]
  methods := #[k9m0, k9m1, k9m2, k9m3, k9m4]
  instanceTypes := #[.int, (.array .int), .int, .int, .int, .int]
  staticTypes := #[.long, .int, .int, .int, .int, .int, .int, .int, .int, .int, .int, .int, (.array .long), .int, .int, (.object "java/math/BigInteger"), .int, (.array (.object "java/math/BigInteger")), (.array (.object "java/math/BigInteger")), (.array (.array (.object "java/math/BigInteger"))), (.array .double), .double, (.object "java/math/BigInteger"), (.object "java/math/BigInteger"), (.object "java/math/BigInteger"), (.object "java/math/BigInteger"), (.object "java/math/BigInteger"), (.array .int), .int, (.object "java/lang/String"), (.array .int), (.array (.object "java/math/BigInteger")), (.array .int), (.array .int), .long, (.array (.object "java/io/ObjectStreamField")), .boolean]
  resolved := Array.replicate 1542 none
  statics := some 1 }

def pool10 : Array CpInfo := pool [(1, u "java/lang/Cloneable"), (0, .class_ 1), (0, u "java/lang/Object"), (0, .class_ 3)] 3

/-- java/lang/Cloneable -/
def k10 : Class := { plain "java/lang/Cloneable" (some 0) with
  accessFlags := 1537
  interfaces := #[]
  cf := some (fileOf pool10 2 #[] #[] 1537 4 #[] #[])
  fields := #[]
  methods := #[]
  instanceTypes := #[]
  staticTypes := #[]
  resolved := Array.replicate 8 none
  statics := none }

/-- the primitive byte -/
def k11 : Class := { plain "byte" none with kind := .primitive 'B', accessFlags := 0x411 }
/-- [B -/
def k12 : Class := { plain "[B" (some 0) with kind := .array 11 .byte, interfaces := #[10, 7], accessFlags := 1041 }

/-- the primitive int -/
def k13 : Class := { plain "int" none with kind := .primitive 'I', accessFlags := 0x411 }
/-- [I -/
def k14 : Class := { plain "[I" (some 0) with kind := .array 13 .int, interfaces := #[10, 7], accessFlags := 1041 }

/-- the primitive long -/
def k15 : Class := { plain "long" none with kind := .primitive 'J', accessFlags := 0x411 }
/-- [J -/
def k16 : Class := { plain "[J" (some 0) with kind := .array 15 .long, interfaces := #[10, 7], accessFlags := 1041 }

def heap : Heap := #[{ cls := 4, slots := #[.ref 6, .null, .int 0, .null, .null, .null, .null, .int 0], vm := .statics 4 },
  { cls := 9, slots := #[.long 0, .int 0, .int 0, .int 0, .int 0, .int 0, .int 0, .int 0, .int 0, .int 0, .int 0, .int 0, .null, .int 0, .int 0, .null, .int 0, .null, .null, .null, .null, .double 0, .ref 4, .ref 5, .null, .null, .null, .null, .int 0, .null, .null, .null, .null, .null, .long 0, .null, .int 0], vm := .statics 9 },
  { cls := 14, slots := #[], vm := .none },
  { cls := 14, slots := #[.int 1], vm := .none },
  { cls := 9, slots := #[.int 0, .ref 2, .int 0, .int 0, .int 0, .int 0], vm := .none },
  { cls := 9, slots := #[.int 1, .ref 3, .int 0, .int 0, .int 0, .int 0], vm := .none },
  { cls := 4, slots := #[.ref 4, .ref 5], vm := .none }]
def classes : Array Class := #[k0, k1, k2, k3, k4, k5, k6, k7, k8, k9, k10, k11, k12, k13, k14, k15, k16]
def interned : List (Array UInt16 × Addr) := []
def slotsUsed : Nat := 60
def theMethod : MethodId := ⟨1, 1⟩
def args0 : Array Value := #[.int 9, .int 2, .int 4]
def aboutOver (below : List Frame) : State where
  vm := { classes := classes, interned := interned.toArray }
  heap := heap
  slotsUsed := slotsUsed
  threads := #[{ frames := .invoking theMethod args0 :: below }]
def below0 : List Frame := [.native { method := ⟨0, 0⟩, args := #[] }]
def about1 : State := aboutOver below0
def p0 : Program := .bare "" "" ""
def e0 : Env := launch0.env 0 0 0
theorem w_frames : about1.frames = Frame.invoking theMethod args0 :: below0 := rfl
set_option maxRecDepth 65536 in
theorem w_args : argsFit about1.vm theMethod args0 = true := by decide +kernel
set_option maxRecDepth 65536 in
theorem w_heap : heapFits about1 = true := by decide +kernel
set_option maxRecDepth 65536 in
theorem w_runnable : about1.curStatus? = some .runnable := by decide +kernel
set_option maxRecDepth 65536 in
theorem w_alone : about1.alone = true := by decide +kernel
set_option maxRecDepth 65536 in
theorem w_named : about1.methodNamed? x = some theMethod := by decide +kernel
set_option maxRecDepth 65536 in
theorem w_hears : about1.hears theMethod below0 = true := by decide +kernel
set_option maxRecDepth 65536 in
theorem w_ripe : about1.ripe theMethod args0 below0 = true := by decide +kernel
theorem w_running : about1.status = .running := rfl
set_option maxRecDepth 65536 in
theorem w_room : about1.hasRoom e0.platform room_1 = true :=
  launch0.hasRoom_least _ room_1 (by decide +kernel) (by decide +kernel) (by decide +kernel) (by decide +kernel) (by decide +kernel) (by decide +kernel)
theorem allAtoms_all (ts : List Jvm.Cond) (a : Array Jvm.Value) (st : Jvm.State) : (allAtoms ts).before a st = ts.all (fun c => c.before a st) := by
  induction ts with
  | nil => rfl
  | cons c t ih =>
    show (Jvm.Cond.and c (allAtoms t)).before a st = _
    rw [Jvm.Cond.before_and, ih, List.all_cons]
def words1 : List Jvm.Cond := Jvm.Cond.code x code maxLocals ret :: tables_1
/-- a 'code' word, met by the world's own term for the bytes: nothing is compared byte by byte -/
theorem code_word {y : MethodName} {bytes : ByteArray} {mx : Nat} {rt : Option FieldType} {a : Array Value} {s : State} {m : MethodId} {meth : Method} {c : Code} (h1 : s.methodNamed? y = some m) (h2 : s.vm.method? m = some meth) (h3 : meth.code = some c) (h4 : c.code = bytes)
    (h5 : (c.maxLocals == mx && c.exceptionTable.isEmpty && decide (c.maxStack ≤ mostOperands) && decide (meth.sig.returnType = rt) && !meth.locks && decide (parseMethodDescriptor y.desc = some meth.sig)) = true) : (Jvm.Cond.code y bytes mx rt).before a s = true := by
  simp only [Bool.and_eq_true, beq_iff_eq, Bool.not_eq_true', decide_eq_true_eq] at h5
  obtain ⟨⟨⟨⟨⟨g1, g2⟩, g3⟩, g4⟩, g5⟩, g6⟩ := h5
  simp [Cond.before, Cond.holds, Cond.value, h1, h2, h3, h4, g1, g2, g3, g4, g5, g6]
def isCode : Jvm.Cond → Bool
  | .code _ _ _ _ => true
  | _ => false
theorem all_split {L : List Jvm.Cond} {P : Jvm.Cond → Bool} (h1 : L.all (fun c => isCode c || P c) = true) (h2 : ∀ c ∈ L.filter isCode, P c = true) : L.all P = true := by
  refine List.all_eq_true.mpr fun c hc => ?_
  have h := List.all_eq_true.mp h1 c hc
  rcases Bool.eq_false_or_eq_true (isCode c) with hi | hi
  · exact h2 c (List.mem_filter.mpr ⟨hc, hi⟩)
  · simpa [hi] using h
set_option maxRecDepth 65536 in
theorem w_c0 : (Jvm.Cond.code x code maxLocals ret).before args0 about1 = true := code_word (m := ⟨1, 1⟩) (meth := k1m1) (c := k1c1) (by decide +kernel) rfl rfl rfl (by decide +kernel)
set_option maxRecDepth 65536 in
theorem w_c1 : (Jvm.Cond.code ({ cls := "com/example/hodos/hodos/analysis/Zone", name := "origin", desc := "(I)Lcom/example/hodos/hodos/analysis/Zone;" } : Jvm.MethodName) prog_20_method_4_code (1 : Nat) (Option.some (Jvm.ClassFile.FieldType.object "com/example/hodos/hodos/analysis/Zone"))).before args0 about1 = true := code_word (m := ⟨2, 1⟩) (meth := k2m1) (c := k2c1) (by decide +kernel) rfl rfl rfl (by decide +kernel)
set_option maxRecDepth 65536 in
theorem w_c2 : (Jvm.Cond.code ({ cls := "com/example/hodos/hodos/analysis/Zone", name := "<init>", desc := "(I[JJ[Lcom/example/hodos/hodos/model/Time;)V" } : Jvm.MethodName) prog_20_method_1_code (6 : Nat) (Option.none : Option Jvm.ClassFile.FieldType)).before args0 about1 = true := code_word (m := ⟨2, 0⟩) (meth := k2m0) (c := k2c0) (by decide +kernel) rfl rfl rfl (by decide +kernel)
set_option maxRecDepth 65536 in
theorem w_c3 : (Jvm.Cond.code ({ cls := "java/lang/Object", name := "<init>", desc := "()V" } : Jvm.MethodName) object_method_1_code (1 : Nat) (Option.none : Option Jvm.ClassFile.FieldType)).before args0 about1 = true := code_word (m := ⟨0, 0⟩) (meth := k0m0) (c := k0c0) (by decide +kernel) rfl rfl rfl (by decide +kernel)
set_option maxRecDepth 65536 in
theorem w_c4 : (Jvm.Cond.code ({ cls := "com/example/hodos/hodos/analysis/Zone", name := "components", desc := "()I" } : Jvm.MethodName) prog_20_method_5_code (1 : Nat) (Option.some Jvm.ClassFile.FieldType.int)).before args0 about1 = true := code_word (m := ⟨2, 2⟩) (meth := k2m2) (c := k2c2) (by decide +kernel) rfl rfl rfl (by decide +kernel)
set_option maxRecDepth 65536 in
theorem w_c5 : (Jvm.Cond.code ({ cls := "com/example/hodos/hodos/analysis/Zone", name := "upper", desc := "(I)Lcom/example/hodos/hodos/model/Time;" } : Jvm.MethodName) prog_20_method_6_code (2 : Nat) (Option.some (Jvm.ClassFile.FieldType.object "com/example/hodos/hodos/model/Time"))).before args0 about1 = true := code_word (m := ⟨2, 3⟩) (meth := k2m3) (c := k2c3) (by decide +kernel) rfl rfl rfl (by decide +kernel)
set_option maxRecDepth 65536 in
theorem w_c6 : (Jvm.Cond.code ({ cls := "com/example/hodos/hodos/analysis/Zone", name := "row", desc := "(I)I" } : Jvm.MethodName) prog_20_method_24_code (2 : Nat) (Option.some Jvm.ClassFile.FieldType.int)).before args0 about1 = true := code_word (m := ⟨2, 6⟩) (meth := k2m6) (c := k2c6) (by decide +kernel) rfl rfl rfl (by decide +kernel)
set_option maxRecDepth 65536 in
theorem w_c7 : (Jvm.Cond.code ({ cls := "java/util/Objects", name := "checkIndex", desc := "(II)I" } : Jvm.MethodName) jdk_31_method_17_code (2 : Nat) (Option.some Jvm.ClassFile.FieldType.int)).before args0 about1 = true := code_word (m := ⟨5, 1⟩) (meth := k5m1) (c := k5c1) (by decide +kernel) rfl rfl rfl (by decide +kernel)
set_option maxRecDepth 65536 in
theorem w_c8 : (Jvm.Cond.code ({ cls := "jdk/internal/util/Preconditions", name := "checkIndex", desc := "(IILjava/util/function/BiFunction;)I" } : Jvm.MethodName) jdk_41_method_11_code (3 : Nat) (Option.some Jvm.ClassFile.FieldType.int)).before args0 about1 = true := code_word (m := ⟨6, 1⟩) (meth := k6m1) (c := k6c1) (by decide +kernel) rfl rfl rfl (by decide +kernel)
set_option maxRecDepth 65536 in
theorem w_c9 : (Jvm.Cond.code ({ cls := "com/example/hodos/hodos/analysis/Zone", name := "bound", desc := "(II)Lcom/example/hodos/hodos/model/Time;" } : Jvm.MethodName) prog_20_method_25_code (3 : Nat) (Option.some (Jvm.ClassFile.FieldType.object "com/example/hodos/hodos/model/Time"))).before args0 about1 = true := code_word (m := ⟨2, 7⟩) (meth := k2m7) (c := k2c7) (by decide +kernel) rfl rfl rfl (by decide +kernel)
set_option maxRecDepth 65536 in
theorem w_c10 : (Jvm.Cond.code ({ cls := "com/example/hodos/hodos/analysis/Zone", name := "bound", desc := "(I)Lcom/example/hodos/hodos/model/Time;" } : Jvm.MethodName) prog_20_method_26_code (3 : Nat) (Option.some (Jvm.ClassFile.FieldType.object "com/example/hodos/hodos/model/Time"))).before args0 about1 = true := code_word (m := ⟨2, 8⟩) (meth := k2m8) (c := k2c8) (by decide +kernel) rfl rfl rfl (by decide +kernel)
set_option maxRecDepth 65536 in
theorem w_c11 : (Jvm.Cond.code ({ cls := "com/example/hodos/hodos/model/Time", name := "of", desc := "(JJ)Lcom/example/hodos/hodos/model/Time;" } : Jvm.MethodName) prog_69_method_3_code (4 : Nat) (Option.some (Jvm.ClassFile.FieldType.object "com/example/hodos/hodos/model/Time"))).before args0 about1 = true := code_word (m := ⟨4, 1⟩) (meth := k4m1) (c := k4c1) (by decide +kernel) rfl rfl rfl (by decide +kernel)
set_option maxRecDepth 65536 in
theorem w_c12 : (Jvm.Cond.code ({ cls := "java/math/BigInteger", name := "valueOf", desc := "(J)Ljava/math/BigInteger;" } : Jvm.MethodName) jdk_2097_method_29_code (2 : Nat) (Option.some (Jvm.ClassFile.FieldType.object "java/math/BigInteger"))).before args0 about1 = true := code_word (m := ⟨9, 1⟩) (meth := k9m1) (c := k9c1) (by decide +kernel) rfl rfl rfl (by decide +kernel)
set_option maxRecDepth 65536 in
theorem w_c13 : (Jvm.Cond.code ({ cls := "com/example/hodos/hodos/model/Time", name := "<init>", desc := "(Ljava/math/BigInteger;Ljava/math/BigInteger;)V" } : Jvm.MethodName) prog_69_method_1_code (3 : Nat) (Option.none : Option Jvm.ClassFile.FieldType)).before args0 about1 = true := code_word (m := ⟨4, 0⟩) (meth := k4m0) (c := k4c0) (by decide +kernel) rfl rfl rfl (by decide +kernel)
set_option maxRecDepth 65536 in
theorem w_c14 : (Jvm.Cond.code ({ cls := "com/example/hodos/hodos/model/Time", name := "equals", desc := "(Ljava/lang/Object;)Z" } : Jvm.MethodName) prog_69_method_14_code (3 : Nat) (Option.some Jvm.ClassFile.FieldType.boolean)).before args0 about1 = true := code_word (m := ⟨4, 5⟩) (meth := k4m5) (c := k4c5) (by decide +kernel) rfl rfl rfl (by decide +kernel)
set_option maxRecDepth 65536 in
theorem w_c15 : (Jvm.Cond.code ({ cls := "java/math/BigInteger", name := "equals", desc := "(Ljava/lang/Object;)Z" } : Jvm.MethodName) jdk_2097_method_124_code (7 : Nat) (Option.some Jvm.ClassFile.FieldType.boolean)).before args0 about1 = true := code_word (m := ⟨9, 4⟩) (meth := k9m4) (c := k9c4) (by decide +kernel) rfl rfl rfl (by decide +kernel)
set_option maxRecDepth 65536 in
theorem w_c16 : (Jvm.Cond.code ({ cls := "com/example/hodos/hodos/analysis/Zone", name := "lower", desc := "(I)Lcom/example/hodos/hodos/model/Time;" } : Jvm.MethodName) prog_20_method_7_code (2 : Nat) (Option.some (Jvm.ClassFile.FieldType.object "com/example/hodos/hodos/model/Time"))).before args0 about1 = true := code_word (m := ⟨2, 4⟩) (meth := k2m4) (c := k2c4) (by decide +kernel) rfl rfl rfl (by decide +kernel)
set_option maxRecDepth 65536 in
theorem w_c17 : (Jvm.Cond.code ({ cls := "com/example/hodos/hodos/model/Time", name := "minus", desc := "(Lcom/example/hodos/hodos/model/Time;)Lcom/example/hodos/hodos/model/Time;" } : Jvm.MethodName) prog_69_method_10_code (2 : Nat) (Option.some (Jvm.ClassFile.FieldType.object "com/example/hodos/hodos/model/Time"))).before args0 about1 = true := code_word (m := ⟨4, 4⟩) (meth := k4m4) (c := k4c4) (by decide +kernel) rfl rfl rfl (by decide +kernel)
set_option maxRecDepth 65536 in
theorem w_c18 : (Jvm.Cond.code ({ cls := "com/example/hodos/hodos/model/Time", name := "isInfinite", desc := "()Z" } : Jvm.MethodName) prog_69_method_8_code (1 : Nat) (Option.some Jvm.ClassFile.FieldType.boolean)).before args0 about1 = true := code_word (m := ⟨4, 2⟩) (meth := k4m2) (c := k4c2) (by decide +kernel) rfl rfl rfl (by decide +kernel)
set_option maxRecDepth 65536 in
theorem w_c19 : (Jvm.Cond.code ({ cls := "java/math/BigInteger", name := "signum", desc := "()I" } : Jvm.MethodName) jdk_2097_method_81_code (1 : Nat) (Option.some Jvm.ClassFile.FieldType.int)).before args0 about1 = true := code_word (m := ⟨9, 3⟩) (meth := k9m3) (c := k9c3) (by decide +kernel) rfl rfl rfl (by decide +kernel)
set_option maxRecDepth 65536 in
theorem w_c20 : (Jvm.Cond.code ({ cls := "java/math/BigInteger", name := "negate", desc := "()Ljava/math/BigInteger;" } : Jvm.MethodName) jdk_2097_method_80_code (1 : Nat) (Option.some (Jvm.ClassFile.FieldType.object "java/math/BigInteger"))).before args0 about1 = true := code_word (m := ⟨9, 2⟩) (meth := k9m2) (c := k9c2) (by decide +kernel) rfl rfl rfl (by decide +kernel)
set_option maxRecDepth 65536 in
theorem w_c21 : (Jvm.Cond.code ({ cls := "java/math/BigInteger", name := "<init>", desc := "([II)V" } : Jvm.MethodName) jdk_2097_method_25_code (3 : Nat) (Option.none : Option Jvm.ClassFile.FieldType)).before args0 about1 = true := code_word (m := ⟨9, 0⟩) (meth := k9m0) (c := k9c0) (by decide +kernel) rfl rfl rfl (by decide +kernel)
set_option maxRecDepth 65536 in
theorem w_c22 : (Jvm.Cond.code ({ cls := "java/lang/Number", name := "<init>", desc := "()V" } : Jvm.MethodName) jdk_18_method_1_code (1 : Nat) (Option.none : Option Jvm.ClassFile.FieldType)).before args0 about1 = true := code_word (m := ⟨8, 0⟩) (meth := k8m0) (c := k8c0) (by decide +kernel) rfl rfl rfl (by decide +kernel)
set_option maxRecDepth 65536 in
theorem w_c23 : (Jvm.Cond.code ({ cls := "com/example/hodos/hodos/model/Time", name := "plus", desc := "(Lcom/example/hodos/hodos/model/Time;)Lcom/example/hodos/hodos/model/Time;" } : Jvm.MethodName) prog_69_method_9_code (3 : Nat) (Option.some (Jvm.ClassFile.FieldType.object "com/example/hodos/hodos/model/Time"))).before args0 about1 = true := code_word (m := ⟨4, 3⟩) (meth := k4m3) (c := k4c3) (by decide +kernel) rfl rfl rfl (by decide +kernel)
set_option maxRecDepth 65536 in
theorem w_c24 : (Jvm.Cond.code ({ cls := "com/example/hodos/hodos/analysis/Zone", name := "upper", desc := "(II)Lcom/example/hodos/hodos/model/Time;" } : Jvm.MethodName) prog_20_method_8_code (3 : Nat) (Option.some (Jvm.ClassFile.FieldType.object "com/example/hodos/hodos/model/Time"))).before args0 about1 = true := code_word (m := ⟨2, 5⟩) (meth := k2m5) (c := k2c5) (by decide +kernel) rfl rfl rfl (by decide +kernel)
def codes1 : List Jvm.Cond := [Jvm.Cond.code x code maxLocals ret, Jvm.Cond.code ({ cls := "com/example/hodos/hodos/analysis/Zone", name := "origin", desc := "(I)Lcom/example/hodos/hodos/analysis/Zone;" } : Jvm.MethodName) prog_20_method_4_code (1 : Nat) (Option.some (Jvm.ClassFile.FieldType.object "com/example/hodos/hodos/analysis/Zone")), Jvm.Cond.code ({ cls := "com/example/hodos/hodos/analysis/Zone", name := "<init>", desc := "(I[JJ[Lcom/example/hodos/hodos/model/Time;)V" } : Jvm.MethodName) prog_20_method_1_code (6 : Nat) (Option.none : Option Jvm.ClassFile.FieldType), Jvm.Cond.code ({ cls := "java/lang/Object", name := "<init>", desc := "()V" } : Jvm.MethodName) object_method_1_code (1 : Nat) (Option.none : Option Jvm.ClassFile.FieldType), Jvm.Cond.code ({ cls := "com/example/hodos/hodos/analysis/Zone", name := "components", desc := "()I" } : Jvm.MethodName) prog_20_method_5_code (1 : Nat) (Option.some Jvm.ClassFile.FieldType.int), Jvm.Cond.code ({ cls := "com/example/hodos/hodos/analysis/Zone", name := "upper", desc := "(I)Lcom/example/hodos/hodos/model/Time;" } : Jvm.MethodName) prog_20_method_6_code (2 : Nat) (Option.some (Jvm.ClassFile.FieldType.object "com/example/hodos/hodos/model/Time")), Jvm.Cond.code ({ cls := "com/example/hodos/hodos/analysis/Zone", name := "row", desc := "(I)I" } : Jvm.MethodName) prog_20_method_24_code (2 : Nat) (Option.some Jvm.ClassFile.FieldType.int), Jvm.Cond.code ({ cls := "java/util/Objects", name := "checkIndex", desc := "(II)I" } : Jvm.MethodName) jdk_31_method_17_code (2 : Nat) (Option.some Jvm.ClassFile.FieldType.int), Jvm.Cond.code ({ cls := "jdk/internal/util/Preconditions", name := "checkIndex", desc := "(IILjava/util/function/BiFunction;)I" } : Jvm.MethodName) jdk_41_method_11_code (3 : Nat) (Option.some Jvm.ClassFile.FieldType.int), Jvm.Cond.code ({ cls := "com/example/hodos/hodos/analysis/Zone", name := "bound", desc := "(II)Lcom/example/hodos/hodos/model/Time;" } : Jvm.MethodName) prog_20_method_25_code (3 : Nat) (Option.some (Jvm.ClassFile.FieldType.object "com/example/hodos/hodos/model/Time")), Jvm.Cond.code ({ cls := "com/example/hodos/hodos/analysis/Zone", name := "bound", desc := "(I)Lcom/example/hodos/hodos/model/Time;" } : Jvm.MethodName) prog_20_method_26_code (3 : Nat) (Option.some (Jvm.ClassFile.FieldType.object "com/example/hodos/hodos/model/Time")), Jvm.Cond.code ({ cls := "com/example/hodos/hodos/model/Time", name := "of", desc := "(JJ)Lcom/example/hodos/hodos/model/Time;" } : Jvm.MethodName) prog_69_method_3_code (4 : Nat) (Option.some (Jvm.ClassFile.FieldType.object "com/example/hodos/hodos/model/Time")), Jvm.Cond.code ({ cls := "java/math/BigInteger", name := "valueOf", desc := "(J)Ljava/math/BigInteger;" } : Jvm.MethodName) jdk_2097_method_29_code (2 : Nat) (Option.some (Jvm.ClassFile.FieldType.object "java/math/BigInteger")), Jvm.Cond.code ({ cls := "com/example/hodos/hodos/model/Time", name := "<init>", desc := "(Ljava/math/BigInteger;Ljava/math/BigInteger;)V" } : Jvm.MethodName) prog_69_method_1_code (3 : Nat) (Option.none : Option Jvm.ClassFile.FieldType), Jvm.Cond.code ({ cls := "com/example/hodos/hodos/model/Time", name := "equals", desc := "(Ljava/lang/Object;)Z" } : Jvm.MethodName) prog_69_method_14_code (3 : Nat) (Option.some Jvm.ClassFile.FieldType.boolean), Jvm.Cond.code ({ cls := "java/math/BigInteger", name := "equals", desc := "(Ljava/lang/Object;)Z" } : Jvm.MethodName) jdk_2097_method_124_code (7 : Nat) (Option.some Jvm.ClassFile.FieldType.boolean), Jvm.Cond.code ({ cls := "com/example/hodos/hodos/analysis/Zone", name := "lower", desc := "(I)Lcom/example/hodos/hodos/model/Time;" } : Jvm.MethodName) prog_20_method_7_code (2 : Nat) (Option.some (Jvm.ClassFile.FieldType.object "com/example/hodos/hodos/model/Time")), Jvm.Cond.code ({ cls := "com/example/hodos/hodos/model/Time", name := "minus", desc := "(Lcom/example/hodos/hodos/model/Time;)Lcom/example/hodos/hodos/model/Time;" } : Jvm.MethodName) prog_69_method_10_code (2 : Nat) (Option.some (Jvm.ClassFile.FieldType.object "com/example/hodos/hodos/model/Time")), Jvm.Cond.code ({ cls := "com/example/hodos/hodos/model/Time", name := "isInfinite", desc := "()Z" } : Jvm.MethodName) prog_69_method_8_code (1 : Nat) (Option.some Jvm.ClassFile.FieldType.boolean), Jvm.Cond.code ({ cls := "java/math/BigInteger", name := "signum", desc := "()I" } : Jvm.MethodName) jdk_2097_method_81_code (1 : Nat) (Option.some Jvm.ClassFile.FieldType.int), Jvm.Cond.code ({ cls := "java/math/BigInteger", name := "negate", desc := "()Ljava/math/BigInteger;" } : Jvm.MethodName) jdk_2097_method_80_code (1 : Nat) (Option.some (Jvm.ClassFile.FieldType.object "java/math/BigInteger")), Jvm.Cond.code ({ cls := "java/math/BigInteger", name := "<init>", desc := "([II)V" } : Jvm.MethodName) jdk_2097_method_25_code (3 : Nat) (Option.none : Option Jvm.ClassFile.FieldType), Jvm.Cond.code ({ cls := "java/lang/Number", name := "<init>", desc := "()V" } : Jvm.MethodName) jdk_18_method_1_code (1 : Nat) (Option.none : Option Jvm.ClassFile.FieldType), Jvm.Cond.code ({ cls := "com/example/hodos/hodos/model/Time", name := "plus", desc := "(Lcom/example/hodos/hodos/model/Time;)Lcom/example/hodos/hodos/model/Time;" } : Jvm.MethodName) prog_69_method_9_code (3 : Nat) (Option.some (Jvm.ClassFile.FieldType.object "com/example/hodos/hodos/model/Time")), Jvm.Cond.code ({ cls := "com/example/hodos/hodos/analysis/Zone", name := "upper", desc := "(II)Lcom/example/hodos/hodos/model/Time;" } : Jvm.MethodName) prog_20_method_8_code (3 : Nat) (Option.some (Jvm.ClassFile.FieldType.object "com/example/hodos/hodos/model/Time"))]
set_option maxRecDepth 65536 in
theorem codes_eq : words1.filter isCode = codes1 := rfl
theorem w_codes : ∀ c ∈ words1.filter isCode, c.before args0 about1 = true := by
  rw [codes_eq]
  intro c hc
  simp only [codes1, List.mem_cons, List.not_mem_nil, or_false] at hc
  rcases hc with rfl | rfl | rfl | rfl | rfl | rfl | rfl | rfl | rfl | rfl | rfl | rfl | rfl | rfl | rfl | rfl | rfl | rfl | rfl | rfl | rfl | rfl | rfl | rfl | rfl
  · exact w_c0
  · exact w_c1
  · exact w_c2
  · exact w_c3
  · exact w_c4
  · exact w_c5
  · exact w_c6
  · exact w_c7
  · exact w_c8
  · exact w_c9
  · exact w_c10
  · exact w_c11
  · exact w_c12
  · exact w_c13
  · exact w_c14
  · exact w_c15
  · exact w_c16
  · exact w_c17
  · exact w_c18
  · exact w_c19
  · exact w_c20
  · exact w_c21
  · exact w_c22
  · exact w_c23
  · exact w_c24
set_option maxRecDepth 65536 in
theorem w_t1 : (words1.take 24).all (fun c => isCode c || c.before args0 about1) = true := by decide +kernel
set_option maxRecDepth 65536 in
theorem w_t2 : ((words1.drop 24).take 24).all (fun c => isCode c || c.before args0 about1) = true := by decide +kernel
set_option maxRecDepth 65536 in
theorem w_t3 : (((words1.drop 24).drop 24).take 24).all (fun c => isCode c || c.before args0 about1) = true := by decide +kernel
set_option maxRecDepth 65536 in
theorem w_t4 : ((((words1.drop 24).drop 24).drop 24).take 24).all (fun c => isCode c || c.before args0 about1) = true := by decide +kernel
set_option maxRecDepth 65536 in
theorem w_t5 : (((((words1.drop 24).drop 24).drop 24).drop 24).take 24).all (fun c => isCode c || c.before args0 about1) = true := by decide +kernel
set_option maxRecDepth 65536 in
theorem w_t6 : (((((words1.drop 24).drop 24).drop 24).drop 24).drop 24).all (fun c => isCode c || c.before args0 about1) = true := by decide +kernel
theorem w_tables : (allAtoms (Jvm.Cond.code x code maxLocals ret :: tables_1)).before args0 about1 = true := by
  rw [allAtoms_all]
  show words1.all (fun c => c.before args0 about1) = true
  refine all_split ?_ w_codes
  rw [← List.take_append_drop 24 words1, List.all_append, w_t1, ← List.take_append_drop 24 (words1.drop 24), List.all_append, w_t2, ← List.take_append_drop 24 ((words1.drop 24).drop 24), List.all_append, w_t3, ← List.take_append_drop 24 (((words1.drop 24).drop 24).drop 24), List.all_append, w_t4, ← List.take_append_drop 24 ((((words1.drop 24).drop 24).drop 24).drop 24), List.all_append, w_t5, w_t6]
  rfl
set_option maxRecDepth 65536 in
theorem w_rest : rest_1_c.before args0 about1 = true := by decide +kernel
set_option maxRecDepth 65536 in
theorem w_case : (Jvm.Cond.and given_1 narrow_1).before args0 about1 = true := by decide +kernel
theorem w_applies : (headSpec (Jvm.Cond.code x code maxLocals ret :: tables_1) room_1).applies x e0.platform about1 = true :=
  (Spec.applies_iff w_frames).mpr ⟨w_running, w_runnable, w_alone, w_named, w_hears, w_ripe, w_room, w_tables⟩
theorem atStart : AtStart classFile x code maxLocals ret World_1 tables_1 room_1 Calls_1 rest_1 Pre_1 launch0 p0 e0 about1 theMethod args0 below0 :=
  ⟨lists_1, trivial, launch0.admits_env _ _ _, launch0.least_env, fairChoices_fair.cas, fairChoices_fair.clock, w_frames, w_args, w_heap, w_applies, trivial, w_rest, w_case⟩
end start1
theorem witness_1 : WitnessClaimed_1 := ⟨start1.p0, start1.e0, start1.about1, start1.theMethod, start1.args0, start1.below0, start1.atStart⟩
end Jvm.Pilot.@@N@@
