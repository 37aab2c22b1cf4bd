import JvmDerived
import JvmDerived.Pilot.@@N@@Statement
import JvmDerived.Pilot.@@N@@Code
set_option linter.unusedVariables false
set_option linter.unusedSimpArgs false
namespace Jvm.RoadKit
open Sem ClassFile Op Lib Jvm.Stand Jvm.Free Jvm.LawKit
section New
variable {p : Program} {l : Launch} {e : Env} {R : Room} {s : State} {m : MethodId} {args : Array Value} {below : List Frame} {meth : Method} {c : Code} {T : State} {locs : List Loc} {cells slots : Nat}
theorem retI (X : Stand p l e R s m args below meth c T locs cells slots) (hx : p.tables.exec = Jvm.exec) {pc : Nat} {Ls : Array Slot} {z : Int32} {rest : List Value} (hret : meth.sig.returnType = some .int) (hd : decode c.code pc = .ok (.ireturn, 1)) {fs : List Frame}
    (hl : ∀ (f : JFrame) (acts : List Action), f.method = m → f.locked = none → f.entered = [] → (doReturn e (T.setTop f) acts (some (.int z))).1 = T.setFrames fs) : Steps p.tables e below (T.setTop (mkF m pc Ls (.int z :: rest))) (T.setFrames fs) := by
  have hm' : T.vm.method? m = some meth := X.method'
  have hn : narrow .int (.int z) = .int z := rfl
  show Steps p.tables e below (T.setTop { method := m, pc := pc, locals := Ls, stack := _ :: rest, locked := none }) _
  jvm_step X.here [X.here.top, hx, hd, hm', hret, hn]
  first | (intro acts; rw [hl _ acts rfl rfl rfl]) | rw [hl _ _ rfl rfl rfl]
  exact Steps.refl _
end New
end Jvm.RoadKit
namespace Jvm.Pilot.@@N@@
open Jvm Jvm.ClassFile Sem Op Lib Jvm.Free Jvm.Stand Jvm.LawKit Jvm.RoadKit Bundle Jvm.Pilot.@@N@@.Jvm.D
def own_Q (r : Option Value) (h0 : Heap) (n0 : Nat) (v : Option Value) (h : Heap) (L : List Loc) : Prop := v = r ∧ Fr n0 L ∧ h = h0
theorem own_eqI {args : Array Value} {Z : State} {t : Term} {k : Int32} (h : (Cond.eq t (Term.int k)).value args Z none Z [] = some true) : t.eval args Z none [] Z = some (.int k) := by
  simp only [Cond.value, Term.eval] at h
  cases ht : t.eval args Z none [] Z with
  | none => simp [ht] at h
  | some v => cases v <;> simp [ht] at h ⊢ <;> exact h
theorem own_eqR {args : Array Value} {Z : State} {t u : Term} {y : Addr} (h : (Cond.eq t u).value args Z none Z [] = some true) (hu : u.eval args Z none [] Z = some (.ref y)) : t.eval args Z none [] Z = some (.ref y) := by
  simp only [Cond.value, hu] at h
  cases ht : t.eval args Z none [] Z with
  | none => simp [ht] at h
  | some v => cases v <;> simp [ht] at h ⊢ <;> exact h
def own_Ctx (Z : State) (h : Heap) (s_PREPARED s_IN_DOUBT s_Outcome_COMMITTED s_HEURISTICALLY_ABORTED s_HEURISTICALLY_COMMITTED s_Joined_State_COMMITTED s_HEURISTIC_ABORT s_HEURISTIC_COMMIT s_COMMITTED_AGAINST_HEURISTIC s_HEURISTIC_MISMATCH s_COMMITTED_IN_ONE_PHASE s_TxnStatus_COMMITTED s_ABORTED_AGAINST_HEURISTIC s_Outcome_ABORTED s_PRE_ABORTED s_PRE_COMMITTED s_Joined_State_ABORTED s_TxnStatus_ABORTED : Addr) : Prop := (Sta Z h "com/example/unanimity/unanimity/core/Joined$State" "PREPARED" "Lcom/example/unanimity/unanimity/core/Joined$State;" (.ref s_PREPARED)) ∧ (Exa Z h s_PREPARED "com/example/unanimity/unanimity/core/Joined$State") ∧ (Fld Z h s_PREPARED "java/lang/Enum" "ordinal" "I" (.int (0 : Int32))) ∧ (Sta Z h "com/example/unanimity/unanimity/core/TxnStatus" "IN_DOUBT" "Lcom/example/unanimity/unanimity/core/TxnStatus;" (.ref s_IN_DOUBT)) ∧ (Exa Z h s_IN_DOUBT "com/example/unanimity/unanimity/core/TxnStatus") ∧ (Fld Z h s_IN_DOUBT "java/lang/Enum" "ordinal" "I" (.int (2 : Int32))) ∧ (Sta Z h "com/example/unanimity/unanimity/core/Outcome" "COMMITTED" "Lcom/example/unanimity/unanimity/core/Outcome;" (.ref s_Outcome_COMMITTED)) ∧ (Exa Z h s_Outcome_COMMITTED "com/example/unanimity/unanimity/core/Outcome") ∧ (Fld Z h s_Outcome_COMMITTED "java/lang/Enum" "ordinal" "I" (.int (0 : Int32))) ∧ (Sta Z h "com/example/unanimity/unanimity/core/Joined$State" "HEURISTICALLY_ABORTED" "Lcom/example/unanimity/unanimity/core/Joined$State;" (.ref s_HEURISTICALLY_ABORTED)) ∧ (Exa Z h s_HEURISTICALLY_ABORTED "com/example/unanimity/unanimity/core/Joined$State") ∧ (Fld Z h s_HEURISTICALLY_ABORTED "java/lang/Enum" "ordinal" "I" (.int (4 : Int32))) ∧ (Sta Z h "com/example/unanimity/unanimity/core/Joined$State" "HEURISTICALLY_COMMITTED" "Lcom/example/unanimity/unanimity/core/Joined$State;" (.ref s_HEURISTICALLY_COMMITTED)) ∧ (Exa Z h s_HEURISTICALLY_COMMITTED "com/example/unanimity/unanimity/core/Joined$State") ∧ (Fld Z h s_HEURISTICALLY_COMMITTED "java/lang/Enum" "ordinal" "I" (.int (3 : Int32))) ∧ (Sta Z h "com/example/unanimity/unanimity/core/Joined$State" "COMMITTED" "Lcom/example/unanimity/unanimity/core/Joined$State;" (.ref s_Joined_State_COMMITTED)) ∧ (Exa Z h s_Joined_State_COMMITTED "com/example/unanimity/unanimity/core/Joined$State") ∧ (Sta Z h "com/example/unanimity/unanimity/core/TxnStatus" "HEURISTIC_ABORT" "Lcom/example/unanimity/unanimity/core/TxnStatus;" (.ref s_HEURISTIC_ABORT)) ∧ (Exa Z h s_HEURISTIC_ABORT "com/example/unanimity/unanimity/core/TxnStatus") ∧ (Fld Z h s_HEURISTIC_ABORT "java/lang/Enum" "ordinal" "I" (.int (4 : Int32))) ∧ (Sta Z h "com/example/unanimity/unanimity/core/TxnStatus" "HEURISTIC_COMMIT" "Lcom/example/unanimity/unanimity/core/TxnStatus;" (.ref s_HEURISTIC_COMMIT)) ∧ (Exa Z h s_HEURISTIC_COMMIT "com/example/unanimity/unanimity/core/TxnStatus") ∧ (Fld Z h s_HEURISTIC_COMMIT "java/lang/Enum" "ordinal" "I" (.int (3 : Int32))) ∧ (Sta Z h "com/example/unanimity/unanimity/core/Joined$State" "COMMITTED_AGAINST_HEURISTIC" "Lcom/example/unanimity/unanimity/core/Joined$State;" (.ref s_COMMITTED_AGAINST_HEURISTIC)) ∧ (Exa Z h s_COMMITTED_AGAINST_HEURISTIC "com/example/unanimity/unanimity/core/Joined$State") ∧ (Sta Z h "com/example/unanimity/unanimity/core/TxnStatus" "HEURISTIC_MISMATCH" "Lcom/example/unanimity/unanimity/core/TxnStatus;" (.ref s_HEURISTIC_MISMATCH)) ∧ (Exa Z h s_HEURISTIC_MISMATCH "com/example/unanimity/unanimity/core/TxnStatus") ∧ (Fld Z h s_HEURISTIC_MISMATCH "java/lang/Enum" "ordinal" "I" (.int (5 : Int32))) ∧ (Sta Z h "com/example/unanimity/unanimity/core/Joined$State" "COMMITTED_IN_ONE_PHASE" "Lcom/example/unanimity/unanimity/core/Joined$State;" (.ref s_COMMITTED_IN_ONE_PHASE)) ∧ (Exa Z h s_COMMITTED_IN_ONE_PHASE "com/example/unanimity/unanimity/core/Joined$State") ∧ (Sta Z h "com/example/unanimity/unanimity/core/TxnStatus" "COMMITTED" "Lcom/example/unanimity/unanimity/core/TxnStatus;" (.ref s_TxnStatus_COMMITTED)) ∧ (Exa Z h s_TxnStatus_COMMITTED "com/example/unanimity/unanimity/core/TxnStatus") ∧ (Fld Z h s_TxnStatus_COMMITTED "java/lang/Enum" "ordinal" "I" (.int (0 : Int32))) ∧ (Sta Z h "com/example/unanimity/unanimity/core/Joined$State" "ABORTED_AGAINST_HEURISTIC" "Lcom/example/unanimity/unanimity/core/Joined$State;" (.ref s_ABORTED_AGAINST_HEURISTIC)) ∧ (Exa Z h s_ABORTED_AGAINST_HEURISTIC "com/example/unanimity/unanimity/core/Joined$State") ∧ (Sta Z h "com/example/unanimity/unanimity/core/Outcome" "ABORTED" "Lcom/example/unanimity/unanimity/core/Outcome;" (.ref s_Outcome_ABORTED)) ∧ (Exa Z h s_Outcome_ABORTED "com/example/unanimity/unanimity/core/Outcome") ∧ (Fld Z h s_Outcome_ABORTED "java/lang/Enum" "ordinal" "I" (.int (1 : Int32))) ∧ (Sta Z h "com/example/unanimity/unanimity/core/Joined$State" "PRE_ABORTED" "Lcom/example/unanimity/unanimity/core/Joined$State;" (.ref s_PRE_ABORTED)) ∧ (Exa Z h s_PRE_ABORTED "com/example/unanimity/unanimity/core/Joined$State") ∧ (Fld Z h s_PRE_ABORTED "java/lang/Enum" "ordinal" "I" (.int (2 : Int32))) ∧ (Sta Z h "com/example/unanimity/unanimity/core/Joined$State" "PRE_COMMITTED" "Lcom/example/unanimity/unanimity/core/Joined$State;" (.ref s_PRE_COMMITTED)) ∧ (Exa Z h s_PRE_COMMITTED "com/example/unanimity/unanimity/core/Joined$State") ∧ (Fld Z h s_PRE_COMMITTED "java/lang/Enum" "ordinal" "I" (.int (1 : Int32))) ∧ (Sta Z h "com/example/unanimity/unanimity/core/Joined$State" "ABORTED" "Lcom/example/unanimity/unanimity/core/Joined$State;" (.ref s_Joined_State_ABORTED)) ∧ (Exa Z h s_Joined_State_ABORTED "com/example/unanimity/unanimity/core/Joined$State") ∧ (Sta Z h "com/example/unanimity/unanimity/core/TxnStatus" "ABORTED" "Lcom/example/unanimity/unanimity/core/TxnStatus;" (.ref s_TxnStatus_ABORTED)) ∧ (Exa Z h s_TxnStatus_ABORTED "com/example/unanimity/unanimity/core/TxnStatus") ∧ (Fld Z h s_TxnStatus_ABORTED "java/lang/Enum" "ordinal" "I" (.int (1 : Int32))) ∧ (Fld Z h s_PREPARED "com/example/unanimity/unanimity/core/Joined$State" "decision" "Lcom/example/unanimity/unanimity/core/Outcome;" .null) ∧ (Fld Z h s_PREPARED "com/example/unanimity/unanimity/core/Joined$State" "status" "Lcom/example/unanimity/unanimity/core/TxnStatus;" (.ref s_IN_DOUBT)) ∧ (Fld Z h s_Joined_State_COMMITTED "com/example/unanimity/unanimity/core/Joined$State" "decision" "Lcom/example/unanimity/unanimity/core/Outcome;" (.ref s_Outcome_COMMITTED)) ∧ (Fld Z h s_HEURISTICALLY_ABORTED "com/example/unanimity/unanimity/core/Joined$State" "decision" "Lcom/example/unanimity/unanimity/core/Outcome;" .null) ∧ (Fld Z h s_HEURISTICALLY_ABORTED "com/example/unanimity/unanimity/core/Joined$State" "status" "Lcom/example/unanimity/unanimity/core/TxnStatus;" (.ref s_HEURISTIC_ABORT)) ∧ (Fld Z h s_COMMITTED_AGAINST_HEURISTIC "com/example/unanimity/unanimity/core/Joined$State" "decision" "Lcom/example/unanimity/unanimity/core/Outcome;" (.ref s_Outcome_COMMITTED)) ∧ (Fld Z h s_COMMITTED_AGAINST_HEURISTIC "com/example/unanimity/unanimity/core/Joined$State" "status" "Lcom/example/unanimity/unanimity/core/TxnStatus;" (.ref s_HEURISTIC_MISMATCH)) ∧ (Fld Z h s_COMMITTED_IN_ONE_PHASE "com/example/unanimity/unanimity/core/Joined$State" "decision" "Lcom/example/unanimity/unanimity/core/Outcome;" (.ref s_Outcome_COMMITTED)) ∧ (Fld Z h s_COMMITTED_IN_ONE_PHASE "com/example/unanimity/unanimity/core/Joined$State" "status" "Lcom/example/unanimity/unanimity/core/TxnStatus;" (.ref s_TxnStatus_COMMITTED)) ∧ (Fld Z h s_ABORTED_AGAINST_HEURISTIC "com/example/unanimity/unanimity/core/Joined$State" "decision" "Lcom/example/unanimity/unanimity/core/Outcome;" (.ref s_Outcome_ABORTED)) ∧ (Fld Z h s_ABORTED_AGAINST_HEURISTIC "com/example/unanimity/unanimity/core/Joined$State" "status" "Lcom/example/unanimity/unanimity/core/TxnStatus;" (.ref s_HEURISTIC_MISMATCH)) ∧ (Fld Z h s_PRE_ABORTED "com/example/unanimity/unanimity/core/Joined$State" "decision" "Lcom/example/unanimity/unanimity/core/Outcome;" .null) ∧ (Fld Z h s_PRE_ABORTED "com/example/unanimity/unanimity/core/Joined$State" "status" "Lcom/example/unanimity/unanimity/core/TxnStatus;" (.ref s_IN_DOUBT)) ∧ (Fld Z h s_HEURISTICALLY_COMMITTED "com/example/unanimity/unanimity/core/Joined$State" "decision" "Lcom/example/unanimity/unanimity/core/Outcome;" .null) ∧ (Fld Z h s_HEURISTICALLY_COMMITTED "com/example/unanimity/unanimity/core/Joined$State" "status" "Lcom/example/unanimity/unanimity/core/TxnStatus;" (.ref s_HEURISTIC_COMMIT)) ∧ (Fld Z h s_PRE_COMMITTED "com/example/unanimity/unanimity/core/Joined$State" "decision" "Lcom/example/unanimity/unanimity/core/Outcome;" .null) ∧ (Fld Z h s_PRE_COMMITTED "com/example/unanimity/unanimity/core/Joined$State" "status" "Lcom/example/unanimity/unanimity/core/TxnStatus;" (.ref s_IN_DOUBT)) ∧ (Fld Z h s_Joined_State_ABORTED "com/example/unanimity/unanimity/core/Joined$State" "decision" "Lcom/example/unanimity/unanimity/core/Outcome;" (.ref s_Outcome_ABORTED)) ∧ (Fld Z h s_Joined_State_COMMITTED "com/example/unanimity/unanimity/core/Joined$State" "status" "Lcom/example/unanimity/unanimity/core/TxnStatus;" (.ref s_TxnStatus_COMMITTED)) ∧ (Fld Z h s_Joined_State_ABORTED "com/example/unanimity/unanimity/core/Joined$State" "status" "Lcom/example/unanimity/unanimity/core/TxnStatus;" (.ref s_TxnStatus_ABORTED))
theorem own_mod (p : Int32) : (p &&& (2147483647 : Int32)) % (10 : Int32) = (0 : Int32) ∨ (p &&& (2147483647 : Int32)) % (10 : Int32) = (1 : Int32) ∨ (p &&& (2147483647 : Int32)) % (10 : Int32) = (2 : Int32) ∨ (p &&& (2147483647 : Int32)) % (10 : Int32) = (3 : Int32) ∨ (p &&& (2147483647 : Int32)) % (10 : Int32) = (4 : Int32) ∨ (p &&& (2147483647 : Int32)) % (10 : Int32) = (5 : Int32) ∨ (p &&& (2147483647 : Int32)) % (10 : Int32) = (6 : Int32) ∨ (p &&& (2147483647 : Int32)) % (10 : Int32) = (7 : Int32) ∨ (p &&& (2147483647 : Int32)) % (10 : Int32) = (8 : Int32) ∨ (p &&& (2147483647 : Int32)) % (10 : Int32) = (9 : Int32) := by
  have h1 := c_and p (2147483647 : Int32) (by decide)
  have h2 := (c_irem (p &&& (2147483647 : Int32)) (10 : Int32) 10 rfl).1 h1.1
  have h3 : ((p &&& (2147483647 : Int32)) % (10 : Int32)).toInt = 0 ∨ ((p &&& (2147483647 : Int32)) % (10 : Int32)).toInt = 1 ∨ ((p &&& (2147483647 : Int32)) % (10 : Int32)).toInt = 2 ∨ ((p &&& (2147483647 : Int32)) % (10 : Int32)).toInt = 3 ∨ ((p &&& (2147483647 : Int32)) % (10 : Int32)).toInt = 4 ∨ ((p &&& (2147483647 : Int32)) % (10 : Int32)).toInt = 5 ∨ ((p &&& (2147483647 : Int32)) % (10 : Int32)).toInt = 6 ∨ ((p &&& (2147483647 : Int32)) % (10 : Int32)).toInt = 7 ∨ ((p &&& (2147483647 : Int32)) % (10 : Int32)).toInt = 8 ∨ ((p &&& (2147483647 : Int32)) % (10 : Int32)).toInt = 9 := by omega
  rcases h3 with h | h | h | h | h | h | h | h | h | h
  · exact Or.inl (Int32.toInt_inj.mp (h.trans rfl))
  · exact Or.inr (Or.inl (Int32.toInt_inj.mp (h.trans rfl)))
  · exact Or.inr (Or.inr (Or.inl (Int32.toInt_inj.mp (h.trans rfl))))
  · exact Or.inr (Or.inr (Or.inr (Or.inl (Int32.toInt_inj.mp (h.trans rfl)))))
  · exact Or.inr (Or.inr (Or.inr (Or.inr (Or.inl (Int32.toInt_inj.mp (h.trans rfl))))))
  · exact Or.inr (Or.inr (Or.inr (Or.inr (Or.inr (Or.inl (Int32.toInt_inj.mp (h.trans rfl)))))))
  · exact Or.inr (Or.inr (Or.inr (Or.inr (Or.inr (Or.inr (Or.inl (Int32.toInt_inj.mp (h.trans rfl))))))))
  · exact Or.inr (Or.inr (Or.inr (Or.inr (Or.inr (Or.inr (Or.inr (Or.inl (Int32.toInt_inj.mp (h.trans rfl)))))))))
  · exact Or.inr (Or.inr (Or.inr (Or.inr (Or.inr (Or.inr (Or.inr (Or.inr (Or.inl (Int32.toInt_inj.mp (h.trans rfl))))))))))
  · exact Or.inr (Or.inr (Or.inr (Or.inr (Or.inr (Or.inr (Or.inr (Or.inr (Or.inr ((Int32.toInt_inj.mp (h.trans rfl)))))))))))
theorem own_bit (p : Int32) : p &&& (1 : Int32) = (0 : Int32) ∨ p &&& (1 : Int32) = (1 : Int32) := by
  have h1 := c_and p (1 : Int32) (by decide)
  have h2 : ((1 : Int32)).toInt = 1 := rfl
  have h3 : (p &&& (1 : Int32)).toInt = 0 ∨ (p &&& (1 : Int32)).toInt = 1 := by omega
  rcases h3 with h | h
  · exact Or.inl (Int32.toInt_inj.mp (h.trans rfl))
  · exact Or.inr ((Int32.toInt_inj.mp (h.trans rfl)))
theorem d2_0 : decode prog_7_method_5_code 0 = .ok (.aload_n 0, 1) := by decide +kernel
theorem d2_1 : decode prog_7_method_5_code 1 = .ok (.getfield 61, 3) := by decide +kernel
theorem d2_4 : decode prog_7_method_5_code 4 = .ok (.ifnonnull 7, 3) := by decide +kernel
theorem d2_7 : decode prog_7_method_5_code 7 = .ok (.iconst 1, 1) := by decide +kernel
theorem d2_8 : decode prog_7_method_5_code 8 = .ok (.goto 4, 3) := by decide +kernel
theorem d2_12 : decode prog_7_method_5_code 12 = .ok (.ireturn, 1) := by decide +kernel
theorem ef_2_0 (m : MethodId) (x0 : Addr) : entryFrame m #[(.ref x0)] 1 = mkF m 0 #[.val (.ref x0)] [] := by first | (simp [entryFrame, mkF, argsToLocals, Value.category]; done) | rfl
theorem pn_0 : plainName "com/example/unanimity/unanimity/core/Joined$State" = true := by first | (simp [plainName, overriddenIn]; done) | decide +kernel
set_option maxRecDepth 65536 in
set_option maxHeartbeats 40000000 in
theorem r_aw_0 (l : Launch) (Z : State) (a0 : Array Value) (hw : ∀ d ∈ tables_1, d.before a0 Z = true) (ws : List Jvm.Cond) (s_PREPARED s_IN_DOUBT s_Outcome_COMMITTED s_HEURISTICALLY_ABORTED s_HEURISTICALLY_COMMITTED s_Joined_State_COMMITTED s_HEURISTIC_ABORT s_HEURISTIC_COMMIT s_COMMITTED_AGAINST_HEURISTIC s_HEURISTIC_MISMATCH s_COMMITTED_IN_ONE_PHASE s_TxnStatus_COMMITTED s_ABORTED_AGAINST_HEURISTIC s_Outcome_ABORTED s_PRE_ABORTED s_PRE_COMMITTED s_Joined_State_ABORTED s_TxnStatus_ABORTED : Addr) (h0 : Heap) (n0 : Nat) (Z0 : n0 ≤ h0.size) (G : own_Ctx Z h0 s_PREPARED s_IN_DOUBT s_Outcome_COMMITTED s_HEURISTICALLY_ABORTED s_HEURISTICALLY_COMMITTED s_Joined_State_COMMITTED s_HEURISTIC_ABORT s_HEURISTIC_COMMIT s_COMMITTED_AGAINST_HEURISTIC s_HEURISTIC_MISMATCH s_COMMITTED_IN_ONE_PHASE s_TxnStatus_COMMITTED s_ABORTED_AGAINST_HEURISTIC s_Outcome_ABORTED s_PRE_ABORTED s_PRE_COMMITTED s_Joined_State_ABORTED s_TxnStatus_ABORTED)   :
    MetFree l (⟨"com/example/unanimity/unanimity/core/Joined$State", "awaitsDecision", "()Z"⟩ : MethodName) (head1 (Jvm.Cond.code (⟨"com/example/unanimity/unanimity/core/Joined$State", "awaitsDecision", "()Z"⟩ : MethodName) prog_7_method_5_code 1 (some .boolean) :: ws) ({ frames := 0, cells := 0, slots := 0, locals := 0 } : Room)) (fun a U => a = #[(.ref s_PREPARED)] ∧ Z.Warmed39 U.vm ∧ U.heap = h0) (fun _ _ _ _ _ => True) (fun _ U o U' => ∃ v L, o = .returned v ∧ own_Q (some (.int (1 : Int32))) h0 n0 v U'.heap L ∧ FrameEnd U o U' L ({ frames := 0, cells := 0, slots := 0, locals := 0 } : Room).cells ({ frames := 0, cells := 0, slots := 0, locals := 0 } : Room).slots) := by
  have G0 := G
  obtain ⟨S_PREPARED, E_PREPARED, O_PREPARED, S_IN_DOUBT, E_IN_DOUBT, O_IN_DOUBT, S_Outcome_COMMITTED, E_Outcome_COMMITTED, O_Outcome_COMMITTED, S_HEURISTICALLY_ABORTED, E_HEURISTICALLY_ABORTED, O_HEURISTICALLY_ABORTED, S_HEURISTICALLY_COMMITTED, E_HEURISTICALLY_COMMITTED, O_HEURISTICALLY_COMMITTED, S_Joined_State_COMMITTED, E_Joined_State_COMMITTED, S_HEURISTIC_ABORT, E_HEURISTIC_ABORT, O_HEURISTIC_ABORT, S_HEURISTIC_COMMIT, E_HEURISTIC_COMMIT, O_HEURISTIC_COMMIT, S_COMMITTED_AGAINST_HEURISTIC, E_COMMITTED_AGAINST_HEURISTIC, S_HEURISTIC_MISMATCH, E_HEURISTIC_MISMATCH, O_HEURISTIC_MISMATCH, S_COMMITTED_IN_ONE_PHASE, E_COMMITTED_IN_ONE_PHASE, S_TxnStatus_COMMITTED, E_TxnStatus_COMMITTED, O_TxnStatus_COMMITTED, S_ABORTED_AGAINST_HEURISTIC, E_ABORTED_AGAINST_HEURISTIC, S_Outcome_ABORTED, E_Outcome_ABORTED, O_Outcome_ABORTED, S_PRE_ABORTED, E_PRE_ABORTED, O_PRE_ABORTED, S_PRE_COMMITTED, E_PRE_COMMITTED, O_PRE_COMMITTED, S_Joined_State_ABORTED, E_Joined_State_ABORTED, S_TxnStatus_ABORTED, E_TxnStatus_ABORTED, O_TxnStatus_ABORTED, F_decision_PREPARED, F_status_PREPARED, F_decision_Joined_State_COMMITTED, F_decision_HEURISTICALLY_ABORTED, F_status_HEURISTICALLY_ABORTED, F_decision_COMMITTED_AGAINST_HEURISTIC, F_status_COMMITTED_AGAINST_HEURISTIC, F_decision_COMMITTED_IN_ONE_PHASE, F_status_COMMITTED_IN_ONE_PHASE, F_decision_ABORTED_AGAINST_HEURISTIC, F_status_ABORTED_AGAINST_HEURISTIC, F_decision_PRE_ABORTED, F_status_PRE_ABORTED, F_decision_HEURISTICALLY_COMMITTED, F_status_HEURISTICALLY_COMMITTED, F_decision_PRE_COMMITTED, F_status_PRE_COMMITTED, F_decision_Joined_State_ABORTED, F_status_Joined_State_COMMITTED, F_status_Joined_State_ABORTED⟩ := G
  refine MetFree.of_bodySF (plainFor_of_name pn_0) hisR ?_
  intro p e s m args below meth c s₁ Bd hml0 hP hK
  obtain ⟨rfl, hZ, hh⟩ := hP
  have hx := Bd.exec
  have hby := Bd.bytes
  have hml : c.maxLocals = 1 := hml0
  have hown : s.vm.findClass "com/example/unanimity/unanimity/core/Joined$State" = some m.cls := findClass_of_methodNamed Bd.named
  have hnm := (name_of_methodNamed Bd.named Bd.method).1
  have X0 : Stand p l e ({ frames := 0, cells := 0, slots := 0, locals := 0 } : Room) s m #[(.ref s_PREPARED)] below meth c s₁ [] 0 0 := Stand.of_body Bd
  have e0 : s₁.heap = h0 := by rw [← hh, Bd.state]; rfl
  have N0 := Fr.nil n0
  have pre0 : ∀ t, Steps p.tables e below (s₁.setTop (mkF m 0 #[.val (.ref s_PREPARED)] [])) t → Steps p.tables e below (s₁.setTop (entryFrame m #[(.ref s_PREPARED)] 1)) t := fun t k => castTop (ef_2_0 m s_PREPARED) k
  obtain ⟨T1, X1, e1, st1⟩ := getF X0 hx hZ hown (host := "") (Or.inl (hw _ (List.mem_of_getElem? (i := 13) rfl))) Via.refl e0 F_decision_PREPARED (g := (mkF m 1 #[.val (.ref s_PREPARED)] [(.ref s_PREPARED)])) rfl rfl (hb hby d2_1)
  obtain ⟨fs, hr, hrun, hended, hW, hsame⟩ := X1.leave (v := some (.int (1 : Int32))) (fun h => by rw [Bd.returns] at h; cases h)
  refine ⟨_, _, pre0 _ ?_, hrun, hended, _, _, rfl, ?_, ⟨_, rfl⟩, hW, hsame.mono (by decide) (by decide)⟩
  · show Steps p.tables e below (s₁.setTop (mkF m 0 #[.val (.ref s_PREPARED)] [])) _
    refine XS.aloadN X0.here hx rfl (hb hby d2_0) rfl rfl ?_
    show Steps p.tables e below (s₁.setTop (mkF m 1 #[.val (.ref s_PREPARED)] [(.ref s_PREPARED)])) _
    refine st1 _ ?_
    show Steps p.tables e below (T1.setTop (mkF m 4 #[.val (.ref s_PREPARED)] [.null])) _
    refine XS.ifnonnullNo X1.here hx rfl (hb hby d2_4) rfl ?_
    show Steps p.tables e below (T1.setTop (mkF m 7 #[.val (.ref s_PREPARED)] [])) _
    refine XS.iconst X1.here hx rfl (hb hby d2_7) ?_
    show Steps p.tables e below (T1.setTop (mkF m 8 #[.val (.ref s_PREPARED)] [(.int (1 : Int32))])) _
    refine XS.goto X1.here hx rfl (pc0 := 8) (pc' := 12) rfl (hb hby d2_8) (by decide) (by decide) ?_
    show Steps p.tables e below (T1.setTop (mkF m 12 #[.val (.ref s_PREPARED)] [(.int (1 : Int32))])) _
    exact retN X1 hx (t := .boolean) Bd.returns (by simp) (hb hby d2_12) hr
  · show own_Q (some (.int (1 : Int32))) h0 n0 _ T1.heap _
    rw [e1]
    exact ⟨rfl, N0, rfl⟩
theorem d3_0 : decode prog_7_method_4_code 0 = .ok (.aload_n 0, 1) := by decide +kernel
theorem d3_1 : decode prog_7_method_4_code 1 = .ok (.getfield 53, 3) := by decide +kernel
theorem d3_4 : decode prog_7_method_4_code 4 = .ok (.getstatic 68, 3) := by decide +kernel
theorem d3_7 : decode prog_7_method_4_code 7 = .ok (.if_acmp .ne 7, 3) := by decide +kernel
theorem d3_10 : decode prog_7_method_4_code 10 = .ok (.iconst 1, 1) := by decide +kernel
theorem d3_11 : decode prog_7_method_4_code 11 = .ok (.goto 4, 3) := by decide +kernel
theorem d3_15 : decode prog_7_method_4_code 15 = .ok (.ireturn, 1) := by decide +kernel
theorem ef_3_1 (m : MethodId) (x0 : Addr) : entryFrame m #[(.ref x0)] 1 = mkF m 0 #[.val (.ref x0)] [] := by first | (simp [entryFrame, mkF, argsToLocals, Value.category]; done) | rfl
set_option maxRecDepth 65536 in
set_option maxHeartbeats 40000000 in
theorem r_in_0 (l : Launch) (Z : State) (a0 : Array Value) (hw : ∀ d ∈ tables_1, d.before a0 Z = true) (ws : List Jvm.Cond) (s_PREPARED s_IN_DOUBT s_Outcome_COMMITTED s_HEURISTICALLY_ABORTED s_HEURISTICALLY_COMMITTED s_Joined_State_COMMITTED s_HEURISTIC_ABORT s_HEURISTIC_COMMIT s_COMMITTED_AGAINST_HEURISTIC s_HEURISTIC_MISMATCH s_COMMITTED_IN_ONE_PHASE s_TxnStatus_COMMITTED s_ABORTED_AGAINST_HEURISTIC s_Outcome_ABORTED s_PRE_ABORTED s_PRE_COMMITTED s_Joined_State_ABORTED s_TxnStatus_ABORTED : Addr) (h0 : Heap) (n0 : Nat) (Z0 : n0 ≤ h0.size) (G : own_Ctx Z h0 s_PREPARED s_IN_DOUBT s_Outcome_COMMITTED s_HEURISTICALLY_ABORTED s_HEURISTICALLY_COMMITTED s_Joined_State_COMMITTED s_HEURISTIC_ABORT s_HEURISTIC_COMMIT s_COMMITTED_AGAINST_HEURISTIC s_HEURISTIC_MISMATCH s_COMMITTED_IN_ONE_PHASE s_TxnStatus_COMMITTED s_ABORTED_AGAINST_HEURISTIC s_Outcome_ABORTED s_PRE_ABORTED s_PRE_COMMITTED s_Joined_State_ABORTED s_TxnStatus_ABORTED)   :
    MetFree l (⟨"com/example/unanimity/unanimity/core/Joined$State", "inDoubt", "()Z"⟩ : MethodName) (head1 (Jvm.Cond.code (⟨"com/example/unanimity/unanimity/core/Joined$State", "inDoubt", "()Z"⟩ : MethodName) prog_7_method_4_code 1 (some .boolean) :: ws) ({ frames := 0, cells := 0, slots := 0, locals := 0 } : Room)) (fun a U => a = #[(.ref s_PREPARED)] ∧ Z.Warmed39 U.vm ∧ U.heap = h0) (fun _ _ _ _ _ => True) (fun _ U o U' => ∃ v L, o = .returned v ∧ own_Q (some (.int (1 : Int32))) h0 n0 v U'.heap L ∧ FrameEnd U o U' L ({ frames := 0, cells := 0, slots := 0, locals := 0 } : Room).cells ({ frames := 0, cells := 0, slots := 0, locals := 0 } : Room).slots) := by
  have G0 := G
  obtain ⟨S_PREPARED, E_PREPARED, O_PREPARED, S_IN_DOUBT, E_IN_DOUBT, O_IN_DOUBT, S_Outcome_COMMITTED, E_Outcome_COMMITTED, O_Outcome_COMMITTED, S_HEURISTICALLY_ABORTED, E_HEURISTICALLY_ABORTED, O_HEURISTICALLY_ABORTED, S_HEURISTICALLY_COMMITTED, E_HEURISTICALLY_COMMITTED, O_HEURISTICALLY_COMMITTED, S_Joined_State_COMMITTED, E_Joined_State_COMMITTED, S_HEURISTIC_ABORT, E_HEURISTIC_ABORT, O_HEURISTIC_ABORT, S_HEURISTIC_COMMIT, E_HEURISTIC_COMMIT, O_HEURISTIC_COMMIT, S_COMMITTED_AGAINST_HEURISTIC, E_COMMITTED_AGAINST_HEURISTIC, S_HEURISTIC_MISMATCH, E_HEURISTIC_MISMATCH, O_HEURISTIC_MISMATCH, S_COMMITTED_IN_ONE_PHASE, E_COMMITTED_IN_ONE_PHASE, S_TxnStatus_COMMITTED, E_TxnStatus_COMMITTED, O_TxnStatus_COMMITTED, S_ABORTED_AGAINST_HEURISTIC, E_ABORTED_AGAINST_HEURISTIC, S_Outcome_ABORTED, E_Outcome_ABORTED, O_Outcome_ABORTED, S_PRE_ABORTED, E_PRE_ABORTED, O_PRE_ABORTED, S_PRE_COMMITTED, E_PRE_COMMITTED, O_PRE_COMMITTED, S_Joined_State_ABORTED, E_Joined_State_ABORTED, S_TxnStatus_ABORTED, E_TxnStatus_ABORTED, O_TxnStatus_ABORTED, F_decision_PREPARED, F_status_PREPARED, F_decision_Joined_State_COMMITTED, F_decision_HEURISTICALLY_ABORTED, F_status_HEURISTICALLY_ABORTED, F_decision_COMMITTED_AGAINST_HEURISTIC, F_status_COMMITTED_AGAINST_HEURISTIC, F_decision_COMMITTED_IN_ONE_PHASE, F_status_COMMITTED_IN_ONE_PHASE, F_decision_ABORTED_AGAINST_HEURISTIC, F_status_ABORTED_AGAINST_HEURISTIC, F_decision_PRE_ABORTED, F_status_PRE_ABORTED, F_decision_HEURISTICALLY_COMMITTED, F_status_HEURISTICALLY_COMMITTED, F_decision_PRE_COMMITTED, F_status_PRE_COMMITTED, F_decision_Joined_State_ABORTED, F_status_Joined_State_COMMITTED, F_status_Joined_State_ABORTED⟩ := G
  refine MetFree.of_bodySF (plainFor_of_name pn_0) hisR ?_
  intro p e s m args below meth c s₁ Bd hml0 hP hK
  obtain ⟨rfl, hZ, hh⟩ := hP
  have hx := Bd.exec
  have hby := Bd.bytes
  have hml : c.maxLocals = 1 := hml0
  have hown : s.vm.findClass "com/example/unanimity/unanimity/core/Joined$State" = some m.cls := findClass_of_methodNamed Bd.named
  have hnm := (name_of_methodNamed Bd.named Bd.method).1
  have X0 : Stand p l e ({ frames := 0, cells := 0, slots := 0, locals := 0 } : Room) s m #[(.ref s_PREPARED)] below meth c s₁ [] 0 0 := Stand.of_body Bd
  have e0 : s₁.heap = h0 := by rw [← hh, Bd.state]; rfl
  have N0 := Fr.nil n0
  have pre0 : ∀ t, Steps p.tables e below (s₁.setTop (mkF m 0 #[.val (.ref s_PREPARED)] [])) t → Steps p.tables e below (s₁.setTop (entryFrame m #[(.ref s_PREPARED)] 1)) t := fun t k => castTop (ef_3_1 m s_PREPARED) k
  obtain ⟨T1, X1, e1, st1⟩ := getF X0 hx hZ hown (host := "") (Or.inl (hw _ (List.mem_of_getElem? (i := 20) rfl))) Via.refl e0 F_status_PREPARED (g := (mkF m 1 #[.val (.ref s_PREPARED)] [(.ref s_PREPARED)])) rfl rfl (hb hby d3_1)
  obtain ⟨T2, X2, e2, st2⟩ := getS2 X1 hx hZ hown (host := "") (Or.inl (hw _ (List.mem_of_getElem? (i := 24) rfl))) Via.refl e1 S_IN_DOUBT (g := (mkF m 4 #[.val (.ref s_PREPARED)] [(.ref s_IN_DOUBT)])) rfl (hb hby d3_4)
  obtain ⟨fs, hr, hrun, hended, hW, hsame⟩ := X2.leave (v := some (.int (1 : Int32))) (fun h => by rw [Bd.returns] at h; cases h)
  refine ⟨_, _, pre0 _ ?_, hrun, hended, _, _, rfl, ?_, ⟨_, rfl⟩, hW, hsame.mono (by decide) (by decide)⟩
  · show Steps p.tables e below (s₁.setTop (mkF m 0 #[.val (.ref s_PREPARED)] [])) _
    refine XS.aloadN X0.here hx rfl (hb hby d3_0) rfl rfl ?_
    show Steps p.tables e below (s₁.setTop (mkF m 1 #[.val (.ref s_PREPARED)] [(.ref s_PREPARED)])) _
    refine st1 _ ?_
    show Steps p.tables e below (T1.setTop (mkF m 4 #[.val (.ref s_PREPARED)] [(.ref s_IN_DOUBT)])) _
    refine st2 _ ?_
    show Steps p.tables e below (T2.setTop (mkF m 7 #[.val (.ref s_PREPARED)] [(.ref s_IN_DOUBT), (.ref s_IN_DOUBT)])) _
    refine Jvm.RoadKit.acmp (g := (mkF m 7 #[.val (.ref s_PREPARED)] [(.ref s_IN_DOUBT), (.ref s_IN_DOUBT)])) X2 hx rfl rfl rfl (pc0 := 7) (pc' := 10) (same := true) rfl (hb hby d3_7) rfl (decide_eq_true rfl) (by decide) (by decide) ?_
    show Steps p.tables e below (T2.setTop (mkF m 10 #[.val (.ref s_PREPARED)] [])) _
    refine XS.iconst X2.here hx rfl (hb hby d3_10) ?_
    show Steps p.tables e below (T2.setTop (mkF m 11 #[.val (.ref s_PREPARED)] [(.int (1 : Int32))])) _
    refine XS.goto X2.here hx rfl (pc0 := 11) (pc' := 15) rfl (hb hby d3_11) (by decide) (by decide) ?_
    show Steps p.tables e below (T2.setTop (mkF m 15 #[.val (.ref s_PREPARED)] [(.int (1 : Int32))])) _
    exact retN X2 hx (t := .boolean) Bd.returns (by simp) (hb hby d3_15) hr
  · show own_Q (some (.int (1 : Int32))) h0 n0 _ T2.heap _
    rw [e2]
    exact ⟨rfl, N0, rfl⟩
set_option maxRecDepth 65536 in
set_option maxHeartbeats 40000000 in
theorem r_aw_1 (l : Launch) (Z : State) (a0 : Array Value) (hw : ∀ d ∈ tables_1, d.before a0 Z = true) (ws : List Jvm.Cond) (s_PREPARED s_IN_DOUBT s_Outcome_COMMITTED s_HEURISTICALLY_ABORTED s_HEURISTICALLY_COMMITTED s_Joined_State_COMMITTED s_HEURISTIC_ABORT s_HEURISTIC_COMMIT s_COMMITTED_AGAINST_HEURISTIC s_HEURISTIC_MISMATCH s_COMMITTED_IN_ONE_PHASE s_TxnStatus_COMMITTED s_ABORTED_AGAINST_HEURISTIC s_Outcome_ABORTED s_PRE_ABORTED s_PRE_COMMITTED s_Joined_State_ABORTED s_TxnStatus_ABORTED : Addr) (h0 : Heap) (n0 : Nat) (Z0 : n0 ≤ h0.size) (G : own_Ctx Z h0 s_PREPARED s_IN_DOUBT s_Outcome_COMMITTED s_HEURISTICALLY_ABORTED s_HEURISTICALLY_COMMITTED s_Joined_State_COMMITTED s_HEURISTIC_ABORT s_HEURISTIC_COMMIT s_COMMITTED_AGAINST_HEURISTIC s_HEURISTIC_MISMATCH s_COMMITTED_IN_ONE_PHASE s_TxnStatus_COMMITTED s_ABORTED_AGAINST_HEURISTIC s_Outcome_ABORTED s_PRE_ABORTED s_PRE_COMMITTED s_Joined_State_ABORTED s_TxnStatus_ABORTED)   :
    MetFree l (⟨"com/example/unanimity/unanimity/core/Joined$State", "awaitsDecision", "()Z"⟩ : MethodName) (head1 (Jvm.Cond.code (⟨"com/example/unanimity/unanimity/core/Joined$State", "awaitsDecision", "()Z"⟩ : MethodName) prog_7_method_5_code 1 (some .boolean) :: ws) ({ frames := 0, cells := 0, slots := 0, locals := 0 } : Room)) (fun a U => a = #[(.ref s_PRE_COMMITTED)] ∧ Z.Warmed39 U.vm ∧ U.heap = h0) (fun _ _ _ _ _ => True) (fun _ U o U' => ∃ v L, o = .returned v ∧ own_Q (some (.int (1 : Int32))) h0 n0 v U'.heap L ∧ FrameEnd U o U' L ({ frames := 0, cells := 0, slots := 0, locals := 0 } : Room).cells ({ frames := 0, cells := 0, slots := 0, locals := 0 } : Room).slots) := by
  have G0 := G
  obtain ⟨S_PREPARED, E_PREPARED, O_PREPARED, S_IN_DOUBT, E_IN_DOUBT, O_IN_DOUBT, S_Outcome_COMMITTED, E_Outcome_COMMITTED, O_Outcome_COMMITTED, S_HEURISTICALLY_ABORTED, E_HEURISTICALLY_ABORTED, O_HEURISTICALLY_ABORTED, S_HEURISTICALLY_COMMITTED, E_HEURISTICALLY_COMMITTED, O_HEURISTICALLY_COMMITTED, S_Joined_State_COMMITTED, E_Joined_State_COMMITTED, S_HEURISTIC_ABORT, E_HEURISTIC_ABORT, O_HEURISTIC_ABORT, S_HEURISTIC_COMMIT, E_HEURISTIC_COMMIT, O_HEURISTIC_COMMIT, S_COMMITTED_AGAINST_HEURISTIC, E_COMMITTED_AGAINST_HEURISTIC, S_HEURISTIC_MISMATCH, E_HEURISTIC_MISMATCH, O_HEURISTIC_MISMATCH, S_COMMITTED_IN_ONE_PHASE, E_COMMITTED_IN_ONE_PHASE, S_TxnStatus_COMMITTED, E_TxnStatus_COMMITTED, O_TxnStatus_COMMITTED, S_ABORTED_AGAINST_HEURISTIC, E_ABORTED_AGAINST_HEURISTIC, S_Outcome_ABORTED, E_Outcome_ABORTED, O_Outcome_ABORTED, S_PRE_ABORTED, E_PRE_ABORTED, O_PRE_ABORTED, S_PRE_COMMITTED, E_PRE_COMMITTED, O_PRE_COMMITTED, S_Joined_State_ABORTED, E_Joined_State_ABORTED, S_TxnStatus_ABORTED, E_TxnStatus_ABORTED, O_TxnStatus_ABORTED, F_decision_PREPARED, F_status_PREPARED, F_decision_Joined_State_COMMITTED, F_decision_HEURISTICALLY_ABORTED, F_status_HEURISTICALLY_ABORTED, F_decision_COMMITTED_AGAINST_HEURISTIC, F_status_COMMITTED_AGAINST_HEURISTIC, F_decision_COMMITTED_IN_ONE_PHASE, F_status_COMMITTED_IN_ONE_PHASE, F_decision_ABORTED_AGAINST_HEURISTIC, F_status_ABORTED_AGAINST_HEURISTIC, F_decision_PRE_ABORTED, F_status_PRE_ABORTED, F_decision_HEURISTICALLY_COMMITTED, F_status_HEURISTICALLY_COMMITTED, F_decision_PRE_COMMITTED, F_status_PRE_COMMITTED, F_decision_Joined_State_ABORTED, F_status_Joined_State_COMMITTED, F_status_Joined_State_ABORTED⟩ := G
  refine MetFree.of_bodySF (plainFor_of_name pn_0) hisR ?_
  intro p e s m args below meth c s₁ Bd hml0 hP hK
  obtain ⟨rfl, hZ, hh⟩ := hP
  have hx := Bd.exec
  have hby := Bd.bytes
  have hml : c.maxLocals = 1 := hml0
  have hown : s.vm.findClass "com/example/unanimity/unanimity/core/Joined$State" = some m.cls := findClass_of_methodNamed Bd.named
  have hnm := (name_of_methodNamed Bd.named Bd.method).1
  have X0 : Stand p l e ({ frames := 0, cells := 0, slots := 0, locals := 0 } : Room) s m #[(.ref s_PRE_COMMITTED)] below meth c s₁ [] 0 0 := Stand.of_body Bd
  have e0 : s₁.heap = h0 := by rw [← hh, Bd.state]; rfl
  have N0 := Fr.nil n0
  have pre0 : ∀ t, Steps p.tables e below (s₁.setTop (mkF m 0 #[.val (.ref s_PRE_COMMITTED)] [])) t → Steps p.tables e below (s₁.setTop (entryFrame m #[(.ref s_PRE_COMMITTED)] 1)) t := fun t k => castTop (ef_2_0 m s_PRE_COMMITTED) k
  obtain ⟨T1, X1, e1, st1⟩ := getF X0 hx hZ hown (host := "") (Or.inl (hw _ (List.mem_of_getElem? (i := 13) rfl))) Via.refl e0 F_decision_PRE_COMMITTED (g := (mkF m 1 #[.val (.ref s_PRE_COMMITTED)] [(.ref s_PRE_COMMITTED)])) rfl rfl (hb hby d2_1)
  obtain ⟨fs, hr, hrun, hended, hW, hsame⟩ := X1.leave (v := some (.int (1 : Int32))) (fun h => by rw [Bd.returns] at h; cases h)
  refine ⟨_, _, pre0 _ ?_, hrun, hended, _, _, rfl, ?_, ⟨_, rfl⟩, hW, hsame.mono (by decide) (by decide)⟩
  · show Steps p.tables e below (s₁.setTop (mkF m 0 #[.val (.ref s_PRE_COMMITTED)] [])) _
    refine XS.aloadN X0.here hx rfl (hb hby d2_0) rfl rfl ?_
    show Steps p.tables e below (s₁.setTop (mkF m 1 #[.val (.ref s_PRE_COMMITTED)] [(.ref s_PRE_COMMITTED)])) _
    refine st1 _ ?_
    show Steps p.tables e below (T1.setTop (mkF m 4 #[.val (.ref s_PRE_COMMITTED)] [.null])) _
    refine XS.ifnonnullNo X1.here hx rfl (hb hby d2_4) rfl ?_
    show Steps p.tables e below (T1.setTop (mkF m 7 #[.val (.ref s_PRE_COMMITTED)] [])) _
    refine XS.iconst X1.here hx rfl (hb hby d2_7) ?_
    show Steps p.tables e below (T1.setTop (mkF m 8 #[.val (.ref s_PRE_COMMITTED)] [(.int (1 : Int32))])) _
    refine XS.goto X1.here hx rfl (pc0 := 8) (pc' := 12) rfl (hb hby d2_8) (by decide) (by decide) ?_
    show Steps p.tables e below (T1.setTop (mkF m 12 #[.val (.ref s_PRE_COMMITTED)] [(.int (1 : Int32))])) _
    exact retN X1 hx (t := .boolean) Bd.returns (by simp) (hb hby d2_12) hr
  · show own_Q (some (.int (1 : Int32))) h0 n0 _ T1.heap _
    rw [e1]
    exact ⟨rfl, N0, rfl⟩
set_option maxRecDepth 65536 in
set_option maxHeartbeats 40000000 in
theorem r_in_1 (l : Launch) (Z : State) (a0 : Array Value) (hw : ∀ d ∈ tables_1, d.before a0 Z = true) (ws : List Jvm.Cond) (s_PREPARED s_IN_DOUBT s_Outcome_COMMITTED s_HEURISTICALLY_ABORTED s_HEURISTICALLY_COMMITTED s_Joined_State_COMMITTED s_HEURISTIC_ABORT s_HEURISTIC_COMMIT s_COMMITTED_AGAINST_HEURISTIC s_HEURISTIC_MISMATCH s_COMMITTED_IN_ONE_PHASE s_TxnStatus_COMMITTED s_ABORTED_AGAINST_HEURISTIC s_Outcome_ABORTED s_PRE_ABORTED s_PRE_COMMITTED s_Joined_State_ABORTED s_TxnStatus_ABORTED : Addr) (h0 : Heap) (n0 : Nat) (Z0 : n0 ≤ h0.size) (G : own_Ctx Z h0 s_PREPARED s_IN_DOUBT s_Outcome_COMMITTED s_HEURISTICALLY_ABORTED s_HEURISTICALLY_COMMITTED s_Joined_State_COMMITTED s_HEURISTIC_ABORT s_HEURISTIC_COMMIT s_COMMITTED_AGAINST_HEURISTIC s_HEURISTIC_MISMATCH s_COMMITTED_IN_ONE_PHASE s_TxnStatus_COMMITTED s_ABORTED_AGAINST_HEURISTIC s_Outcome_ABORTED s_PRE_ABORTED s_PRE_COMMITTED s_Joined_State_ABORTED s_TxnStatus_ABORTED)   :
    MetFree l (⟨"com/example/unanimity/unanimity/core/Joined$State", "inDoubt", "()Z"⟩ : MethodName) (head1 (Jvm.Cond.code (⟨"com/example/unanimity/unanimity/core/Joined$State", "inDoubt", "()Z"⟩ : MethodName) prog_7_method_4_code 1 (some .boolean) :: ws) ({ frames := 0, cells := 0, slots := 0, locals := 0 } : Room)) (fun a U => a = #[(.ref s_PRE_COMMITTED)] ∧ Z.Warmed39 U.vm ∧ U.heap = h0) (fun _ _ _ _ _ => True) (fun _ U o U' => ∃ v L, o = .returned v ∧ own_Q (some (.int (1 : Int32))) h0 n0 v U'.heap L ∧ FrameEnd U o U' L ({ frames := 0, cells := 0, slots := 0, locals := 0 } : Room).cells ({ frames := 0, cells := 0, slots := 0, locals := 0 } : Room).slots) := by
  have G0 := G
  obtain ⟨S_PREPARED, E_PREPARED, O_PREPARED, S_IN_DOUBT, E_IN_DOUBT, O_IN_DOUBT, S_Outcome_COMMITTED, E_Outcome_COMMITTED, O_Outcome_COMMITTED, S_HEURISTICALLY_ABORTED, E_HEURISTICALLY_ABORTED, O_HEURISTICALLY_ABORTED, S_HEURISTICALLY_COMMITTED, E_HEURISTICALLY_COMMITTED, O_HEURISTICALLY_COMMITTED, S_Joined_State_COMMITTED, E_Joined_State_COMMITTED, S_HEURISTIC_ABORT, E_HEURISTIC_ABORT, O_HEURISTIC_ABORT, S_HEURISTIC_COMMIT, E_HEURISTIC_COMMIT, O_HEURISTIC_COMMIT, S_COMMITTED_AGAINST_HEURISTIC, E_COMMITTED_AGAINST_HEURISTIC, S_HEURISTIC_MISMATCH, E_HEURISTIC_MISMATCH, O_HEURISTIC_MISMATCH, S_COMMITTED_IN_ONE_PHASE, E_COMMITTED_IN_ONE_PHASE, S_TxnStatus_COMMITTED, E_TxnStatus_COMMITTED, O_TxnStatus_COMMITTED, S_ABORTED_AGAINST_HEURISTIC, E_ABORTED_AGAINST_HEURISTIC, S_Outcome_ABORTED, E_Outcome_ABORTED, O_Outcome_ABORTED, S_PRE_ABORTED, E_PRE_ABORTED, O_PRE_ABORTED, S_PRE_COMMITTED, E_PRE_COMMITTED, O_PRE_COMMITTED, S_Joined_State_ABORTED, E_Joined_State_ABORTED, S_TxnStatus_ABORTED, E_TxnStatus_ABORTED, O_TxnStatus_ABORTED, F_decision_PREPARED, F_status_PREPARED, F_decision_Joined_State_COMMITTED, F_decision_HEURISTICALLY_ABORTED, F_status_HEURISTICALLY_ABORTED, F_decision_COMMITTED_AGAINST_HEURISTIC, F_status_COMMITTED_AGAINST_HEURISTIC, F_decision_COMMITTED_IN_ONE_PHASE, F_status_COMMITTED_IN_ONE_PHASE, F_decision_ABORTED_AGAINST_HEURISTIC, F_status_ABORTED_AGAINST_HEURISTIC, F_decision_PRE_ABORTED, F_status_PRE_ABORTED, F_decision_HEURISTICALLY_COMMITTED, F_status_HEURISTICALLY_COMMITTED, F_decision_PRE_COMMITTED, F_status_PRE_COMMITTED, F_decision_Joined_State_ABORTED, F_status_Joined_State_COMMITTED, F_status_Joined_State_ABORTED⟩ := G
  refine MetFree.of_bodySF (plainFor_of_name pn_0) hisR ?_
  intro p e s m args below meth c s₁ Bd hml0 hP hK
  obtain ⟨rfl, hZ, hh⟩ := hP
  have hx := Bd.exec
  have hby := Bd.bytes
  have hml : c.maxLocals = 1 := hml0
  have hown : s.vm.findClass "com/example/unanimity/unanimity/core/Joined$State" = some m.cls := findClass_of_methodNamed Bd.named
  have hnm := (name_of_methodNamed Bd.named Bd.method).1
  have X0 : Stand p l e ({ frames := 0, cells := 0, slots := 0, locals := 0 } : Room) s m #[(.ref s_PRE_COMMITTED)] below meth c s₁ [] 0 0 := Stand.of_body Bd
  have e0 : s₁.heap = h0 := by rw [← hh, Bd.state]; rfl
  have N0 := Fr.nil n0
  have pre0 : ∀ t, Steps p.tables e below (s₁.setTop (mkF m 0 #[.val (.ref s_PRE_COMMITTED)] [])) t → Steps p.tables e below (s₁.setTop (entryFrame m #[(.ref s_PRE_COMMITTED)] 1)) t := fun t k => castTop (ef_3_1 m s_PRE_COMMITTED) k
  obtain ⟨T1, X1, e1, st1⟩ := getF X0 hx hZ hown (host := "") (Or.inl (hw _ (List.mem_of_getElem? (i := 20) rfl))) Via.refl e0 F_status_PRE_COMMITTED (g := (mkF m 1 #[.val (.ref s_PRE_COMMITTED)] [(.ref s_PRE_COMMITTED)])) rfl rfl (hb hby d3_1)
  obtain ⟨T2, X2, e2, st2⟩ := getS2 X1 hx hZ hown (host := "") (Or.inl (hw _ (List.mem_of_getElem? (i := 24) rfl))) Via.refl e1 S_IN_DOUBT (g := (mkF m 4 #[.val (.ref s_PRE_COMMITTED)] [(.ref s_IN_DOUBT)])) rfl (hb hby d3_4)
  obtain ⟨fs, hr, hrun, hended, hW, hsame⟩ := X2.leave (v := some (.int (1 : Int32))) (fun h => by rw [Bd.returns] at h; cases h)
  refine ⟨_, _, pre0 _ ?_, hrun, hended, _, _, rfl, ?_, ⟨_, rfl⟩, hW, hsame.mono (by decide) (by decide)⟩
  · show Steps p.tables e below (s₁.setTop (mkF m 0 #[.val (.ref s_PRE_COMMITTED)] [])) _
    refine XS.aloadN X0.here hx rfl (hb hby d3_0) rfl rfl ?_
    show Steps p.tables e below (s₁.setTop (mkF m 1 #[.val (.ref s_PRE_COMMITTED)] [(.ref s_PRE_COMMITTED)])) _
    refine st1 _ ?_
    show Steps p.tables e below (T1.setTop (mkF m 4 #[.val (.ref s_PRE_COMMITTED)] [(.ref s_IN_DOUBT)])) _
    refine st2 _ ?_
    show Steps p.tables e below (T2.setTop (mkF m 7 #[.val (.ref s_PRE_COMMITTED)] [(.ref s_IN_DOUBT), (.ref s_IN_DOUBT)])) _
    refine Jvm.RoadKit.acmp (g := (mkF m 7 #[.val (.ref s_PRE_COMMITTED)] [(.ref s_IN_DOUBT), (.ref s_IN_DOUBT)])) X2 hx rfl rfl rfl (pc0 := 7) (pc' := 10) (same := true) rfl (hb hby d3_7) rfl (decide_eq_true rfl) (by decide) (by decide) ?_
    show Steps p.tables e below (T2.setTop (mkF m 10 #[.val (.ref s_PRE_COMMITTED)] [])) _
    refine XS.iconst X2.here hx rfl (hb hby d3_10) ?_
    show Steps p.tables e below (T2.setTop (mkF m 11 #[.val (.ref s_PRE_COMMITTED)] [(.int (1 : Int32))])) _
    refine XS.goto X2.here hx rfl (pc0 := 11) (pc' := 15) rfl (hb hby d3_11) (by decide) (by decide) ?_
    show Steps p.tables e below (T2.setTop (mkF m 15 #[.val (.ref s_PRE_COMMITTED)] [(.int (1 : Int32))])) _
    exact retN X2 hx (t := .boolean) Bd.returns (by simp) (hb hby d3_15) hr
  · show own_Q (some (.int (1 : Int32))) h0 n0 _ T2.heap _
    rw [e2]
    exact ⟨rfl, N0, rfl⟩
set_option maxRecDepth 65536 in
set_option maxHeartbeats 40000000 in
theorem r_aw_2 (l : Launch) (Z : State) (a0 : Array Value) (hw : ∀ d ∈ tables_1, d.before a0 Z = true) (ws : List Jvm.Cond) (s_PREPARED s_IN_DOUBT s_Outcome_COMMITTED s_HEURISTICALLY_ABORTED s_HEURISTICALLY_COMMITTED s_Joined_State_COMMITTED s_HEURISTIC_ABORT s_HEURISTIC_COMMIT s_COMMITTED_AGAINST_HEURISTIC s_HEURISTIC_MISMATCH s_COMMITTED_IN_ONE_PHASE s_TxnStatus_COMMITTED s_ABORTED_AGAINST_HEURISTIC s_Outcome_ABORTED s_PRE_ABORTED s_PRE_COMMITTED s_Joined_State_ABORTED s_TxnStatus_ABORTED : Addr) (h0 : Heap) (n0 : Nat) (Z0 : n0 ≤ h0.size) (G : own_Ctx Z h0 s_PREPARED s_IN_DOUBT s_Outcome_COMMITTED s_HEURISTICALLY_ABORTED s_HEURISTICALLY_COMMITTED s_Joined_State_COMMITTED s_HEURISTIC_ABORT s_HEURISTIC_COMMIT s_COMMITTED_AGAINST_HEURISTIC s_HEURISTIC_MISMATCH s_COMMITTED_IN_ONE_PHASE s_TxnStatus_COMMITTED s_ABORTED_AGAINST_HEURISTIC s_Outcome_ABORTED s_PRE_ABORTED s_PRE_COMMITTED s_Joined_State_ABORTED s_TxnStatus_ABORTED)   :
    MetFree l (⟨"com/example/unanimity/unanimity/core/Joined$State", "awaitsDecision", "()Z"⟩ : MethodName) (head1 (Jvm.Cond.code (⟨"com/example/unanimity/unanimity/core/Joined$State", "awaitsDecision", "()Z"⟩ : MethodName) prog_7_method_5_code 1 (some .boolean) :: ws) ({ frames := 0, cells := 0, slots := 0, locals := 0 } : Room)) (fun a U => a = #[(.ref s_PRE_ABORTED)] ∧ Z.Warmed39 U.vm ∧ U.heap = h0) (fun _ _ _ _ _ => True) (fun _ U o U' => ∃ v L, o = .returned v ∧ own_Q (some (.int (1 : Int32))) h0 n0 v U'.heap L ∧ FrameEnd U o U' L ({ frames := 0, cells := 0, slots := 0, locals := 0 } : Room).cells ({ frames := 0, cells := 0, slots := 0, locals := 0 } : Room).slots) := by
  have G0 := G
  obtain ⟨S_PREPARED, E_PREPARED, O_PREPARED, S_IN_DOUBT, E_IN_DOUBT, O_IN_DOUBT, S_Outcome_COMMITTED, E_Outcome_COMMITTED, O_Outcome_COMMITTED, S_HEURISTICALLY_ABORTED, E_HEURISTICALLY_ABORTED, O_HEURISTICALLY_ABORTED, S_HEURISTICALLY_COMMITTED, E_HEURISTICALLY_COMMITTED, O_HEURISTICALLY_COMMITTED, S_Joined_State_COMMITTED, E_Joined_State_COMMITTED, S_HEURISTIC_ABORT, E_HEURISTIC_ABORT, O_HEURISTIC_ABORT, S_HEURISTIC_COMMIT, E_HEURISTIC_COMMIT, O_HEURISTIC_COMMIT, S_COMMITTED_AGAINST_HEURISTIC, E_COMMITTED_AGAINST_HEURISTIC, S_HEURISTIC_MISMATCH, E_HEURISTIC_MISMATCH, O_HEURISTIC_MISMATCH, S_COMMITTED_IN_ONE_PHASE, E_COMMITTED_IN_ONE_PHASE, S_TxnStatus_COMMITTED, E_TxnStatus_COMMITTED, O_TxnStatus_COMMITTED, S_ABORTED_AGAINST_HEURISTIC, E_ABORTED_AGAINST_HEURISTIC, S_Outcome_ABORTED, E_Outcome_ABORTED, O_Outcome_ABORTED, S_PRE_ABORTED, E_PRE_ABORTED, O_PRE_ABORTED, S_PRE_COMMITTED, E_PRE_COMMITTED, O_PRE_COMMITTED, S_Joined_State_ABORTED, E_Joined_State_ABORTED, S_TxnStatus_ABORTED, E_TxnStatus_ABORTED, O_TxnStatus_ABORTED, F_decision_PREPARED, F_status_PREPARED, F_decision_Joined_State_COMMITTED, F_decision_HEURISTICALLY_ABORTED, F_status_HEURISTICALLY_ABORTED, F_decision_COMMITTED_AGAINST_HEURISTIC, F_status_COMMITTED_AGAINST_HEURISTIC, F_decision_COMMITTED_IN_ONE_PHASE, F_status_COMMITTED_IN_ONE_PHASE, F_decision_ABORTED_AGAINST_HEURISTIC, F_status_ABORTED_AGAINST_HEURISTIC, F_decision_PRE_ABORTED, F_status_PRE_ABORTED, F_decision_HEURISTICALLY_COMMITTED, F_status_HEURISTICALLY_COMMITTED, F_decision_PRE_COMMITTED, F_status_PRE_COMMITTED, F_decision_Joined_State_ABORTED, F_status_Joined_State_COMMITTED, F_status_Joined_State_ABORTED⟩ := G
  refine MetFree.of_bodySF (plainFor_of_name pn_0) hisR ?_
  intro p e s m args below meth c s₁ Bd hml0 hP hK
  obtain ⟨rfl, hZ, hh⟩ := hP
  have hx := Bd.exec
  have hby := Bd.bytes
  have hml : c.maxLocals = 1 := hml0
  have hown : s.vm.findClass "com/example/unanimity/unanimity/core/Joined$State" = some m.cls := findClass_of_methodNamed Bd.named
  have hnm := (name_of_methodNamed Bd.named Bd.method).1
  have X0 : Stand p l e ({ frames := 0, cells := 0, slots := 0, locals := 0 } : Room) s m #[(.ref s_PRE_ABORTED)] below meth c s₁ [] 0 0 := Stand.of_body Bd
  have e0 : s₁.heap = h0 := by rw [← hh, Bd.state]; rfl
  have N0 := Fr.nil n0
  have pre0 : ∀ t, Steps p.tables e below (s₁.setTop (mkF m 0 #[.val (.ref s_PRE_ABORTED)] [])) t → Steps p.tables e below (s₁.setTop (entryFrame m #[(.ref s_PRE_ABORTED)] 1)) t := fun t k => castTop (ef_2_0 m s_PRE_ABORTED) k
  obtain ⟨T1, X1, e1, st1⟩ := getF X0 hx hZ hown (host := "") (Or.inl (hw _ (List.mem_of_getElem? (i := 13) rfl))) Via.refl e0 F_decision_PRE_ABORTED (g := (mkF m 1 #[.val (.ref s_PRE_ABORTED)] [(.ref s_PRE_ABORTED)])) rfl rfl (hb hby d2_1)
  obtain ⟨fs, hr, hrun, hended, hW, hsame⟩ := X1.leave (v := some (.int (1 : Int32))) (fun h => by rw [Bd.returns] at h; cases h)
  refine ⟨_, _, pre0 _ ?_, hrun, hended, _, _, rfl, ?_, ⟨_, rfl⟩, hW, hsame.mono (by decide) (by decide)⟩
  · show Steps p.tables e below (s₁.setTop (mkF m 0 #[.val (.ref s_PRE_ABORTED)] [])) _
    refine XS.aloadN X0.here hx rfl (hb hby d2_0) rfl rfl ?_
    show Steps p.tables e below (s₁.setTop (mkF m 1 #[.val (.ref s_PRE_ABORTED)] [(.ref s_PRE_ABORTED)])) _
    refine st1 _ ?_
    show Steps p.tables e below (T1.setTop (mkF m 4 #[.val (.ref s_PRE_ABORTED)] [.null])) _
    refine XS.ifnonnullNo X1.here hx rfl (hb hby d2_4) rfl ?_
    show Steps p.tables e below (T1.setTop (mkF m 7 #[.val (.ref s_PRE_ABORTED)] [])) _
    refine XS.iconst X1.here hx rfl (hb hby d2_7) ?_
    show Steps p.tables e below (T1.setTop (mkF m 8 #[.val (.ref s_PRE_ABORTED)] [(.int (1 : Int32))])) _
    refine XS.goto X1.here hx rfl (pc0 := 8) (pc' := 12) rfl (hb hby d2_8) (by decide) (by decide) ?_
    show Steps p.tables e below (T1.setTop (mkF m 12 #[.val (.ref s_PRE_ABORTED)] [(.int (1 : Int32))])) _
    exact retN X1 hx (t := .boolean) Bd.returns (by simp) (hb hby d2_12) hr
  · show own_Q (some (.int (1 : Int32))) h0 n0 _ T1.heap _
    rw [e1]
    exact ⟨rfl, N0, rfl⟩
set_option maxRecDepth 65536 in
set_option maxHeartbeats 40000000 in
theorem r_in_2 (l : Launch) (Z : State) (a0 : Array Value) (hw : ∀ d ∈ tables_1, d.before a0 Z = true) (ws : List Jvm.Cond) (s_PREPARED s_IN_DOUBT s_Outcome_COMMITTED s_HEURISTICALLY_ABORTED s_HEURISTICALLY_COMMITTED s_Joined_State_COMMITTED s_HEURISTIC_ABORT s_HEURISTIC_COMMIT s_COMMITTED_AGAINST_HEURISTIC s_HEURISTIC_MISMATCH s_COMMITTED_IN_ONE_PHASE s_TxnStatus_COMMITTED s_ABORTED_AGAINST_HEURISTIC s_Outcome_ABORTED s_PRE_ABORTED s_PRE_COMMITTED s_Joined_State_ABORTED s_TxnStatus_ABORTED : Addr) (h0 : Heap) (n0 : Nat) (Z0 : n0 ≤ h0.size) (G : own_Ctx Z h0 s_PREPARED s_IN_DOUBT s_Outcome_COMMITTED s_HEURISTICALLY_ABORTED s_HEURISTICALLY_COMMITTED s_Joined_State_COMMITTED s_HEURISTIC_ABORT s_HEURISTIC_COMMIT s_COMMITTED_AGAINST_HEURISTIC s_HEURISTIC_MISMATCH s_COMMITTED_IN_ONE_PHASE s_TxnStatus_COMMITTED s_ABORTED_AGAINST_HEURISTIC s_Outcome_ABORTED s_PRE_ABORTED s_PRE_COMMITTED s_Joined_State_ABORTED s_TxnStatus_ABORTED)   :
    MetFree l (⟨"com/example/unanimity/unanimity/core/Joined$State", "inDoubt", "()Z"⟩ : MethodName) (head1 (Jvm.Cond.code (⟨"com/example/unanimity/unanimity/core/Joined$State", "inDoubt", "()Z"⟩ : MethodName) prog_7_method_4_code 1 (some .boolean) :: ws) ({ frames := 0, cells := 0, slots := 0, locals := 0 } : Room)) (fun a U => a = #[(.ref s_PRE_ABORTED)] ∧ Z.Warmed39 U.vm ∧ U.heap = h0) (fun _ _ _ _ _ => True) (fun _ U o U' => ∃ v L, o = .returned v ∧ own_Q (some (.int (1 : Int32))) h0 n0 v U'.heap L ∧ FrameEnd U o U' L ({ frames := 0, cells := 0, slots := 0, locals := 0 } : Room).cells ({ frames := 0, cells := 0, slots := 0, locals := 0 } : Room).slots) := by
  have G0 := G
  obtain ⟨S_PREPARED, E_PREPARED, O_PREPARED, S_IN_DOUBT, E_IN_DOUBT, O_IN_DOUBT, S_Outcome_COMMITTED, E_Outcome_COMMITTED, O_Outcome_COMMITTED, S_HEURISTICALLY_ABORTED, E_HEURISTICALLY_ABORTED, O_HEURISTICALLY_ABORTED, S_HEURISTICALLY_COMMITTED, E_HEURISTICALLY_COMMITTED, O_HEURISTICALLY_COMMITTED, S_Joined_State_COMMITTED, E_Joined_State_COMMITTED, S_HEURISTIC_ABORT, E_HEURISTIC_ABORT, O_HEURISTIC_ABORT, S_HEURISTIC_COMMIT, E_HEURISTIC_COMMIT, O_HEURISTIC_COMMIT, S_COMMITTED_AGAINST_HEURISTIC, E_COMMITTED_AGAINST_HEURISTIC, S_HEURISTIC_MISMATCH, E_HEURISTIC_MISMATCH, O_HEURISTIC_MISMATCH, S_COMMITTED_IN_ONE_PHASE, E_COMMITTED_IN_ONE_PHASE, S_TxnStatus_COMMITTED, E_TxnStatus_COMMITTED, O_TxnStatus_COMMITTED, S_ABORTED_AGAINST_HEURISTIC, E_ABORTED_AGAINST_HEURISTIC, S_Outcome_ABORTED, E_Outcome_ABORTED, O_Outcome_ABORTED, S_PRE_ABORTED, E_PRE_ABORTED, O_PRE_ABORTED, S_PRE_COMMITTED, E_PRE_COMMITTED, O_PRE_COMMITTED, S_Joined_State_ABORTED, E_Joined_State_ABORTED, S_TxnStatus_ABORTED, E_TxnStatus_ABORTED, O_TxnStatus_ABORTED, F_decision_PREPARED, F_status_PREPARED, F_decision_Joined_State_COMMITTED, F_decision_HEURISTICALLY_ABORTED, F_status_HEURISTICALLY_ABORTED, F_decision_COMMITTED_AGAINST_HEURISTIC, F_status_COMMITTED_AGAINST_HEURISTIC, F_decision_COMMITTED_IN_ONE_PHASE, F_status_COMMITTED_IN_ONE_PHASE, F_decision_ABORTED_AGAINST_HEURISTIC, F_status_ABORTED_AGAINST_HEURISTIC, F_decision_PRE_ABORTED, F_status_PRE_ABORTED, F_decision_HEURISTICALLY_COMMITTED, F_status_HEURISTICALLY_COMMITTED, F_decision_PRE_COMMITTED, F_status_PRE_COMMITTED, F_decision_Joined_State_ABORTED, F_status_Joined_State_COMMITTED, F_status_Joined_State_ABORTED⟩ := G
  refine MetFree.of_bodySF (plainFor_of_name pn_0) hisR ?_
  intro p e s m args below meth c s₁ Bd hml0 hP hK
  obtain ⟨rfl, hZ, hh⟩ := hP
  have hx := Bd.exec
  have hby := Bd.bytes
  have hml : c.maxLocals = 1 := hml0
  have hown : s.vm.findClass "com/example/unanimity/unanimity/core/Joined$State" = some m.cls := findClass_of_methodNamed Bd.named
  have hnm := (name_of_methodNamed Bd.named Bd.method).1
  have X0 : Stand p l e ({ frames := 0, cells := 0, slots := 0, locals := 0 } : Room) s m #[(.ref s_PRE_ABORTED)] below meth c s₁ [] 0 0 := Stand.of_body Bd
  have e0 : s₁.heap = h0 := by rw [← hh, Bd.state]; rfl
  have N0 := Fr.nil n0
  have pre0 : ∀ t, Steps p.tables e below (s₁.setTop (mkF m 0 #[.val (.ref s_PRE_ABORTED)] [])) t → Steps p.tables e below (s₁.setTop (entryFrame m #[(.ref s_PRE_ABORTED)] 1)) t := fun t k => castTop (ef_3_1 m s_PRE_ABORTED) k
  obtain ⟨T1, X1, e1, st1⟩ := getF X0 hx hZ hown (host := "") (Or.inl (hw _ (List.mem_of_getElem? (i := 20) rfl))) Via.refl e0 F_status_PRE_ABORTED (g := (mkF m 1 #[.val (.ref s_PRE_ABORTED)] [(.ref s_PRE_ABORTED)])) rfl rfl (hb hby d3_1)
  obtain ⟨T2, X2, e2, st2⟩ := getS2 X1 hx hZ hown (host := "") (Or.inl (hw _ (List.mem_of_getElem? (i := 24) rfl))) Via.refl e1 S_IN_DOUBT (g := (mkF m 4 #[.val (.ref s_PRE_ABORTED)] [(.ref s_IN_DOUBT)])) rfl (hb hby d3_4)
  obtain ⟨fs, hr, hrun, hended, hW, hsame⟩ := X2.leave (v := some (.int (1 : Int32))) (fun h => by rw [Bd.returns] at h; cases h)
  refine ⟨_, _, pre0 _ ?_, hrun, hended, _, _, rfl, ?_, ⟨_, rfl⟩, hW, hsame.mono (by decide) (by decide)⟩
  · show Steps p.tables e below (s₁.setTop (mkF m 0 #[.val (.ref s_PRE_ABORTED)] [])) _
    refine XS.aloadN X0.here hx rfl (hb hby d3_0) rfl rfl ?_
    show Steps p.tables e below (s₁.setTop (mkF m 1 #[.val (.ref s_PRE_ABORTED)] [(.ref s_PRE_ABORTED)])) _
    refine st1 _ ?_
    show Steps p.tables e below (T1.setTop (mkF m 4 #[.val (.ref s_PRE_ABORTED)] [(.ref s_IN_DOUBT)])) _
    refine st2 _ ?_
    show Steps p.tables e below (T2.setTop (mkF m 7 #[.val (.ref s_PRE_ABORTED)] [(.ref s_IN_DOUBT), (.ref s_IN_DOUBT)])) _
    refine Jvm.RoadKit.acmp (g := (mkF m 7 #[.val (.ref s_PRE_ABORTED)] [(.ref s_IN_DOUBT), (.ref s_IN_DOUBT)])) X2 hx rfl rfl rfl (pc0 := 7) (pc' := 10) (same := true) rfl (hb hby d3_7) rfl (decide_eq_true rfl) (by decide) (by decide) ?_
    show Steps p.tables e below (T2.setTop (mkF m 10 #[.val (.ref s_PRE_ABORTED)] [])) _
    refine XS.iconst X2.here hx rfl (hb hby d3_10) ?_
    show Steps p.tables e below (T2.setTop (mkF m 11 #[.val (.ref s_PRE_ABORTED)] [(.int (1 : Int32))])) _
    refine XS.goto X2.here hx rfl (pc0 := 11) (pc' := 15) rfl (hb hby d3_11) (by decide) (by decide) ?_
    show Steps p.tables e below (T2.setTop (mkF m 15 #[.val (.ref s_PRE_ABORTED)] [(.int (1 : Int32))])) _
    exact retN X2 hx (t := .boolean) Bd.returns (by simp) (hb hby d3_15) hr
  · show own_Q (some (.int (1 : Int32))) h0 n0 _ T2.heap _
    rw [e2]
    exact ⟨rfl, N0, rfl⟩
set_option maxRecDepth 65536 in
set_option maxHeartbeats 40000000 in
theorem r_aw_3 (l : Launch) (Z : State) (a0 : Array Value) (hw : ∀ d ∈ tables_1, d.before a0 Z = true) (ws : List Jvm.Cond) (s_PREPARED s_IN_DOUBT s_Outcome_COMMITTED s_HEURISTICALLY_ABORTED s_HEURISTICALLY_COMMITTED s_Joined_State_COMMITTED s_HEURISTIC_ABORT s_HEURISTIC_COMMIT s_COMMITTED_AGAINST_HEURISTIC s_HEURISTIC_MISMATCH s_COMMITTED_IN_ONE_PHASE s_TxnStatus_COMMITTED s_ABORTED_AGAINST_HEURISTIC s_Outcome_ABORTED s_PRE_ABORTED s_PRE_COMMITTED s_Joined_State_ABORTED s_TxnStatus_ABORTED : Addr) (h0 : Heap) (n0 : Nat) (Z0 : n0 ≤ h0.size) (G : own_Ctx Z h0 s_PREPARED s_IN_DOUBT s_Outcome_COMMITTED s_HEURISTICALLY_ABORTED s_HEURISTICALLY_COMMITTED s_Joined_State_COMMITTED s_HEURISTIC_ABORT s_HEURISTIC_COMMIT s_COMMITTED_AGAINST_HEURISTIC s_HEURISTIC_MISMATCH s_COMMITTED_IN_ONE_PHASE s_TxnStatus_COMMITTED s_ABORTED_AGAINST_HEURISTIC s_Outcome_ABORTED s_PRE_ABORTED s_PRE_COMMITTED s_Joined_State_ABORTED s_TxnStatus_ABORTED)   :
    MetFree l (⟨"com/example/unanimity/unanimity/core/Joined$State", "awaitsDecision", "()Z"⟩ : MethodName) (head1 (Jvm.Cond.code (⟨"com/example/unanimity/unanimity/core/Joined$State", "awaitsDecision", "()Z"⟩ : MethodName) prog_7_method_5_code 1 (some .boolean) :: ws) ({ frames := 0, cells := 0, slots := 0, locals := 0 } : Room)) (fun a U => a = #[(.ref s_HEURISTICALLY_COMMITTED)] ∧ Z.Warmed39 U.vm ∧ U.heap = h0) (fun _ _ _ _ _ => True) (fun _ U o U' => ∃ v L, o = .returned v ∧ own_Q (some (.int (1 : Int32))) h0 n0 v U'.heap L ∧ FrameEnd U o U' L ({ frames := 0, cells := 0, slots := 0, locals := 0 } : Room).cells ({ frames := 0, cells := 0, slots := 0, locals := 0 } : Room).slots) := by
  have G0 := G
  obtain ⟨S_PREPARED, E_PREPARED, O_PREPARED, S_IN_DOUBT, E_IN_DOUBT, O_IN_DOUBT, S_Outcome_COMMITTED, E_Outcome_COMMITTED, O_Outcome_COMMITTED, S_HEURISTICALLY_ABORTED, E_HEURISTICALLY_ABORTED, O_HEURISTICALLY_ABORTED, S_HEURISTICALLY_COMMITTED, E_HEURISTICALLY_COMMITTED, O_HEURISTICALLY_COMMITTED, S_Joined_State_COMMITTED, E_Joined_State_COMMITTED, S_HEURISTIC_ABORT, E_HEURISTIC_ABORT, O_HEURISTIC_ABORT, S_HEURISTIC_COMMIT, E_HEURISTIC_COMMIT, O_HEURISTIC_COMMIT, S_COMMITTED_AGAINST_HEURISTIC, E_COMMITTED_AGAINST_HEURISTIC, S_HEURISTIC_MISMATCH, E_HEURISTIC_MISMATCH, O_HEURISTIC_MISMATCH, S_COMMITTED_IN_ONE_PHASE, E_COMMITTED_IN_ONE_PHASE, S_TxnStatus_COMMITTED, E_TxnStatus_COMMITTED, O_TxnStatus_COMMITTED, S_ABORTED_AGAINST_HEURISTIC, E_ABORTED_AGAINST_HEURISTIC, S_Outcome_ABORTED, E_Outcome_ABORTED, O_Outcome_ABORTED, S_PRE_ABORTED, E_PRE_ABORTED, O_PRE_ABORTED, S_PRE_COMMITTED, E_PRE_COMMITTED, O_PRE_COMMITTED, S_Joined_State_ABORTED, E_Joined_State_ABORTED, S_TxnStatus_ABORTED, E_TxnStatus_ABORTED, O_TxnStatus_ABORTED, F_decision_PREPARED, F_status_PREPARED, F_decision_Joined_State_COMMITTED, F_decision_HEURISTICALLY_ABORTED, F_status_HEURISTICALLY_ABORTED, F_decision_COMMITTED_AGAINST_HEURISTIC, F_status_COMMITTED_AGAINST_HEURISTIC, F_decision_COMMITTED_IN_ONE_PHASE, F_status_COMMITTED_IN_ONE_PHASE, F_decision_ABORTED_AGAINST_HEURISTIC, F_status_ABORTED_AGAINST_HEURISTIC, F_decision_PRE_ABORTED, F_status_PRE_ABORTED, F_decision_HEURISTICALLY_COMMITTED, F_status_HEURISTICALLY_COMMITTED, F_decision_PRE_COMMITTED, F_status_PRE_COMMITTED, F_decision_Joined_State_ABORTED, F_status_Joined_State_COMMITTED, F_status_Joined_State_ABORTED⟩ := G
  refine MetFree.of_bodySF (plainFor_of_name pn_0) hisR ?_
  intro p e s m args below meth c s₁ Bd hml0 hP hK
  obtain ⟨rfl, hZ, hh⟩ := hP
  have hx := Bd.exec
  have hby := Bd.bytes
  have hml : c.maxLocals = 1 := hml0
  have hown : s.vm.findClass "com/example/unanimity/unanimity/core/Joined$State" = some m.cls := findClass_of_methodNamed Bd.named
  have hnm := (name_of_methodNamed Bd.named Bd.method).1
  have X0 : Stand p l e ({ frames := 0, cells := 0, slots := 0, locals := 0 } : Room) s m #[(.ref s_HEURISTICALLY_COMMITTED)] below meth c s₁ [] 0 0 := Stand.of_body Bd
  have e0 : s₁.heap = h0 := by rw [← hh, Bd.state]; rfl
  have N0 := Fr.nil n0
  have pre0 : ∀ t, Steps p.tables e below (s₁.setTop (mkF m 0 #[.val (.ref s_HEURISTICALLY_COMMITTED)] [])) t → Steps p.tables e below (s₁.setTop (entryFrame m #[(.ref s_HEURISTICALLY_COMMITTED)] 1)) t := fun t k => castTop (ef_2_0 m s_HEURISTICALLY_COMMITTED) k
  obtain ⟨T1, X1, e1, st1⟩ := getF X0 hx hZ hown (host := "") (Or.inl (hw _ (List.mem_of_getElem? (i := 13) rfl))) Via.refl e0 F_decision_HEURISTICALLY_COMMITTED (g := (mkF m 1 #[.val (.ref s_HEURISTICALLY_COMMITTED)] [(.ref s_HEURISTICALLY_COMMITTED)])) rfl rfl (hb hby d2_1)
  obtain ⟨fs, hr, hrun, hended, hW, hsame⟩ := X1.leave (v := some (.int (1 : Int32))) (fun h => by rw [Bd.returns] at h; cases h)
  refine ⟨_, _, pre0 _ ?_, hrun, hended, _, _, rfl, ?_, ⟨_, rfl⟩, hW, hsame.mono (by decide) (by decide)⟩
  · show Steps p.tables e below (s₁.setTop (mkF m 0 #[.val (.ref s_HEURISTICALLY_COMMITTED)] [])) _
    refine XS.aloadN X0.here hx rfl (hb hby d2_0) rfl rfl ?_
    show Steps p.tables e below (s₁.setTop (mkF m 1 #[.val (.ref s_HEURISTICALLY_COMMITTED)] [(.ref s_HEURISTICALLY_COMMITTED)])) _
    refine st1 _ ?_
    show Steps p.tables e below (T1.setTop (mkF m 4 #[.val (.ref s_HEURISTICALLY_COMMITTED)] [.null])) _
    refine XS.ifnonnullNo X1.here hx rfl (hb hby d2_4) rfl ?_
    show Steps p.tables e below (T1.setTop (mkF m 7 #[.val (.ref s_HEURISTICALLY_COMMITTED)] [])) _
    refine XS.iconst X1.here hx rfl (hb hby d2_7) ?_
    show Steps p.tables e below (T1.setTop (mkF m 8 #[.val (.ref s_HEURISTICALLY_COMMITTED)] [(.int (1 : Int32))])) _
    refine XS.goto X1.here hx rfl (pc0 := 8) (pc' := 12) rfl (hb hby d2_8) (by decide) (by decide) ?_
    show Steps p.tables e below (T1.setTop (mkF m 12 #[.val (.ref s_HEURISTICALLY_COMMITTED)] [(.int (1 : Int32))])) _
    exact retN X1 hx (t := .boolean) Bd.returns (by simp) (hb hby d2_12) hr
  · show own_Q (some (.int (1 : Int32))) h0 n0 _ T1.heap _
    rw [e1]
    exact ⟨rfl, N0, rfl⟩
theorem d3_14 : decode prog_7_method_4_code 14 = .ok (.iconst 0, 1) := by decide +kernel
set_option maxRecDepth 65536 in
set_option maxHeartbeats 40000000 in
theorem r_in_3 (l : Launch) (Z : State) (a0 : Array Value) (hw : ∀ d ∈ tables_1, d.before a0 Z = true) (ws : List Jvm.Cond) (s_PREPARED s_IN_DOUBT s_Outcome_COMMITTED s_HEURISTICALLY_ABORTED s_HEURISTICALLY_COMMITTED s_Joined_State_COMMITTED s_HEURISTIC_ABORT s_HEURISTIC_COMMIT s_COMMITTED_AGAINST_HEURISTIC s_HEURISTIC_MISMATCH s_COMMITTED_IN_ONE_PHASE s_TxnStatus_COMMITTED s_ABORTED_AGAINST_HEURISTIC s_Outcome_ABORTED s_PRE_ABORTED s_PRE_COMMITTED s_Joined_State_ABORTED s_TxnStatus_ABORTED : Addr) (h0 : Heap) (n0 : Nat) (Z0 : n0 ≤ h0.size) (G : own_Ctx Z h0 s_PREPARED s_IN_DOUBT s_Outcome_COMMITTED s_HEURISTICALLY_ABORTED s_HEURISTICALLY_COMMITTED s_Joined_State_COMMITTED s_HEURISTIC_ABORT s_HEURISTIC_COMMIT s_COMMITTED_AGAINST_HEURISTIC s_HEURISTIC_MISMATCH s_COMMITTED_IN_ONE_PHASE s_TxnStatus_COMMITTED s_ABORTED_AGAINST_HEURISTIC s_Outcome_ABORTED s_PRE_ABORTED s_PRE_COMMITTED s_Joined_State_ABORTED s_TxnStatus_ABORTED)   :
    MetFree l (⟨"com/example/unanimity/unanimity/core/Joined$State", "inDoubt", "()Z"⟩ : MethodName) (head1 (Jvm.Cond.code (⟨"com/example/unanimity/unanimity/core/Joined$State", "inDoubt", "()Z"⟩ : MethodName) prog_7_method_4_code 1 (some .boolean) :: ws) ({ frames := 0, cells := 0, slots := 0, locals := 0 } : Room)) (fun a U => a = #[(.ref s_HEURISTICALLY_COMMITTED)] ∧ Z.Warmed39 U.vm ∧ U.heap = h0) (fun _ _ _ _ _ => True) (fun _ U o U' => ∃ v L, o = .returned v ∧ own_Q (some (.int (0 : Int32))) h0 n0 v U'.heap L ∧ FrameEnd U o U' L ({ frames := 0, cells := 0, slots := 0, locals := 0 } : Room).cells ({ frames := 0, cells := 0, slots := 0, locals := 0 } : Room).slots) := by
  have G0 := G
  obtain ⟨S_PREPARED, E_PREPARED, O_PREPARED, S_IN_DOUBT, E_IN_DOUBT, O_IN_DOUBT, S_Outcome_COMMITTED, E_Outcome_COMMITTED, O_Outcome_COMMITTED, S_HEURISTICALLY_ABORTED, E_HEURISTICALLY_ABORTED, O_HEURISTICALLY_ABORTED, S_HEURISTICALLY_COMMITTED, E_HEURISTICALLY_COMMITTED, O_HEURISTICALLY_COMMITTED, S_Joined_State_COMMITTED, E_Joined_State_COMMITTED, S_HEURISTIC_ABORT, E_HEURISTIC_ABORT, O_HEURISTIC_ABORT, S_HEURISTIC_COMMIT, E_HEURISTIC_COMMIT, O_HEURISTIC_COMMIT, S_COMMITTED_AGAINST_HEURISTIC, E_COMMITTED_AGAINST_HEURISTIC, S_HEURISTIC_MISMATCH, E_HEURISTIC_MISMATCH, O_HEURISTIC_MISMATCH, S_COMMITTED_IN_ONE_PHASE, E_COMMITTED_IN_ONE_PHASE, S_TxnStatus_COMMITTED, E_TxnStatus_COMMITTED, O_TxnStatus_COMMITTED, S_ABORTED_AGAINST_HEURISTIC, E_ABORTED_AGAINST_HEURISTIC, S_Outcome_ABORTED, E_Outcome_ABORTED, O_Outcome_ABORTED, S_PRE_ABORTED, E_PRE_ABORTED, O_PRE_ABORTED, S_PRE_COMMITTED, E_PRE_COMMITTED, O_PRE_COMMITTED, S_Joined_State_ABORTED, E_Joined_State_ABORTED, S_TxnStatus_ABORTED, E_TxnStatus_ABORTED, O_TxnStatus_ABORTED, F_decision_PREPARED, F_status_PREPARED, F_decision_Joined_State_COMMITTED, F_decision_HEURISTICALLY_ABORTED, F_status_HEURISTICALLY_ABORTED, F_decision_COMMITTED_AGAINST_HEURISTIC, F_status_COMMITTED_AGAINST_HEURISTIC, F_decision_COMMITTED_IN_ONE_PHASE, F_status_COMMITTED_IN_ONE_PHASE, F_decision_ABORTED_AGAINST_HEURISTIC, F_status_ABORTED_AGAINST_HEURISTIC, F_decision_PRE_ABORTED, F_status_PRE_ABORTED, F_decision_HEURISTICALLY_COMMITTED, F_status_HEURISTICALLY_COMMITTED, F_decision_PRE_COMMITTED, F_status_PRE_COMMITTED, F_decision_Joined_State_ABORTED, F_status_Joined_State_COMMITTED, F_status_Joined_State_ABORTED⟩ := G
  refine MetFree.of_bodySF (plainFor_of_name pn_0) hisR ?_
  intro p e s m args below meth c s₁ Bd hml0 hP hK
  obtain ⟨rfl, hZ, hh⟩ := hP
  have hx := Bd.exec
  have hby := Bd.bytes
  have hml : c.maxLocals = 1 := hml0
  have hown : s.vm.findClass "com/example/unanimity/unanimity/core/Joined$State" = some m.cls := findClass_of_methodNamed Bd.named
  have hnm := (name_of_methodNamed Bd.named Bd.method).1
  have X0 : Stand p l e ({ frames := 0, cells := 0, slots := 0, locals := 0 } : Room) s m #[(.ref s_HEURISTICALLY_COMMITTED)] below meth c s₁ [] 0 0 := Stand.of_body Bd
  have e0 : s₁.heap = h0 := by rw [← hh, Bd.state]; rfl
  have N0 := Fr.nil n0
  have pre0 : ∀ t, Steps p.tables e below (s₁.setTop (mkF m 0 #[.val (.ref s_HEURISTICALLY_COMMITTED)] [])) t → Steps p.tables e below (s₁.setTop (entryFrame m #[(.ref s_HEURISTICALLY_COMMITTED)] 1)) t := fun t k => castTop (ef_3_1 m s_HEURISTICALLY_COMMITTED) k
  obtain ⟨T1, X1, e1, st1⟩ := getF X0 hx hZ hown (host := "") (Or.inl (hw _ (List.mem_of_getElem? (i := 20) rfl))) Via.refl e0 F_status_HEURISTICALLY_COMMITTED (g := (mkF m 1 #[.val (.ref s_HEURISTICALLY_COMMITTED)] [(.ref s_HEURISTICALLY_COMMITTED)])) rfl rfl (hb hby d3_1)
  obtain ⟨T2, X2, e2, st2⟩ := getS2 X1 hx hZ hown (host := "") (Or.inl (hw _ (List.mem_of_getElem? (i := 24) rfl))) Via.refl e1 S_IN_DOUBT (g := (mkF m 4 #[.val (.ref s_HEURISTICALLY_COMMITTED)] [(.ref s_HEURISTIC_COMMIT)])) rfl (hb hby d3_4)
  obtain ⟨fs, hr, hrun, hended, hW, hsame⟩ := X2.leave (v := some (.int (0 : Int32))) (fun h => by rw [Bd.returns] at h; cases h)
  refine ⟨_, _, pre0 _ ?_, hrun, hended, _, _, rfl, ?_, ⟨_, rfl⟩, hW, hsame.mono (by decide) (by decide)⟩
  · show Steps p.tables e below (s₁.setTop (mkF m 0 #[.val (.ref s_HEURISTICALLY_COMMITTED)] [])) _
    refine XS.aloadN X0.here hx rfl (hb hby d3_0) rfl rfl ?_
    show Steps p.tables e below (s₁.setTop (mkF m 1 #[.val (.ref s_HEURISTICALLY_COMMITTED)] [(.ref s_HEURISTICALLY_COMMITTED)])) _
    refine st1 _ ?_
    show Steps p.tables e below (T1.setTop (mkF m 4 #[.val (.ref s_HEURISTICALLY_COMMITTED)] [(.ref s_HEURISTIC_COMMIT)])) _
    refine st2 _ ?_
    show Steps p.tables e below (T2.setTop (mkF m 7 #[.val (.ref s_HEURISTICALLY_COMMITTED)] [(.ref s_IN_DOUBT), (.ref s_HEURISTIC_COMMIT)])) _
    refine Jvm.RoadKit.acmp (g := (mkF m 7 #[.val (.ref s_HEURISTICALLY_COMMITTED)] [(.ref s_IN_DOUBT), (.ref s_HEURISTIC_COMMIT)])) X2 hx rfl rfl rfl (pc0 := 7) (pc' := 14) (same := false) rfl (hb hby d3_7) rfl (decide_eq_false fun q => (Fld.ne O_HEURISTIC_COMMIT O_IN_DOUBT (fun q => absurd (Value.int.inj q) (by decide))) (Value.ref.inj q)) (by decide) (by decide) ?_
    show Steps p.tables e below (T2.setTop (mkF m 14 #[.val (.ref s_HEURISTICALLY_COMMITTED)] [])) _
    refine XS.iconst X2.here hx rfl (hb hby d3_14) ?_
    show Steps p.tables e below (T2.setTop (mkF m 15 #[.val (.ref s_HEURISTICALLY_COMMITTED)] [(.int (0 : Int32))])) _
    exact retN X2 hx (t := .boolean) Bd.returns (by simp) (hb hby d3_15) hr
  · show own_Q (some (.int (0 : Int32))) h0 n0 _ T2.heap _
    rw [e2]
    exact ⟨rfl, N0, rfl⟩
set_option maxRecDepth 65536 in
set_option maxHeartbeats 40000000 in
theorem r_aw_4 (l : Launch) (Z : State) (a0 : Array Value) (hw : ∀ d ∈ tables_1, d.before a0 Z = true) (ws : List Jvm.Cond) (s_PREPARED s_IN_DOUBT s_Outcome_COMMITTED s_HEURISTICALLY_ABORTED s_HEURISTICALLY_COMMITTED s_Joined_State_COMMITTED s_HEURISTIC_ABORT s_HEURISTIC_COMMIT s_COMMITTED_AGAINST_HEURISTIC s_HEURISTIC_MISMATCH s_COMMITTED_IN_ONE_PHASE s_TxnStatus_COMMITTED s_ABORTED_AGAINST_HEURISTIC s_Outcome_ABORTED s_PRE_ABORTED s_PRE_COMMITTED s_Joined_State_ABORTED s_TxnStatus_ABORTED : Addr) (h0 : Heap) (n0 : Nat) (Z0 : n0 ≤ h0.size) (G : own_Ctx Z h0 s_PREPARED s_IN_DOUBT s_Outcome_COMMITTED s_HEURISTICALLY_ABORTED s_HEURISTICALLY_COMMITTED s_Joined_State_COMMITTED s_HEURISTIC_ABORT s_HEURISTIC_COMMIT s_COMMITTED_AGAINST_HEURISTIC s_HEURISTIC_MISMATCH s_COMMITTED_IN_ONE_PHASE s_TxnStatus_COMMITTED s_ABORTED_AGAINST_HEURISTIC s_Outcome_ABORTED s_PRE_ABORTED s_PRE_COMMITTED s_Joined_State_ABORTED s_TxnStatus_ABORTED)   :
    MetFree l (⟨"com/example/unanimity/unanimity/core/Joined$State", "awaitsDecision", "()Z"⟩ : MethodName) (head1 (Jvm.Cond.code (⟨"com/example/unanimity/unanimity/core/Joined$State", "awaitsDecision", "()Z"⟩ : MethodName) prog_7_method_5_code 1 (some .boolean) :: ws) ({ frames := 0, cells := 0, slots := 0, locals := 0 } : Room)) (fun a U => a = #[(.ref s_HEURISTICALLY_ABORTED)] ∧ Z.Warmed39 U.vm ∧ U.heap = h0) (fun _ _ _ _ _ => True) (fun _ U o U' => ∃ v L, o = .returned v ∧ own_Q (some (.int (1 : Int32))) h0 n0 v U'.heap L ∧ FrameEnd U o U' L ({ frames := 0, cells := 0, slots := 0, locals := 0 } : Room).cells ({ frames := 0, cells := 0, slots := 0, locals := 0 } : Room).slots) := by
  have G0 := G
  obtain ⟨S_PREPARED, E_PREPARED, O_PREPARED, S_IN_DOUBT, E_IN_DOUBT, O_IN_DOUBT, S_Outcome_COMMITTED, E_Outcome_COMMITTED, O_Outcome_COMMITTED, S_HEURISTICALLY_ABORTED, E_HEURISTICALLY_ABORTED, O_HEURISTICALLY_ABORTED, S_HEURISTICALLY_COMMITTED, E_HEURISTICALLY_COMMITTED, O_HEURISTICALLY_COMMITTED, S_Joined_State_COMMITTED, E_Joined_State_COMMITTED, S_HEURISTIC_ABORT, E_HEURISTIC_ABORT, O_HEURISTIC_ABORT, S_HEURISTIC_COMMIT, E_HEURISTIC_COMMIT, O_HEURISTIC_COMMIT, S_COMMITTED_AGAINST_HEURISTIC, E_COMMITTED_AGAINST_HEURISTIC, S_HEURISTIC_MISMATCH, E_HEURISTIC_MISMATCH, O_HEURISTIC_MISMATCH, S_COMMITTED_IN_ONE_PHASE, E_COMMITTED_IN_ONE_PHASE, S_TxnStatus_COMMITTED, E_TxnStatus_COMMITTED, O_TxnStatus_COMMITTED, S_ABORTED_AGAINST_HEURISTIC, E_ABORTED_AGAINST_HEURISTIC, S_Outcome_ABORTED, E_Outcome_ABORTED, O_Outcome_ABORTED, S_PRE_ABORTED, E_PRE_ABORTED, O_PRE_ABORTED, S_PRE_COMMITTED, E_PRE_COMMITTED, O_PRE_COMMITTED, S_Joined_State_ABORTED, E_Joined_State_ABORTED, S_TxnStatus_ABORTED, E_TxnStatus_ABORTED, O_TxnStatus_ABORTED, F_decision_PREPARED, F_status_PREPARED, F_decision_Joined_State_COMMITTED, F_decision_HEURISTICALLY_ABORTED, F_status_HEURISTICALLY_ABORTED, F_decision_COMMITTED_AGAINST_HEURISTIC, F_status_COMMITTED_AGAINST_HEURISTIC, F_decision_COMMITTED_IN_ONE_PHASE, F_status_COMMITTED_IN_ONE_PHASE, F_decision_ABORTED_AGAINST_HEURISTIC, F_status_ABORTED_AGAINST_HEURISTIC, F_decision_PRE_ABORTED, F_status_PRE_ABORTED, F_decision_HEURISTICALLY_COMMITTED, F_status_HEURISTICALLY_COMMITTED, F_decision_PRE_COMMITTED, F_status_PRE_COMMITTED, F_decision_Joined_State_ABORTED, F_status_Joined_State_COMMITTED, F_status_Joined_State_ABORTED⟩ := G
  refine MetFree.of_bodySF (plainFor_of_name pn_0) hisR ?_
  intro p e s m args below meth c s₁ Bd hml0 hP hK
  obtain ⟨rfl, hZ, hh⟩ := hP
  have hx := Bd.exec
  have hby := Bd.bytes
  have hml : c.maxLocals = 1 := hml0
  have hown : s.vm.findClass "com/example/unanimity/unanimity/core/Joined$State" = some m.cls := findClass_of_methodNamed Bd.named
  have hnm := (name_of_methodNamed Bd.named Bd.method).1
  have X0 : Stand p l e ({ frames := 0, cells := 0, slots := 0, locals := 0 } : Room) s m #[(.ref s_HEURISTICALLY_ABORTED)] below meth c s₁ [] 0 0 := Stand.of_body Bd
  have e0 : s₁.heap = h0 := by rw [← hh, Bd.state]; rfl
  have N0 := Fr.nil n0
  have pre0 : ∀ t, Steps p.tables e below (s₁.setTop (mkF m 0 #[.val (.ref s_HEURISTICALLY_ABORTED)] [])) t → Steps p.tables e below (s₁.setTop (entryFrame m #[(.ref s_HEURISTICALLY_ABORTED)] 1)) t := fun t k => castTop (ef_2_0 m s_HEURISTICALLY_ABORTED) k
  obtain ⟨T1, X1, e1, st1⟩ := getF X0 hx hZ hown (host := "") (Or.inl (hw _ (List.mem_of_getElem? (i := 13) rfl))) Via.refl e0 F_decision_HEURISTICALLY_ABORTED (g := (mkF m 1 #[.val (.ref s_HEURISTICALLY_ABORTED)] [(.ref s_HEURISTICALLY_ABORTED)])) rfl rfl (hb hby d2_1)
  obtain ⟨fs, hr, hrun, hended, hW, hsame⟩ := X1.leave (v := some (.int (1 : Int32))) (fun h => by rw [Bd.returns] at h; cases h)
  refine ⟨_, _, pre0 _ ?_, hrun, hended, _, _, rfl, ?_, ⟨_, rfl⟩, hW, hsame.mono (by decide) (by decide)⟩
  · show Steps p.tables e below (s₁.setTop (mkF m 0 #[.val (.ref s_HEURISTICALLY_ABORTED)] [])) _
    refine XS.aloadN X0.here hx rfl (hb hby d2_0) rfl rfl ?_
    show Steps p.tables e below (s₁.setTop (mkF m 1 #[.val (.ref s_HEURISTICALLY_ABORTED)] [(.ref s_HEURISTICALLY_ABORTED)])) _
    refine st1 _ ?_
    show Steps p.tables e below (T1.setTop (mkF m 4 #[.val (.ref s_HEURISTICALLY_ABORTED)] [.null])) _
    refine XS.ifnonnullNo X1.here hx rfl (hb hby d2_4) rfl ?_
    show Steps p.tables e below (T1.setTop (mkF m 7 #[.val (.ref s_HEURISTICALLY_ABORTED)] [])) _
    refine XS.iconst X1.here hx rfl (hb hby d2_7) ?_
    show Steps p.tables e below (T1.setTop (mkF m 8 #[.val (.ref s_HEURISTICALLY_ABORTED)] [(.int (1 : Int32))])) _
    refine XS.goto X1.here hx rfl (pc0 := 8) (pc' := 12) rfl (hb hby d2_8) (by decide) (by decide) ?_
    show Steps p.tables e below (T1.setTop (mkF m 12 #[.val (.ref s_HEURISTICALLY_ABORTED)] [(.int (1 : Int32))])) _
    exact retN X1 hx (t := .boolean) Bd.returns (by simp) (hb hby d2_12) hr
  · show own_Q (some (.int (1 : Int32))) h0 n0 _ T1.heap _
    rw [e1]
    exact ⟨rfl, N0, rfl⟩
set_option maxRecDepth 65536 in
set_option maxHeartbeats 40000000 in
theorem r_in_4 (l : Launch) (Z : State) (a0 : Array Value) (hw : ∀ d ∈ tables_1, d.before a0 Z = true) (ws : List Jvm.Cond) (s_PREPARED s_IN_DOUBT s_Outcome_COMMITTED s_HEURISTICALLY_ABORTED s_HEURISTICALLY_COMMITTED s_Joined_State_COMMITTED s_HEURISTIC_ABORT s_HEURISTIC_COMMIT s_COMMITTED_AGAINST_HEURISTIC s_HEURISTIC_MISMATCH s_COMMITTED_IN_ONE_PHASE s_TxnStatus_COMMITTED s_ABORTED_AGAINST_HEURISTIC s_Outcome_ABORTED s_PRE_ABORTED s_PRE_COMMITTED s_Joined_State_ABORTED s_TxnStatus_ABORTED : Addr) (h0 : Heap) (n0 : Nat) (Z0 : n0 ≤ h0.size) (G : own_Ctx Z h0 s_PREPARED s_IN_DOUBT s_Outcome_COMMITTED s_HEURISTICALLY_ABORTED s_HEURISTICALLY_COMMITTED s_Joined_State_COMMITTED s_HEURISTIC_ABORT s_HEURISTIC_COMMIT s_COMMITTED_AGAINST_HEURISTIC s_HEURISTIC_MISMATCH s_COMMITTED_IN_ONE_PHASE s_TxnStatus_COMMITTED s_ABORTED_AGAINST_HEURISTIC s_Outcome_ABORTED s_PRE_ABORTED s_PRE_COMMITTED s_Joined_State_ABORTED s_TxnStatus_ABORTED)   :
    MetFree l (⟨"com/example/unanimity/unanimity/core/Joined$State", "inDoubt", "()Z"⟩ : MethodName) (head1 (Jvm.Cond.code (⟨"com/example/unanimity/unanimity/core/Joined$State", "inDoubt", "()Z"⟩ : MethodName) prog_7_method_4_code 1 (some .boolean) :: ws) ({ frames := 0, cells := 0, slots := 0, locals := 0 } : Room)) (fun a U => a = #[(.ref s_HEURISTICALLY_ABORTED)] ∧ Z.Warmed39 U.vm ∧ U.heap = h0) (fun _ _ _ _ _ => True) (fun _ U o U' => ∃ v L, o = .returned v ∧ own_Q (some (.int (0 : Int32))) h0 n0 v U'.heap L ∧ FrameEnd U o U' L ({ frames := 0, cells := 0, slots := 0, locals := 0 } : Room).cells ({ frames := 0, cells := 0, slots := 0, locals := 0 } : Room).slots) := by
  have G0 := G
  obtain ⟨S_PREPARED, E_PREPARED, O_PREPARED, S_IN_DOUBT, E_IN_DOUBT, O_IN_DOUBT, S_Outcome_COMMITTED, E_Outcome_COMMITTED, O_Outcome_COMMITTED, S_HEURISTICALLY_ABORTED, E_HEURISTICALLY_ABORTED, O_HEURISTICALLY_ABORTED, S_HEURISTICALLY_COMMITTED, E_HEURISTICALLY_COMMITTED, O_HEURISTICALLY_COMMITTED, S_Joined_State_COMMITTED, E_Joined_State_COMMITTED, S_HEURISTIC_ABORT, E_HEURISTIC_ABORT, O_HEURISTIC_ABORT, S_HEURISTIC_COMMIT, E_HEURISTIC_COMMIT, O_HEURISTIC_COMMIT, S_COMMITTED_AGAINST_HEURISTIC, E_COMMITTED_AGAINST_HEURISTIC, S_HEURISTIC_MISMATCH, E_HEURISTIC_MISMATCH, O_HEURISTIC_MISMATCH, S_COMMITTED_IN_ONE_PHASE, E_COMMITTED_IN_ONE_PHASE, S_TxnStatus_COMMITTED, E_TxnStatus_COMMITTED, O_TxnStatus_COMMITTED, S_ABORTED_AGAINST_HEURISTIC, E_ABORTED_AGAINST_HEURISTIC, S_Outcome_ABORTED, E_Outcome_ABORTED, O_Outcome_ABORTED, S_PRE_ABORTED, E_PRE_ABORTED, O_PRE_ABORTED, S_PRE_COMMITTED, E_PRE_COMMITTED, O_PRE_COMMITTED, S_Joined_State_ABORTED, E_Joined_State_ABORTED, S_TxnStatus_ABORTED, E_TxnStatus_ABORTED, O_TxnStatus_ABORTED, F_decision_PREPARED, F_status_PREPARED, F_decision_Joined_State_COMMITTED, F_decision_HEURISTICALLY_ABORTED, F_status_HEURISTICALLY_ABORTED, F_decision_COMMITTED_AGAINST_HEURISTIC, F_status_COMMITTED_AGAINST_HEURISTIC, F_decision_COMMITTED_IN_ONE_PHASE, F_status_COMMITTED_IN_ONE_PHASE, F_decision_ABORTED_AGAINST_HEURISTIC, F_status_ABORTED_AGAINST_HEURISTIC, F_decision_PRE_ABORTED, F_status_PRE_ABORTED, F_decision_HEURISTICALLY_COMMITTED, F_status_HEURISTICALLY_COMMITTED, F_decision_PRE_COMMITTED, F_status_PRE_COMMITTED, F_decision_Joined_State_ABORTED, F_status_Joined_State_COMMITTED, F_status_Joined_State_ABORTED⟩ := G
  refine MetFree.of_bodySF (plainFor_of_name pn_0) hisR ?_
  intro p e s m args below meth c s₁ Bd hml0 hP hK
  obtain ⟨rfl, hZ, hh⟩ := hP
  have hx := Bd.exec
  have hby := Bd.bytes
  have hml : c.maxLocals = 1 := hml0
  have hown : s.vm.findClass "com/example/unanimity/unanimity/core/Joined$State" = some m.cls := findClass_of_methodNamed Bd.named
  have hnm := (name_of_methodNamed Bd.named Bd.method).1
  have X0 : Stand p l e ({ frames := 0, cells := 0, slots := 0, locals := 0 } : Room) s m #[(.ref s_HEURISTICALLY_ABORTED)] below meth c s₁ [] 0 0 := Stand.of_body Bd
  have e0 : s₁.heap = h0 := by rw [← hh, Bd.state]; rfl
  have N0 := Fr.nil n0
  have pre0 : ∀ t, Steps p.tables e below (s₁.setTop (mkF m 0 #[.val (.ref s_HEURISTICALLY_ABORTED)] [])) t → Steps p.tables e below (s₁.setTop (entryFrame m #[(.ref s_HEURISTICALLY_ABORTED)] 1)) t := fun t k => castTop (ef_3_1 m s_HEURISTICALLY_ABORTED) k
  obtain ⟨T1, X1, e1, st1⟩ := getF X0 hx hZ hown (host := "") (Or.inl (hw _ (List.mem_of_getElem? (i := 20) rfl))) Via.refl e0 F_status_HEURISTICALLY_ABORTED (g := (mkF m 1 #[.val (.ref s_HEURISTICALLY_ABORTED)] [(.ref s_HEURISTICALLY_ABORTED)])) rfl rfl (hb hby d3_1)
  obtain ⟨T2, X2, e2, st2⟩ := getS2 X1 hx hZ hown (host := "") (Or.inl (hw _ (List.mem_of_getElem? (i := 24) rfl))) Via.refl e1 S_IN_DOUBT (g := (mkF m 4 #[.val (.ref s_HEURISTICALLY_ABORTED)] [(.ref s_HEURISTIC_ABORT)])) rfl (hb hby d3_4)
  obtain ⟨fs, hr, hrun, hended, hW, hsame⟩ := X2.leave (v := some (.int (0 : Int32))) (fun h => by rw [Bd.returns] at h; cases h)
  refine ⟨_, _, pre0 _ ?_, hrun, hended, _, _, rfl, ?_, ⟨_, rfl⟩, hW, hsame.mono (by decide) (by decide)⟩
  · show Steps p.tables e below (s₁.setTop (mkF m 0 #[.val (.ref s_HEURISTICALLY_ABORTED)] [])) _
    refine XS.aloadN X0.here hx rfl (hb hby d3_0) rfl rfl ?_
    show Steps p.tables e below (s₁.setTop (mkF m 1 #[.val (.ref s_HEURISTICALLY_ABORTED)] [(.ref s_HEURISTICALLY_ABORTED)])) _
    refine st1 _ ?_
    show Steps p.tables e below (T1.setTop (mkF m 4 #[.val (.ref s_HEURISTICALLY_ABORTED)] [(.ref s_HEURISTIC_ABORT)])) _
    refine st2 _ ?_
    show Steps p.tables e below (T2.setTop (mkF m 7 #[.val (.ref s_HEURISTICALLY_ABORTED)] [(.ref s_IN_DOUBT), (.ref s_HEURISTIC_ABORT)])) _
    refine Jvm.RoadKit.acmp (g := (mkF m 7 #[.val (.ref s_HEURISTICALLY_ABORTED)] [(.ref s_IN_DOUBT), (.ref s_HEURISTIC_ABORT)])) X2 hx rfl rfl rfl (pc0 := 7) (pc' := 14) (same := false) rfl (hb hby d3_7) rfl (decide_eq_false fun q => (Fld.ne O_HEURISTIC_ABORT O_IN_DOUBT (fun q => absurd (Value.int.inj q) (by decide))) (Value.ref.inj q)) (by decide) (by decide) ?_
    show Steps p.tables e below (T2.setTop (mkF m 14 #[.val (.ref s_HEURISTICALLY_ABORTED)] [])) _
    refine XS.iconst X2.here hx rfl (hb hby d3_14) ?_
    show Steps p.tables e below (T2.setTop (mkF m 15 #[.val (.ref s_HEURISTICALLY_ABORTED)] [(.int (0 : Int32))])) _
    exact retN X2 hx (t := .boolean) Bd.returns (by simp) (hb hby d3_15) hr
  · show own_Q (some (.int (0 : Int32))) h0 n0 _ T2.heap _
    rw [e2]
    exact ⟨rfl, N0, rfl⟩
theorem d2_11 : decode prog_7_method_5_code 11 = .ok (.iconst 0, 1) := by decide +kernel
set_option maxRecDepth 65536 in
set_option maxHeartbeats 40000000 in
theorem r_aw_5 (l : Launch) (Z : State) (a0 : Array Value) (hw : ∀ d ∈ tables_1, d.before a0 Z = true) (ws : List Jvm.Cond) (s_PREPARED s_IN_DOUBT s_Outcome_COMMITTED s_HEURISTICALLY_ABORTED s_HEURISTICALLY_COMMITTED s_Joined_State_COMMITTED s_HEURISTIC_ABORT s_HEURISTIC_COMMIT s_COMMITTED_AGAINST_HEURISTIC s_HEURISTIC_MISMATCH s_COMMITTED_IN_ONE_PHASE s_TxnStatus_COMMITTED s_ABORTED_AGAINST_HEURISTIC s_Outcome_ABORTED s_PRE_ABORTED s_PRE_COMMITTED s_Joined_State_ABORTED s_TxnStatus_ABORTED : Addr) (h0 : Heap) (n0 : Nat) (Z0 : n0 ≤ h0.size) (G : own_Ctx Z h0 s_PREPARED s_IN_DOUBT s_Outcome_COMMITTED s_HEURISTICALLY_ABORTED s_HEURISTICALLY_COMMITTED s_Joined_State_COMMITTED s_HEURISTIC_ABORT s_HEURISTIC_COMMIT s_COMMITTED_AGAINST_HEURISTIC s_HEURISTIC_MISMATCH s_COMMITTED_IN_ONE_PHASE s_TxnStatus_COMMITTED s_ABORTED_AGAINST_HEURISTIC s_Outcome_ABORTED s_PRE_ABORTED s_PRE_COMMITTED s_Joined_State_ABORTED s_TxnStatus_ABORTED)   :
    MetFree l (⟨"com/example/unanimity/unanimity/core/Joined$State", "awaitsDecision", "()Z"⟩ : MethodName) (head1 (Jvm.Cond.code (⟨"com/example/unanimity/unanimity/core/Joined$State", "awaitsDecision", "()Z"⟩ : MethodName) prog_7_method_5_code 1 (some .boolean) :: ws) ({ frames := 0, cells := 0, slots := 0, locals := 0 } : Room)) (fun a U => a = #[(.ref s_Joined_State_COMMITTED)] ∧ Z.Warmed39 U.vm ∧ U.heap = h0) (fun _ _ _ _ _ => True) (fun _ U o U' => ∃ v L, o = .returned v ∧ own_Q (some (.int (0 : Int32))) h0 n0 v U'.heap L ∧ FrameEnd U o U' L ({ frames := 0, cells := 0, slots := 0, locals := 0 } : Room).cells ({ frames := 0, cells := 0, slots := 0, locals := 0 } : Room).slots) := by
  have G0 := G
  obtain ⟨S_PREPARED, E_PREPARED, O_PREPARED, S_IN_DOUBT, E_IN_DOUBT, O_IN_DOUBT, S_Outcome_COMMITTED, E_Outcome_COMMITTED, O_Outcome_COMMITTED, S_HEURISTICALLY_ABORTED, E_HEURISTICALLY_ABORTED, O_HEURISTICALLY_ABORTED, S_HEURISTICALLY_COMMITTED, E_HEURISTICALLY_COMMITTED, O_HEURISTICALLY_COMMITTED, S_Joined_State_COMMITTED, E_Joined_State_COMMITTED, S_HEURISTIC_ABORT, E_HEURISTIC_ABORT, O_HEURISTIC_ABORT, S_HEURISTIC_COMMIT, E_HEURISTIC_COMMIT, O_HEURISTIC_COMMIT, S_COMMITTED_AGAINST_HEURISTIC, E_COMMITTED_AGAINST_HEURISTIC, S_HEURISTIC_MISMATCH, E_HEURISTIC_MISMATCH, O_HEURISTIC_MISMATCH, S_COMMITTED_IN_ONE_PHASE, E_COMMITTED_IN_ONE_PHASE, S_TxnStatus_COMMITTED, E_TxnStatus_COMMITTED, O_TxnStatus_COMMITTED, S_ABORTED_AGAINST_HEURISTIC, E_ABORTED_AGAINST_HEURISTIC, S_Outcome_ABORTED, E_Outcome_ABORTED, O_Outcome_ABORTED, S_PRE_ABORTED, E_PRE_ABORTED, O_PRE_ABORTED, S_PRE_COMMITTED, E_PRE_COMMITTED, O_PRE_COMMITTED, S_Joined_State_ABORTED, E_Joined_State_ABORTED, S_TxnStatus_ABORTED, E_TxnStatus_ABORTED, O_TxnStatus_ABORTED, F_decision_PREPARED, F_status_PREPARED, F_decision_Joined_State_COMMITTED, F_decision_HEURISTICALLY_ABORTED, F_status_HEURISTICALLY_ABORTED, F_decision_COMMITTED_AGAINST_HEURISTIC, F_status_COMMITTED_AGAINST_HEURISTIC, F_decision_COMMITTED_IN_ONE_PHASE, F_status_COMMITTED_IN_ONE_PHASE, F_decision_ABORTED_AGAINST_HEURISTIC, F_status_ABORTED_AGAINST_HEURISTIC, F_decision_PRE_ABORTED, F_status_PRE_ABORTED, F_decision_HEURISTICALLY_COMMITTED, F_status_HEURISTICALLY_COMMITTED, F_decision_PRE_COMMITTED, F_status_PRE_COMMITTED, F_decision_Joined_State_ABORTED, F_status_Joined_State_COMMITTED, F_status_Joined_State_ABORTED⟩ := G
  refine MetFree.of_bodySF (plainFor_of_name pn_0) hisR ?_
  intro p e s m args below meth c s₁ Bd hml0 hP hK
  obtain ⟨rfl, hZ, hh⟩ := hP
  have hx := Bd.exec
  have hby := Bd.bytes
  have hml : c.maxLocals = 1 := hml0
  have hown : s.vm.findClass "com/example/unanimity/unanimity/core/Joined$State" = some m.cls := findClass_of_methodNamed Bd.named
  have hnm := (name_of_methodNamed Bd.named Bd.method).1
  have X0 : Stand p l e ({ frames := 0, cells := 0, slots := 0, locals := 0 } : Room) s m #[(.ref s_Joined_State_COMMITTED)] below meth c s₁ [] 0 0 := Stand.of_body Bd
  have e0 : s₁.heap = h0 := by rw [← hh, Bd.state]; rfl
  have N0 := Fr.nil n0
  have pre0 : ∀ t, Steps p.tables e below (s₁.setTop (mkF m 0 #[.val (.ref s_Joined_State_COMMITTED)] [])) t → Steps p.tables e below (s₁.setTop (entryFrame m #[(.ref s_Joined_State_COMMITTED)] 1)) t := fun t k => castTop (ef_2_0 m s_Joined_State_COMMITTED) k
  obtain ⟨T1, X1, e1, st1⟩ := getF X0 hx hZ hown (host := "") (Or.inl (hw _ (List.mem_of_getElem? (i := 13) rfl))) Via.refl e0 F_decision_Joined_State_COMMITTED (g := (mkF m 1 #[.val (.ref s_Joined_State_COMMITTED)] [(.ref s_Joined_State_COMMITTED)])) rfl rfl (hb hby d2_1)
  obtain ⟨fs, hr, hrun, hended, hW, hsame⟩ := X1.leave (v := some (.int (0 : Int32))) (fun h => by rw [Bd.returns] at h; cases h)
  refine ⟨_, _, pre0 _ ?_, hrun, hended, _, _, rfl, ?_, ⟨_, rfl⟩, hW, hsame.mono (by decide) (by decide)⟩
  · show Steps p.tables e below (s₁.setTop (mkF m 0 #[.val (.ref s_Joined_State_COMMITTED)] [])) _
    refine XS.aloadN X0.here hx rfl (hb hby d2_0) rfl rfl ?_
    show Steps p.tables e below (s₁.setTop (mkF m 1 #[.val (.ref s_Joined_State_COMMITTED)] [(.ref s_Joined_State_COMMITTED)])) _
    refine st1 _ ?_
    show Steps p.tables e below (T1.setTop (mkF m 4 #[.val (.ref s_Joined_State_COMMITTED)] [(.ref s_Outcome_COMMITTED)])) _
    refine XS.ifnonnullYes X1.here hx rfl (pc0 := 4) (pc' := 11) rfl (hb hby d2_4) rfl (by decide) (by decide) ?_
    show Steps p.tables e below (T1.setTop (mkF m 11 #[.val (.ref s_Joined_State_COMMITTED)] [])) _
    refine XS.iconst X1.here hx rfl (hb hby d2_11) ?_
    show Steps p.tables e below (T1.setTop (mkF m 12 #[.val (.ref s_Joined_State_COMMITTED)] [(.int (0 : Int32))])) _
    exact retN X1 hx (t := .boolean) Bd.returns (by simp) (hb hby d2_12) hr
  · show own_Q (some (.int (0 : Int32))) h0 n0 _ T1.heap _
    rw [e1]
    exact ⟨rfl, N0, rfl⟩
set_option maxRecDepth 65536 in
set_option maxHeartbeats 40000000 in
theorem r_in_5 (l : Launch) (Z : State) (a0 : Array Value) (hw : ∀ d ∈ tables_1, d.before a0 Z = true) (ws : List Jvm.Cond) (s_PREPARED s_IN_DOUBT s_Outcome_COMMITTED s_HEURISTICALLY_ABORTED s_HEURISTICALLY_COMMITTED s_Joined_State_COMMITTED s_HEURISTIC_ABORT s_HEURISTIC_COMMIT s_COMMITTED_AGAINST_HEURISTIC s_HEURISTIC_MISMATCH s_COMMITTED_IN_ONE_PHASE s_TxnStatus_COMMITTED s_ABORTED_AGAINST_HEURISTIC s_Outcome_ABORTED s_PRE_ABORTED s_PRE_COMMITTED s_Joined_State_ABORTED s_TxnStatus_ABORTED : Addr) (h0 : Heap) (n0 : Nat) (Z0 : n0 ≤ h0.size) (G : own_Ctx Z h0 s_PREPARED s_IN_DOUBT s_Outcome_COMMITTED s_HEURISTICALLY_ABORTED s_HEURISTICALLY_COMMITTED s_Joined_State_COMMITTED s_HEURISTIC_ABORT s_HEURISTIC_COMMIT s_COMMITTED_AGAINST_HEURISTIC s_HEURISTIC_MISMATCH s_COMMITTED_IN_ONE_PHASE s_TxnStatus_COMMITTED s_ABORTED_AGAINST_HEURISTIC s_Outcome_ABORTED s_PRE_ABORTED s_PRE_COMMITTED s_Joined_State_ABORTED s_TxnStatus_ABORTED)   :
    MetFree l (⟨"com/example/unanimity/unanimity/core/Joined$State", "inDoubt", "()Z"⟩ : MethodName) (head1 (Jvm.Cond.code (⟨"com/example/unanimity/unanimity/core/Joined$State", "inDoubt", "()Z"⟩ : MethodName) prog_7_method_4_code 1 (some .boolean) :: ws) ({ frames := 0, cells := 0, slots := 0, locals := 0 } : Room)) (fun a U => a = #[(.ref s_Joined_State_COMMITTED)] ∧ Z.Warmed39 U.vm ∧ U.heap = h0) (fun _ _ _ _ _ => True) (fun _ U o U' => ∃ v L, o = .returned v ∧ own_Q (some (.int (0 : Int32))) h0 n0 v U'.heap L ∧ FrameEnd U o U' L ({ frames := 0, cells := 0, slots := 0, locals := 0 } : Room).cells ({ frames := 0, cells := 0, slots := 0, locals := 0 } : Room).slots) := by
  have G0 := G
  obtain ⟨S_PREPARED, E_PREPARED, O_PREPARED, S_IN_DOUBT, E_IN_DOUBT, O_IN_DOUBT, S_Outcome_COMMITTED, E_Outcome_COMMITTED, O_Outcome_COMMITTED, S_HEURISTICALLY_ABORTED, E_HEURISTICALLY_ABORTED, O_HEURISTICALLY_ABORTED, S_HEURISTICALLY_COMMITTED, E_HEURISTICALLY_COMMITTED, O_HEURISTICALLY_COMMITTED, S_Joined_State_COMMITTED, E_Joined_State_COMMITTED, S_HEURISTIC_ABORT, E_HEURISTIC_ABORT, O_HEURISTIC_ABORT, S_HEURISTIC_COMMIT, E_HEURISTIC_COMMIT, O_HEURISTIC_COMMIT, S_COMMITTED_AGAINST_HEURISTIC, E_COMMITTED_AGAINST_HEURISTIC, S_HEURISTIC_MISMATCH, E_HEURISTIC_MISMATCH, O_HEURISTIC_MISMATCH, S_COMMITTED_IN_ONE_PHASE, E_COMMITTED_IN_ONE_PHASE, S_TxnStatus_COMMITTED, E_TxnStatus_COMMITTED, O_TxnStatus_COMMITTED, S_ABORTED_AGAINST_HEURISTIC, E_ABORTED_AGAINST_HEURISTIC, S_Outcome_ABORTED, E_Outcome_ABORTED, O_Outcome_ABORTED, S_PRE_ABORTED, E_PRE_ABORTED, O_PRE_ABORTED, S_PRE_COMMITTED, E_PRE_COMMITTED, O_PRE_COMMITTED, S_Joined_State_ABORTED, E_Joined_State_ABORTED, S_TxnStatus_ABORTED, E_TxnStatus_ABORTED, O_TxnStatus_ABORTED, F_decision_PREPARED, F_status_PREPARED, F_decision_Joined_State_COMMITTED, F_decision_HEURISTICALLY_ABORTED, F_status_HEURISTICALLY_ABORTED, F_decision_COMMITTED_AGAINST_HEURISTIC, F_status_COMMITTED_AGAINST_HEURISTIC, F_decision_COMMITTED_IN_ONE_PHASE, F_status_COMMITTED_IN_ONE_PHASE, F_decision_ABORTED_AGAINST_HEURISTIC, F_status_ABORTED_AGAINST_HEURISTIC, F_decision_PRE_ABORTED, F_status_PRE_ABORTED, F_decision_HEURISTICALLY_COMMITTED, F_status_HEURISTICALLY_COMMITTED, F_decision_PRE_COMMITTED, F_status_PRE_COMMITTED, F_decision_Joined_State_ABORTED, F_status_Joined_State_COMMITTED, F_status_Joined_State_ABORTED⟩ := G
  refine MetFree.of_bodySF (plainFor_of_name pn_0) hisR ?_
  intro p e s m args below meth c s₁ Bd hml0 hP hK
  obtain ⟨rfl, hZ, hh⟩ := hP
  have hx := Bd.exec
  have hby := Bd.bytes
  have hml : c.maxLocals = 1 := hml0
  have hown : s.vm.findClass "com/example/unanimity/unanimity/core/Joined$State" = some m.cls := findClass_of_methodNamed Bd.named
  have hnm := (name_of_methodNamed Bd.named Bd.method).1
  have X0 : Stand p l e ({ frames := 0, cells := 0, slots := 0, locals := 0 } : Room) s m #[(.ref s_Joined_State_COMMITTED)] below meth c s₁ [] 0 0 := Stand.of_body Bd
  have e0 : s₁.heap = h0 := by rw [← hh, Bd.state]; rfl
  have N0 := Fr.nil n0
  have pre0 : ∀ t, Steps p.tables e below (s₁.setTop (mkF m 0 #[.val (.ref s_Joined_State_COMMITTED)] [])) t → Steps p.tables e below (s₁.setTop (entryFrame m #[(.ref s_Joined_State_COMMITTED)] 1)) t := fun t k => castTop (ef_3_1 m s_Joined_State_COMMITTED) k
  obtain ⟨T1, X1, e1, st1⟩ := getF X0 hx hZ hown (host := "") (Or.inl (hw _ (List.mem_of_getElem? (i := 20) rfl))) Via.refl e0 F_status_Joined_State_COMMITTED (g := (mkF m 1 #[.val (.ref s_Joined_State_COMMITTED)] [(.ref s_Joined_State_COMMITTED)])) rfl rfl (hb hby d3_1)
  obtain ⟨T2, X2, e2, st2⟩ := getS2 X1 hx hZ hown (host := "") (Or.inl (hw _ (List.mem_of_getElem? (i := 24) rfl))) Via.refl e1 S_IN_DOUBT (g := (mkF m 4 #[.val (.ref s_Joined_State_COMMITTED)] [(.ref s_TxnStatus_COMMITTED)])) rfl (hb hby d3_4)
  obtain ⟨fs, hr, hrun, hended, hW, hsame⟩ := X2.leave (v := some (.int (0 : Int32))) (fun h => by rw [Bd.returns] at h; cases h)
  refine ⟨_, _, pre0 _ ?_, hrun, hended, _, _, rfl, ?_, ⟨_, rfl⟩, hW, hsame.mono (by decide) (by decide)⟩
  · show Steps p.tables e below (s₁.setTop (mkF m 0 #[.val (.ref s_Joined_State_COMMITTED)] [])) _
    refine XS.aloadN X0.here hx rfl (hb hby d3_0) rfl rfl ?_
    show Steps p.tables e below (s₁.setTop (mkF m 1 #[.val (.ref s_Joined_State_COMMITTED)] [(.ref s_Joined_State_COMMITTED)])) _
    refine st1 _ ?_
    show Steps p.tables e below (T1.setTop (mkF m 4 #[.val (.ref s_Joined_State_COMMITTED)] [(.ref s_TxnStatus_COMMITTED)])) _
    refine st2 _ ?_
    show Steps p.tables e below (T2.setTop (mkF m 7 #[.val (.ref s_Joined_State_COMMITTED)] [(.ref s_IN_DOUBT), (.ref s_TxnStatus_COMMITTED)])) _
    refine Jvm.RoadKit.acmp (g := (mkF m 7 #[.val (.ref s_Joined_State_COMMITTED)] [(.ref s_IN_DOUBT), (.ref s_TxnStatus_COMMITTED)])) X2 hx rfl rfl rfl (pc0 := 7) (pc' := 14) (same := false) rfl (hb hby d3_7) rfl (decide_eq_false fun q => (Fld.ne O_TxnStatus_COMMITTED O_IN_DOUBT (fun q => absurd (Value.int.inj q) (by decide))) (Value.ref.inj q)) (by decide) (by decide) ?_
    show Steps p.tables e below (T2.setTop (mkF m 14 #[.val (.ref s_Joined_State_COMMITTED)] [])) _
    refine XS.iconst X2.here hx rfl (hb hby d3_14) ?_
    show Steps p.tables e below (T2.setTop (mkF m 15 #[.val (.ref s_Joined_State_COMMITTED)] [(.int (0 : Int32))])) _
    exact retN X2 hx (t := .boolean) Bd.returns (by simp) (hb hby d3_15) hr
  · show own_Q (some (.int (0 : Int32))) h0 n0 _ T2.heap _
    rw [e2]
    exact ⟨rfl, N0, rfl⟩
set_option maxRecDepth 65536 in
set_option maxHeartbeats 40000000 in
theorem r_aw_6 (l : Launch) (Z : State) (a0 : Array Value) (hw : ∀ d ∈ tables_1, d.before a0 Z = true) (ws : List Jvm.Cond) (s_PREPARED s_IN_DOUBT s_Outcome_COMMITTED s_HEURISTICALLY_ABORTED s_HEURISTICALLY_COMMITTED s_Joined_State_COMMITTED s_HEURISTIC_ABORT s_HEURISTIC_COMMIT s_COMMITTED_AGAINST_HEURISTIC s_HEURISTIC_MISMATCH s_COMMITTED_IN_ONE_PHASE s_TxnStatus_COMMITTED s_ABORTED_AGAINST_HEURISTIC s_Outcome_ABORTED s_PRE_ABORTED s_PRE_COMMITTED s_Joined_State_ABORTED s_TxnStatus_ABORTED : Addr) (h0 : Heap) (n0 : Nat) (Z0 : n0 ≤ h0.size) (G : own_Ctx Z h0 s_PREPARED s_IN_DOUBT s_Outcome_COMMITTED s_HEURISTICALLY_ABORTED s_HEURISTICALLY_COMMITTED s_Joined_State_COMMITTED s_HEURISTIC_ABORT s_HEURISTIC_COMMIT s_COMMITTED_AGAINST_HEURISTIC s_HEURISTIC_MISMATCH s_COMMITTED_IN_ONE_PHASE s_TxnStatus_COMMITTED s_ABORTED_AGAINST_HEURISTIC s_Outcome_ABORTED s_PRE_ABORTED s_PRE_COMMITTED s_Joined_State_ABORTED s_TxnStatus_ABORTED)   :
    MetFree l (⟨"com/example/unanimity/unanimity/core/Joined$State", "awaitsDecision", "()Z"⟩ : MethodName) (head1 (Jvm.Cond.code (⟨"com/example/unanimity/unanimity/core/Joined$State", "awaitsDecision", "()Z"⟩ : MethodName) prog_7_method_5_code 1 (some .boolean) :: ws) ({ frames := 0, cells := 0, slots := 0, locals := 0 } : Room)) (fun a U => a = #[(.ref s_COMMITTED_IN_ONE_PHASE)] ∧ Z.Warmed39 U.vm ∧ U.heap = h0) (fun _ _ _ _ _ => True) (fun _ U o U' => ∃ v L, o = .returned v ∧ own_Q (some (.int (0 : Int32))) h0 n0 v U'.heap L ∧ FrameEnd U o U' L ({ frames := 0, cells := 0, slots := 0, locals := 0 } : Room).cells ({ frames := 0, cells := 0, slots := 0, locals := 0 } : Room).slots) := by
  have G0 := G
  obtain ⟨S_PREPARED, E_PREPARED, O_PREPARED, S_IN_DOUBT, E_IN_DOUBT, O_IN_DOUBT, S_Outcome_COMMITTED, E_Outcome_COMMITTED, O_Outcome_COMMITTED, S_HEURISTICALLY_ABORTED, E_HEURISTICALLY_ABORTED, O_HEURISTICALLY_ABORTED, S_HEURISTICALLY_COMMITTED, E_HEURISTICALLY_COMMITTED, O_HEURISTICALLY_COMMITTED, S_Joined_State_COMMITTED, E_Joined_State_COMMITTED, S_HEURISTIC_ABORT, E_HEURISTIC_ABORT, O_HEURISTIC_ABORT, S_HEURISTIC_COMMIT, E_HEURISTIC_COMMIT, O_HEURISTIC_COMMIT, S_COMMITTED_AGAINST_HEURISTIC, E_COMMITTED_AGAINST_HEURISTIC, S_HEURISTIC_MISMATCH, E_HEURISTIC_MISMATCH, O_HEURISTIC_MISMATCH, S_COMMITTED_IN_ONE_PHASE, E_COMMITTED_IN_ONE_PHASE, S_TxnStatus_COMMITTED, E_TxnStatus_COMMITTED, O_TxnStatus_COMMITTED, S_ABORTED_AGAINST_HEURISTIC, E_ABORTED_AGAINST_HEURISTIC, S_Outcome_ABORTED, E_Outcome_ABORTED, O_Outcome_ABORTED, S_PRE_ABORTED, E_PRE_ABORTED, O_PRE_ABORTED, S_PRE_COMMITTED, E_PRE_COMMITTED, O_PRE_COMMITTED, S_Joined_State_ABORTED, E_Joined_State_ABORTED, S_TxnStatus_ABORTED, E_TxnStatus_ABORTED, O_TxnStatus_ABORTED, F_decision_PREPARED, F_status_PREPARED, F_decision_Joined_State_COMMITTED, F_decision_HEURISTICALLY_ABORTED, F_status_HEURISTICALLY_ABORTED, F_decision_COMMITTED_AGAINST_HEURISTIC, F_status_COMMITTED_AGAINST_HEURISTIC, F_decision_COMMITTED_IN_ONE_PHASE, F_status_COMMITTED_IN_ONE_PHASE, F_decision_ABORTED_AGAINST_HEURISTIC, F_status_ABORTED_AGAINST_HEURISTIC, F_decision_PRE_ABORTED, F_status_PRE_ABORTED, F_decision_HEURISTICALLY_COMMITTED, F_status_HEURISTICALLY_COMMITTED, F_decision_PRE_COMMITTED, F_status_PRE_COMMITTED, F_decision_Joined_State_ABORTED, F_status_Joined_State_COMMITTED, F_status_Joined_State_ABORTED⟩ := G
  refine MetFree.of_bodySF (plainFor_of_name pn_0) hisR ?_
  intro p e s m args below meth c s₁ Bd hml0 hP hK
  obtain ⟨rfl, hZ, hh⟩ := hP
  have hx := Bd.exec
  have hby := Bd.bytes
  have hml : c.maxLocals = 1 := hml0
  have hown : s.vm.findClass "com/example/unanimity/unanimity/core/Joined$State" = some m.cls := findClass_of_methodNamed Bd.named
  have hnm := (name_of_methodNamed Bd.named Bd.method).1
  have X0 : Stand p l e ({ frames := 0, cells := 0, slots := 0, locals := 0 } : Room) s m #[(.ref s_COMMITTED_IN_ONE_PHASE)] below meth c s₁ [] 0 0 := Stand.of_body Bd
  have e0 : s₁.heap = h0 := by rw [← hh, Bd.state]; rfl
  have N0 := Fr.nil n0
  have pre0 : ∀ t, Steps p.tables e below (s₁.setTop (mkF m 0 #[.val (.ref s_COMMITTED_IN_ONE_PHASE)] [])) t → Steps p.tables e below (s₁.setTop (entryFrame m #[(.ref s_COMMITTED_IN_ONE_PHASE)] 1)) t := fun t k => castTop (ef_2_0 m s_COMMITTED_IN_ONE_PHASE) k
  obtain ⟨T1, X1, e1, st1⟩ := getF X0 hx hZ hown (host := "") (Or.inl (hw _ (List.mem_of_getElem? (i := 13) rfl))) Via.refl e0 F_decision_COMMITTED_IN_ONE_PHASE (g := (mkF m 1 #[.val (.ref s_COMMITTED_IN_ONE_PHASE)] [(.ref s_COMMITTED_IN_ONE_PHASE)])) rfl rfl (hb hby d2_1)
  obtain ⟨fs, hr, hrun, hended, hW, hsame⟩ := X1.leave (v := some (.int (0 : Int32))) (fun h => by rw [Bd.returns] at h; cases h)
  refine ⟨_, _, pre0 _ ?_, hrun, hended, _, _, rfl, ?_, ⟨_, rfl⟩, hW, hsame.mono (by decide) (by decide)⟩
  · show Steps p.tables e below (s₁.setTop (mkF m 0 #[.val (.ref s_COMMITTED_IN_ONE_PHASE)] [])) _
    refine XS.aloadN X0.here hx rfl (hb hby d2_0) rfl rfl ?_
    show Steps p.tables e below (s₁.setTop (mkF m 1 #[.val (.ref s_COMMITTED_IN_ONE_PHASE)] [(.ref s_COMMITTED_IN_ONE_PHASE)])) _
    refine st1 _ ?_
    show Steps p.tables e below (T1.setTop (mkF m 4 #[.val (.ref s_COMMITTED_IN_ONE_PHASE)] [(.ref s_Outcome_COMMITTED)])) _
    refine XS.ifnonnullYes X1.here hx rfl (pc0 := 4) (pc' := 11) rfl (hb hby d2_4) rfl (by decide) (by decide) ?_
    show Steps p.tables e below (T1.setTop (mkF m 11 #[.val (.ref s_COMMITTED_IN_ONE_PHASE)] [])) _
    refine XS.iconst X1.here hx rfl (hb hby d2_11) ?_
    show Steps p.tables e below (T1.setTop (mkF m 12 #[.val (.ref s_COMMITTED_IN_ONE_PHASE)] [(.int (0 : Int32))])) _
    exact retN X1 hx (t := .boolean) Bd.returns (by simp) (hb hby d2_12) hr
  · show own_Q (some (.int (0 : Int32))) h0 n0 _ T1.heap _
    rw [e1]
    exact ⟨rfl, N0, rfl⟩
set_option maxRecDepth 65536 in
set_option maxHeartbeats 40000000 in
theorem r_in_6 (l : Launch) (Z : State) (a0 : Array Value) (hw : ∀ d ∈ tables_1, d.before a0 Z = true) (ws : List Jvm.Cond) (s_PREPARED s_IN_DOUBT s_Outcome_COMMITTED s_HEURISTICALLY_ABORTED s_HEURISTICALLY_COMMITTED s_Joined_State_COMMITTED s_HEURISTIC_ABORT s_HEURISTIC_COMMIT s_COMMITTED_AGAINST_HEURISTIC s_HEURISTIC_MISMATCH s_COMMITTED_IN_ONE_PHASE s_TxnStatus_COMMITTED s_ABORTED_AGAINST_HEURISTIC s_Outcome_ABORTED s_PRE_ABORTED s_PRE_COMMITTED s_Joined_State_ABORTED s_TxnStatus_ABORTED : Addr) (h0 : Heap) (n0 : Nat) (Z0 : n0 ≤ h0.size) (G : own_Ctx Z h0 s_PREPARED s_IN_DOUBT s_Outcome_COMMITTED s_HEURISTICALLY_ABORTED s_HEURISTICALLY_COMMITTED s_Joined_State_COMMITTED s_HEURISTIC_ABORT s_HEURISTIC_COMMIT s_COMMITTED_AGAINST_HEURISTIC s_HEURISTIC_MISMATCH s_COMMITTED_IN_ONE_PHASE s_TxnStatus_COMMITTED s_ABORTED_AGAINST_HEURISTIC s_Outcome_ABORTED s_PRE_ABORTED s_PRE_COMMITTED s_Joined_State_ABORTED s_TxnStatus_ABORTED)   :
    MetFree l (⟨"com/example/unanimity/unanimity/core/Joined$State", "inDoubt", "()Z"⟩ : MethodName) (head1 (Jvm.Cond.code (⟨"com/example/unanimity/unanimity/core/Joined$State", "inDoubt", "()Z"⟩ : MethodName) prog_7_method_4_code 1 (some .boolean) :: ws) ({ frames := 0, cells := 0, slots := 0, locals := 0 } : Room)) (fun a U => a = #[(.ref s_COMMITTED_IN_ONE_PHASE)] ∧ Z.Warmed39 U.vm ∧ U.heap = h0) (fun _ _ _ _ _ => True) (fun _ U o U' => ∃ v L, o = .returned v ∧ own_Q (some (.int (0 : Int32))) h0 n0 v U'.heap L ∧ FrameEnd U o U' L ({ frames := 0, cells := 0, slots := 0, locals := 0 } : Room).cells ({ frames := 0, cells := 0, slots := 0, locals := 0 } : Room).slots) := by
  have G0 := G
  obtain ⟨S_PREPARED, E_PREPARED, O_PREPARED, S_IN_DOUBT, E_IN_DOUBT, O_IN_DOUBT, S_Outcome_COMMITTED, E_Outcome_COMMITTED, O_Outcome_COMMITTED, S_HEURISTICALLY_ABORTED, E_HEURISTICALLY_ABORTED, O_HEURISTICALLY_ABORTED, S_HEURISTICALLY_COMMITTED, E_HEURISTICALLY_COMMITTED, O_HEURISTICALLY_COMMITTED, S_Joined_State_COMMITTED, E_Joined_State_COMMITTED, S_HEURISTIC_ABORT, E_HEURISTIC_ABORT, O_HEURISTIC_ABORT, S_HEURISTIC_COMMIT, E_HEURISTIC_COMMIT, O_HEURISTIC_COMMIT, S_COMMITTED_AGAINST_HEURISTIC, E_COMMITTED_AGAINST_HEURISTIC, S_HEURISTIC_MISMATCH, E_HEURISTIC_MISMATCH, O_HEURISTIC_MISMATCH, S_COMMITTED_IN_ONE_PHASE, E_COMMITTED_IN_ONE_PHASE, S_TxnStatus_COMMITTED, E_TxnStatus_COMMITTED, O_TxnStatus_COMMITTED, S_ABORTED_AGAINST_HEURISTIC, E_ABORTED_AGAINST_HEURISTIC, S_Outcome_ABORTED, E_Outcome_ABORTED, O_Outcome_ABORTED, S_PRE_ABORTED, E_PRE_ABORTED, O_PRE_ABORTED, S_PRE_COMMITTED, E_PRE_COMMITTED, O_PRE_COMMITTED, S_Joined_State_ABORTED, E_Joined_State_ABORTED, S_TxnStatus_ABORTED, E_TxnStatus_ABORTED, O_TxnStatus_ABORTED, F_decision_PREPARED, F_status_PREPARED, F_decision_Joined_State_COMMITTED, F_decision_HEURISTICALLY_ABORTED, F_status_HEURISTICALLY_ABORTED, F_decision_COMMITTED_AGAINST_HEURISTIC, F_status_COMMITTED_AGAINST_HEURISTIC, F_decision_COMMITTED_IN_ONE_PHASE, F_status_COMMITTED_IN_ONE_PHASE, F_decision_ABORTED_AGAINST_HEURISTIC, F_status_ABORTED_AGAINST_HEURISTIC, F_decision_PRE_ABORTED, F_status_PRE_ABORTED, F_decision_HEURISTICALLY_COMMITTED, F_status_HEURISTICALLY_COMMITTED, F_decision_PRE_COMMITTED, F_status_PRE_COMMITTED, F_decision_Joined_State_ABORTED, F_status_Joined_State_COMMITTED, F_status_Joined_State_ABORTED⟩ := G
  refine MetFree.of_bodySF (plainFor_of_name pn_0) hisR ?_
  intro p e s m args below meth c s₁ Bd hml0 hP hK
  obtain ⟨rfl, hZ, hh⟩ := hP
  have hx := Bd.exec
  have hby := Bd.bytes
  have hml : c.maxLocals = 1 := hml0
  have hown : s.vm.findClass "com/example/unanimity/unanimity/core/Joined$State" = some m.cls := findClass_of_methodNamed Bd.named
  have hnm := (name_of_methodNamed Bd.named Bd.method).1
  have X0 : Stand p l e ({ frames := 0, cells := 0, slots := 0, locals := 0 } : Room) s m #[(.ref s_COMMITTED_IN_ONE_PHASE)] below meth c s₁ [] 0 0 := Stand.of_body Bd
  have e0 : s₁.heap = h0 := by rw [← hh, Bd.state]; rfl
  have N0 := Fr.nil n0
  have pre0 : ∀ t, Steps p.tables e below (s₁.setTop (mkF m 0 #[.val (.ref s_COMMITTED_IN_ONE_PHASE)] [])) t → Steps p.tables e below (s₁.setTop (entryFrame m #[(.ref s_COMMITTED_IN_ONE_PHASE)] 1)) t := fun t k => castTop (ef_3_1 m s_COMMITTED_IN_ONE_PHASE) k
  obtain ⟨T1, X1, e1, st1⟩ := getF X0 hx hZ hown (host := "") (Or.inl (hw _ (List.mem_of_getElem? (i := 20) rfl))) Via.refl e0 F_status_COMMITTED_IN_ONE_PHASE (g := (mkF m 1 #[.val (.ref s_COMMITTED_IN_ONE_PHASE)] [(.ref s_COMMITTED_IN_ONE_PHASE)])) rfl rfl (hb hby d3_1)
  obtain ⟨T2, X2, e2, st2⟩ := getS2 X1 hx hZ hown (host := "") (Or.inl (hw _ (List.mem_of_getElem? (i := 24) rfl))) Via.refl e1 S_IN_DOUBT (g := (mkF m 4 #[.val (.ref s_COMMITTED_IN_ONE_PHASE)] [(.ref s_TxnStatus_COMMITTED)])) rfl (hb hby d3_4)
  obtain ⟨fs, hr, hrun, hended, hW, hsame⟩ := X2.leave (v := some (.int (0 : Int32))) (fun h => by rw [Bd.returns] at h; cases h)
  refine ⟨_, _, pre0 _ ?_, hrun, hended, _, _, rfl, ?_, ⟨_, rfl⟩, hW, hsame.mono (by decide) (by decide)⟩
  · show Steps p.tables e below (s₁.setTop (mkF m 0 #[.val (.ref s_COMMITTED_IN_ONE_PHASE)] [])) _
    refine XS.aloadN X0.here hx rfl (hb hby d3_0) rfl rfl ?_
    show Steps p.tables e below (s₁.setTop (mkF m 1 #[.val (.ref s_COMMITTED_IN_ONE_PHASE)] [(.ref s_COMMITTED_IN_ONE_PHASE)])) _
    refine st1 _ ?_
    show Steps p.tables e below (T1.setTop (mkF m 4 #[.val (.ref s_COMMITTED_IN_ONE_PHASE)] [(.ref s_TxnStatus_COMMITTED)])) _
    refine st2 _ ?_
    show Steps p.tables e below (T2.setTop (mkF m 7 #[.val (.ref s_COMMITTED_IN_ONE_PHASE)] [(.ref s_IN_DOUBT), (.ref s_TxnStatus_COMMITTED)])) _
    refine Jvm.RoadKit.acmp (g := (mkF m 7 #[.val (.ref s_COMMITTED_IN_ONE_PHASE)] [(.ref s_IN_DOUBT), (.ref s_TxnStatus_COMMITTED)])) X2 hx rfl rfl rfl (pc0 := 7) (pc' := 14) (same := false) rfl (hb hby d3_7) rfl (decide_eq_false fun q => (Fld.ne O_TxnStatus_COMMITTED O_IN_DOUBT (fun q => absurd (Value.int.inj q) (by decide))) (Value.ref.inj q)) (by decide) (by decide) ?_
    show Steps p.tables e below (T2.setTop (mkF m 14 #[.val (.ref s_COMMITTED_IN_ONE_PHASE)] [])) _
    refine XS.iconst X2.here hx rfl (hb hby d3_14) ?_
    show Steps p.tables e below (T2.setTop (mkF m 15 #[.val (.ref s_COMMITTED_IN_ONE_PHASE)] [(.int (0 : Int32))])) _
    exact retN X2 hx (t := .boolean) Bd.returns (by simp) (hb hby d3_15) hr
  · show own_Q (some (.int (0 : Int32))) h0 n0 _ T2.heap _
    rw [e2]
    exact ⟨rfl, N0, rfl⟩
set_option maxRecDepth 65536 in
set_option maxHeartbeats 40000000 in
theorem r_aw_7 (l : Launch) (Z : State) (a0 : Array Value) (hw : ∀ d ∈ tables_1, d.before a0 Z = true) (ws : List Jvm.Cond) (s_PREPARED s_IN_DOUBT s_Outcome_COMMITTED s_HEURISTICALLY_ABORTED s_HEURISTICALLY_COMMITTED s_Joined_State_COMMITTED s_HEURISTIC_ABORT s_HEURISTIC_COMMIT s_COMMITTED_AGAINST_HEURISTIC s_HEURISTIC_MISMATCH s_COMMITTED_IN_ONE_PHASE s_TxnStatus_COMMITTED s_ABORTED_AGAINST_HEURISTIC s_Outcome_ABORTED s_PRE_ABORTED s_PRE_COMMITTED s_Joined_State_ABORTED s_TxnStatus_ABORTED : Addr) (h0 : Heap) (n0 : Nat) (Z0 : n0 ≤ h0.size) (G : own_Ctx Z h0 s_PREPARED s_IN_DOUBT s_Outcome_COMMITTED s_HEURISTICALLY_ABORTED s_HEURISTICALLY_COMMITTED s_Joined_State_COMMITTED s_HEURISTIC_ABORT s_HEURISTIC_COMMIT s_COMMITTED_AGAINST_HEURISTIC s_HEURISTIC_MISMATCH s_COMMITTED_IN_ONE_PHASE s_TxnStatus_COMMITTED s_ABORTED_AGAINST_HEURISTIC s_Outcome_ABORTED s_PRE_ABORTED s_PRE_COMMITTED s_Joined_State_ABORTED s_TxnStatus_ABORTED)   :
    MetFree l (⟨"com/example/unanimity/unanimity/core/Joined$State", "awaitsDecision", "()Z"⟩ : MethodName) (head1 (Jvm.Cond.code (⟨"com/example/unanimity/unanimity/core/Joined$State", "awaitsDecision", "()Z"⟩ : MethodName) prog_7_method_5_code 1 (some .boolean) :: ws) ({ frames := 0, cells := 0, slots := 0, locals := 0 } : Room)) (fun a U => a = #[(.ref s_Joined_State_ABORTED)] ∧ Z.Warmed39 U.vm ∧ U.heap = h0) (fun _ _ _ _ _ => True) (fun _ U o U' => ∃ v L, o = .returned v ∧ own_Q (some (.int (0 : Int32))) h0 n0 v U'.heap L ∧ FrameEnd U o U' L ({ frames := 0, cells := 0, slots := 0, locals := 0 } : Room).cells ({ frames := 0, cells := 0, slots := 0, locals := 0 } : Room).slots) := by
  have G0 := G
  obtain ⟨S_PREPARED, E_PREPARED, O_PREPARED, S_IN_DOUBT, E_IN_DOUBT, O_IN_DOUBT, S_Outcome_COMMITTED, E_Outcome_COMMITTED, O_Outcome_COMMITTED, S_HEURISTICALLY_ABORTED, E_HEURISTICALLY_ABORTED, O_HEURISTICALLY_ABORTED, S_HEURISTICALLY_COMMITTED, E_HEURISTICALLY_COMMITTED, O_HEURISTICALLY_COMMITTED, S_Joined_State_COMMITTED, E_Joined_State_COMMITTED, S_HEURISTIC_ABORT, E_HEURISTIC_ABORT, O_HEURISTIC_ABORT, S_HEURISTIC_COMMIT, E_HEURISTIC_COMMIT, O_HEURISTIC_COMMIT, S_COMMITTED_AGAINST_HEURISTIC, E_COMMITTED_AGAINST_HEURISTIC, S_HEURISTIC_MISMATCH, E_HEURISTIC_MISMATCH, O_HEURISTIC_MISMATCH, S_COMMITTED_IN_ONE_PHASE, E_COMMITTED_IN_ONE_PHASE, S_TxnStatus_COMMITTED, E_TxnStatus_COMMITTED, O_TxnStatus_COMMITTED, S_ABORTED_AGAINST_HEURISTIC, E_ABORTED_AGAINST_HEURISTIC, S_Outcome_ABORTED, E_Outcome_ABORTED, O_Outcome_ABORTED, S_PRE_ABORTED, E_PRE_ABORTED, O_PRE_ABORTED, S_PRE_COMMITTED, E_PRE_COMMITTED, O_PRE_COMMITTED, S_Joined_State_ABORTED, E_Joined_State_ABORTED, S_TxnStatus_ABORTED, E_TxnStatus_ABORTED, O_TxnStatus_ABORTED, F_decision_PREPARED, F_status_PREPARED, F_decision_Joined_State_COMMITTED, F_decision_HEURISTICALLY_ABORTED, F_status_HEURISTICALLY_ABORTED, F_decision_COMMITTED_AGAINST_HEURISTIC, F_status_COMMITTED_AGAINST_HEURISTIC, F_decision_COMMITTED_IN_ONE_PHASE, F_status_COMMITTED_IN_ONE_PHASE, F_decision_ABORTED_AGAINST_HEURISTIC, F_status_ABORTED_AGAINST_HEURISTIC, F_decision_PRE_ABORTED, F_status_PRE_ABORTED, F_decision_HEURISTICALLY_COMMITTED, F_status_HEURISTICALLY_COMMITTED, F_decision_PRE_COMMITTED, F_status_PRE_COMMITTED, F_decision_Joined_State_ABORTED, F_status_Joined_State_COMMITTED, F_status_Joined_State_ABORTED⟩ := G
  refine MetFree.of_bodySF (plainFor_of_name pn_0) hisR ?_
  intro p e s m args below meth c s₁ Bd hml0 hP hK
  obtain ⟨rfl, hZ, hh⟩ := hP
  have hx := Bd.exec
  have hby := Bd.bytes
  have hml : c.maxLocals = 1 := hml0
  have hown : s.vm.findClass "com/example/unanimity/unanimity/core/Joined$State" = some m.cls := findClass_of_methodNamed Bd.named
  have hnm := (name_of_methodNamed Bd.named Bd.method).1
  have X0 : Stand p l e ({ frames := 0, cells := 0, slots := 0, locals := 0 } : Room) s m #[(.ref s_Joined_State_ABORTED)] below meth c s₁ [] 0 0 := Stand.of_body Bd
  have e0 : s₁.heap = h0 := by rw [← hh, Bd.state]; rfl
  have N0 := Fr.nil n0
  have pre0 : ∀ t, Steps p.tables e below (s₁.setTop (mkF m 0 #[.val (.ref s_Joined_State_ABORTED)] [])) t → Steps p.tables e below (s₁.setTop (entryFrame m #[(.ref s_Joined_State_ABORTED)] 1)) t := fun t k => castTop (ef_2_0 m s_Joined_State_ABORTED) k
  obtain ⟨T1, X1, e1, st1⟩ := getF X0 hx hZ hown (host := "") (Or.inl (hw _ (List.mem_of_getElem? (i := 13) rfl))) Via.refl e0 F_decision_Joined_State_ABORTED (g := (mkF m 1 #[.val (.ref s_Joined_State_ABORTED)] [(.ref s_Joined_State_ABORTED)])) rfl rfl (hb hby d2_1)
  obtain ⟨fs, hr, hrun, hended, hW, hsame⟩ := X1.leave (v := some (.int (0 : Int32))) (fun h => by rw [Bd.returns] at h; cases h)
  refine ⟨_, _, pre0 _ ?_, hrun, hended, _, _, rfl, ?_, ⟨_, rfl⟩, hW, hsame.mono (by decide) (by decide)⟩
  · show Steps p.tables e below (s₁.setTop (mkF m 0 #[.val (.ref s_Joined_State_ABORTED)] [])) _
    refine XS.aloadN X0.here hx rfl (hb hby d2_0) rfl rfl ?_
    show Steps p.tables e below (s₁.setTop (mkF m 1 #[.val (.ref s_Joined_State_ABORTED)] [(.ref s_Joined_State_ABORTED)])) _
    refine st1 _ ?_
    show Steps p.tables e below (T1.setTop (mkF m 4 #[.val (.ref s_Joined_State_ABORTED)] [(.ref s_Outcome_ABORTED)])) _
    refine XS.ifnonnullYes X1.here hx rfl (pc0 := 4) (pc' := 11) rfl (hb hby d2_4) rfl (by decide) (by decide) ?_
    show Steps p.tables e below (T1.setTop (mkF m 11 #[.val (.ref s_Joined_State_ABORTED)] [])) _
    refine XS.iconst X1.here hx rfl (hb hby d2_11) ?_
    show Steps p.tables e below (T1.setTop (mkF m 12 #[.val (.ref s_Joined_State_ABORTED)] [(.int (0 : Int32))])) _
    exact retN X1 hx (t := .boolean) Bd.returns (by simp) (hb hby d2_12) hr
  · show own_Q (some (.int (0 : Int32))) h0 n0 _ T1.heap _
    rw [e1]
    exact ⟨rfl, N0, rfl⟩
set_option maxRecDepth 65536 in
set_option maxHeartbeats 40000000 in
theorem r_in_7 (l : Launch) (Z : State) (a0 : Array Value) (hw : ∀ d ∈ tables_1, d.before a0 Z = true) (ws : List Jvm.Cond) (s_PREPARED s_IN_DOUBT s_Outcome_COMMITTED s_HEURISTICALLY_ABORTED s_HEURISTICALLY_COMMITTED s_Joined_State_COMMITTED s_HEURISTIC_ABORT s_HEURISTIC_COMMIT s_COMMITTED_AGAINST_HEURISTIC s_HEURISTIC_MISMATCH s_COMMITTED_IN_ONE_PHASE s_TxnStatus_COMMITTED s_ABORTED_AGAINST_HEURISTIC s_Outcome_ABORTED s_PRE_ABORTED s_PRE_COMMITTED s_Joined_State_ABORTED s_TxnStatus_ABORTED : Addr) (h0 : Heap) (n0 : Nat) (Z0 : n0 ≤ h0.size) (G : own_Ctx Z h0 s_PREPARED s_IN_DOUBT s_Outcome_COMMITTED s_HEURISTICALLY_ABORTED s_HEURISTICALLY_COMMITTED s_Joined_State_COMMITTED s_HEURISTIC_ABORT s_HEURISTIC_COMMIT s_COMMITTED_AGAINST_HEURISTIC s_HEURISTIC_MISMATCH s_COMMITTED_IN_ONE_PHASE s_TxnStatus_COMMITTED s_ABORTED_AGAINST_HEURISTIC s_Outcome_ABORTED s_PRE_ABORTED s_PRE_COMMITTED s_Joined_State_ABORTED s_TxnStatus_ABORTED)   :
    MetFree l (⟨"com/example/unanimity/unanimity/core/Joined$State", "inDoubt", "()Z"⟩ : MethodName) (head1 (Jvm.Cond.code (⟨"com/example/unanimity/unanimity/core/Joined$State", "inDoubt", "()Z"⟩ : MethodName) prog_7_method_4_code 1 (some .boolean) :: ws) ({ frames := 0, cells := 0, slots := 0, locals := 0 } : Room)) (fun a U => a = #[(.ref s_Joined_State_ABORTED)] ∧ Z.Warmed39 U.vm ∧ U.heap = h0) (fun _ _ _ _ _ => True) (fun _ U o U' => ∃ v L, o = .returned v ∧ own_Q (some (.int (0 : Int32))) h0 n0 v U'.heap L ∧ FrameEnd U o U' L ({ frames := 0, cells := 0, slots := 0, locals := 0 } : Room).cells ({ frames := 0, cells := 0, slots := 0, locals := 0 } : Room).slots) := by
  have G0 := G
  obtain ⟨S_PREPARED, E_PREPARED, O_PREPARED, S_IN_DOUBT, E_IN_DOUBT, O_IN_DOUBT, S_Outcome_COMMITTED, E_Outcome_COMMITTED, O_Outcome_COMMITTED, S_HEURISTICALLY_ABORTED, E_HEURISTICALLY_ABORTED, O_HEURISTICALLY_ABORTED, S_HEURISTICALLY_COMMITTED, E_HEURISTICALLY_COMMITTED, O_HEURISTICALLY_COMMITTED, S_Joined_State_COMMITTED, E_Joined_State_COMMITTED, S_HEURISTIC_ABORT, E_HEURISTIC_ABORT, O_HEURISTIC_ABORT, S_HEURISTIC_COMMIT, E_HEURISTIC_COMMIT, O_HEURISTIC_COMMIT, S_COMMITTED_AGAINST_HEURISTIC, E_COMMITTED_AGAINST_HEURISTIC, S_HEURISTIC_MISMATCH, E_HEURISTIC_MISMATCH, O_HEURISTIC_MISMATCH, S_COMMITTED_IN_ONE_PHASE, E_COMMITTED_IN_ONE_PHASE, S_TxnStatus_COMMITTED, E_TxnStatus_COMMITTED, O_TxnStatus_COMMITTED, S_ABORTED_AGAINST_HEURISTIC, E_ABORTED_AGAINST_HEURISTIC, S_Outcome_ABORTED, E_Outcome_ABORTED, O_Outcome_ABORTED, S_PRE_ABORTED, E_PRE_ABORTED, O_PRE_ABORTED, S_PRE_COMMITTED, E_PRE_COMMITTED, O_PRE_COMMITTED, S_Joined_State_ABORTED, E_Joined_State_ABORTED, S_TxnStatus_ABORTED, E_TxnStatus_ABORTED, O_TxnStatus_ABORTED, F_decision_PREPARED, F_status_PREPARED, F_decision_Joined_State_COMMITTED, F_decision_HEURISTICALLY_ABORTED, F_status_HEURISTICALLY_ABORTED, F_decision_COMMITTED_AGAINST_HEURISTIC, F_status_COMMITTED_AGAINST_HEURISTIC, F_decision_COMMITTED_IN_ONE_PHASE, F_status_COMMITTED_IN_ONE_PHASE, F_decision_ABORTED_AGAINST_HEURISTIC, F_status_ABORTED_AGAINST_HEURISTIC, F_decision_PRE_ABORTED, F_status_PRE_ABORTED, F_decision_HEURISTICALLY_COMMITTED, F_status_HEURISTICALLY_COMMITTED, F_decision_PRE_COMMITTED, F_status_PRE_COMMITTED, F_decision_Joined_State_ABORTED, F_status_Joined_State_COMMITTED, F_status_Joined_State_ABORTED⟩ := G
  refine MetFree.of_bodySF (plainFor_of_name pn_0) hisR ?_
  intro p e s m args below meth c s₁ Bd hml0 hP hK
  obtain ⟨rfl, hZ, hh⟩ := hP
  have hx := Bd.exec
  have hby := Bd.bytes
  have hml : c.maxLocals = 1 := hml0
  have hown : s.vm.findClass "com/example/unanimity/unanimity/core/Joined$State" = some m.cls := findClass_of_methodNamed Bd.named
  have hnm := (name_of_methodNamed Bd.named Bd.method).1
  have X0 : Stand p l e ({ frames := 0, cells := 0, slots := 0, locals := 0 } : Room) s m #[(.ref s_Joined_State_ABORTED)] below meth c s₁ [] 0 0 := Stand.of_body Bd
  have e0 : s₁.heap = h0 := by rw [← hh, Bd.state]; rfl
  have N0 := Fr.nil n0
  have pre0 : ∀ t, Steps p.tables e below (s₁.setTop (mkF m 0 #[.val (.ref s_Joined_State_ABORTED)] [])) t → Steps p.tables e below (s₁.setTop (entryFrame m #[(.ref s_Joined_State_ABORTED)] 1)) t := fun t k => castTop (ef_3_1 m s_Joined_State_ABORTED) k
  obtain ⟨T1, X1, e1, st1⟩ := getF X0 hx hZ hown (host := "") (Or.inl (hw _ (List.mem_of_getElem? (i := 20) rfl))) Via.refl e0 F_status_Joined_State_ABORTED (g := (mkF m 1 #[.val (.ref s_Joined_State_ABORTED)] [(.ref s_Joined_State_ABORTED)])) rfl rfl (hb hby d3_1)
  obtain ⟨T2, X2, e2, st2⟩ := getS2 X1 hx hZ hown (host := "") (Or.inl (hw _ (List.mem_of_getElem? (i := 24) rfl))) Via.refl e1 S_IN_DOUBT (g := (mkF m 4 #[.val (.ref s_Joined_State_ABORTED)] [(.ref s_TxnStatus_ABORTED)])) rfl (hb hby d3_4)
  obtain ⟨fs, hr, hrun, hended, hW, hsame⟩ := X2.leave (v := some (.int (0 : Int32))) (fun h => by rw [Bd.returns] at h; cases h)
  refine ⟨_, _, pre0 _ ?_, hrun, hended, _, _, rfl, ?_, ⟨_, rfl⟩, hW, hsame.mono (by decide) (by decide)⟩
  · show Steps p.tables e below (s₁.setTop (mkF m 0 #[.val (.ref s_Joined_State_ABORTED)] [])) _
    refine XS.aloadN X0.here hx rfl (hb hby d3_0) rfl rfl ?_
    show Steps p.tables e below (s₁.setTop (mkF m 1 #[.val (.ref s_Joined_State_ABORTED)] [(.ref s_Joined_State_ABORTED)])) _
    refine st1 _ ?_
    show Steps p.tables e below (T1.setTop (mkF m 4 #[.val (.ref s_Joined_State_ABORTED)] [(.ref s_TxnStatus_ABORTED)])) _
    refine st2 _ ?_
    show Steps p.tables e below (T2.setTop (mkF m 7 #[.val (.ref s_Joined_State_ABORTED)] [(.ref s_IN_DOUBT), (.ref s_TxnStatus_ABORTED)])) _
    refine Jvm.RoadKit.acmp (g := (mkF m 7 #[.val (.ref s_Joined_State_ABORTED)] [(.ref s_IN_DOUBT), (.ref s_TxnStatus_ABORTED)])) X2 hx rfl rfl rfl (pc0 := 7) (pc' := 14) (same := false) rfl (hb hby d3_7) rfl (decide_eq_false fun q => (Fld.ne O_TxnStatus_ABORTED O_IN_DOUBT (fun q => absurd (Value.int.inj q) (by decide))) (Value.ref.inj q)) (by decide) (by decide) ?_
    show Steps p.tables e below (T2.setTop (mkF m 14 #[.val (.ref s_Joined_State_ABORTED)] [])) _
    refine XS.iconst X2.here hx rfl (hb hby d3_14) ?_
    show Steps p.tables e below (T2.setTop (mkF m 15 #[.val (.ref s_Joined_State_ABORTED)] [(.int (0 : Int32))])) _
    exact retN X2 hx (t := .boolean) Bd.returns (by simp) (hb hby d3_15) hr
  · show own_Q (some (.int (0 : Int32))) h0 n0 _ T2.heap _
    rw [e2]
    exact ⟨rfl, N0, rfl⟩
set_option maxRecDepth 65536 in
set_option maxHeartbeats 40000000 in
theorem r_aw_8 (l : Launch) (Z : State) (a0 : Array Value) (hw : ∀ d ∈ tables_1, d.before a0 Z = true) (ws : List Jvm.Cond) (s_PREPARED s_IN_DOUBT s_Outcome_COMMITTED s_HEURISTICALLY_ABORTED s_HEURISTICALLY_COMMITTED s_Joined_State_COMMITTED s_HEURISTIC_ABORT s_HEURISTIC_COMMIT s_COMMITTED_AGAINST_HEURISTIC s_HEURISTIC_MISMATCH s_COMMITTED_IN_ONE_PHASE s_TxnStatus_COMMITTED s_ABORTED_AGAINST_HEURISTIC s_Outcome_ABORTED s_PRE_ABORTED s_PRE_COMMITTED s_Joined_State_ABORTED s_TxnStatus_ABORTED : Addr) (h0 : Heap) (n0 : Nat) (Z0 : n0 ≤ h0.size) (G : own_Ctx Z h0 s_PREPARED s_IN_DOUBT s_Outcome_COMMITTED s_HEURISTICALLY_ABORTED s_HEURISTICALLY_COMMITTED s_Joined_State_COMMITTED s_HEURISTIC_ABORT s_HEURISTIC_COMMIT s_COMMITTED_AGAINST_HEURISTIC s_HEURISTIC_MISMATCH s_COMMITTED_IN_ONE_PHASE s_TxnStatus_COMMITTED s_ABORTED_AGAINST_HEURISTIC s_Outcome_ABORTED s_PRE_ABORTED s_PRE_COMMITTED s_Joined_State_ABORTED s_TxnStatus_ABORTED)   :
    MetFree l (⟨"com/example/unanimity/unanimity/core/Joined$State", "awaitsDecision", "()Z"⟩ : MethodName) (head1 (Jvm.Cond.code (⟨"com/example/unanimity/unanimity/core/Joined$State", "awaitsDecision", "()Z"⟩ : MethodName) prog_7_method_5_code 1 (some .boolean) :: ws) ({ frames := 0, cells := 0, slots := 0, locals := 0 } : Room)) (fun a U => a = #[(.ref s_COMMITTED_AGAINST_HEURISTIC)] ∧ Z.Warmed39 U.vm ∧ U.heap = h0) (fun _ _ _ _ _ => True) (fun _ U o U' => ∃ v L, o = .returned v ∧ own_Q (some (.int (0 : Int32))) h0 n0 v U'.heap L ∧ FrameEnd U o U' L ({ frames := 0, cells := 0, slots := 0, locals := 0 } : Room).cells ({ frames := 0, cells := 0, slots := 0, locals := 0 } : Room).slots) := by
  have G0 := G
  obtain ⟨S_PREPARED, E_PREPARED, O_PREPARED, S_IN_DOUBT, E_IN_DOUBT, O_IN_DOUBT, S_Outcome_COMMITTED, E_Outcome_COMMITTED, O_Outcome_COMMITTED, S_HEURISTICALLY_ABORTED, E_HEURISTICALLY_ABORTED, O_HEURISTICALLY_ABORTED, S_HEURISTICALLY_COMMITTED, E_HEURISTICALLY_COMMITTED, O_HEURISTICALLY_COMMITTED, S_Joined_State_COMMITTED, E_Joined_State_COMMITTED, S_HEURISTIC_ABORT, E_HEURISTIC_ABORT, O_HEURISTIC_ABORT, S_HEURISTIC_COMMIT, E_HEURISTIC_COMMIT, O_HEURISTIC_COMMIT, S_COMMITTED_AGAINST_HEURISTIC, E_COMMITTED_AGAINST_HEURISTIC, S_HEURISTIC_MISMATCH, E_HEURISTIC_MISMATCH, O_HEURISTIC_MISMATCH, S_COMMITTED_IN_ONE_PHASE, E_COMMITTED_IN_ONE_PHASE, S_TxnStatus_COMMITTED, E_TxnStatus_COMMITTED, O_TxnStatus_COMMITTED, S_ABORTED_AGAINST_HEURISTIC, E_ABORTED_AGAINST_HEURISTIC, S_Outcome_ABORTED, E_Outcome_ABORTED, O_Outcome_ABORTED, S_PRE_ABORTED, E_PRE_ABORTED, O_PRE_ABORTED, S_PRE_COMMITTED, E_PRE_COMMITTED, O_PRE_COMMITTED, S_Joined_State_ABORTED, E_Joined_State_ABORTED, S_TxnStatus_ABORTED, E_TxnStatus_ABORTED, O_TxnStatus_ABORTED, F_decision_PREPARED, F_status_PREPARED, F_decision_Joined_State_COMMITTED, F_decision_HEURISTICALLY_ABORTED, F_status_HEURISTICALLY_ABORTED, F_decision_COMMITTED_AGAINST_HEURISTIC, F_status_COMMITTED_AGAINST_HEURISTIC, F_decision_COMMITTED_IN_ONE_PHASE, F_status_COMMITTED_IN_ONE_PHASE, F_decision_ABORTED_AGAINST_HEURISTIC, F_status_ABORTED_AGAINST_HEURISTIC, F_decision_PRE_ABORTED, F_status_PRE_ABORTED, F_decision_HEURISTICALLY_COMMITTED, F_status_HEURISTICALLY_COMMITTED, F_decision_PRE_COMMITTED, F_status_PRE_COMMITTED, F_decision_Joined_State_ABORTED, F_status_Joined_State_COMMITTED, F_status_Joined_State_ABORTED⟩ := G
  refine MetFree.of_bodySF (plainFor_of_name pn_0) hisR ?_
  intro p e s m args below meth c s₁ Bd hml0 hP hK
  obtain ⟨rfl, hZ, hh⟩ := hP
  have hx := Bd.exec
  have hby := Bd.bytes
  have hml : c.maxLocals = 1 := hml0
  have hown : s.vm.findClass "com/example/unanimity/unanimity/core/Joined$State" = some m.cls := findClass_of_methodNamed Bd.named
  have hnm := (name_of_methodNamed Bd.named Bd.method).1
  have X0 : Stand p l e ({ frames := 0, cells := 0, slots := 0, locals := 0 } : Room) s m #[(.ref s_COMMITTED_AGAINST_HEURISTIC)] below meth c s₁ [] 0 0 := Stand.of_body Bd
  have e0 : s₁.heap = h0 := by rw [← hh, Bd.state]; rfl
  have N0 := Fr.nil n0
  have pre0 : ∀ t, Steps p.tables e below (s₁.setTop (mkF m 0 #[.val (.ref s_COMMITTED_AGAINST_HEURISTIC)] [])) t → Steps p.tables e below (s₁.setTop (entryFrame m #[(.ref s_COMMITTED_AGAINST_HEURISTIC)] 1)) t := fun t k => castTop (ef_2_0 m s_COMMITTED_AGAINST_HEURISTIC) k
  obtain ⟨T1, X1, e1, st1⟩ := getF X0 hx hZ hown (host := "") (Or.inl (hw _ (List.mem_of_getElem? (i := 13) rfl))) Via.refl e0 F_decision_COMMITTED_AGAINST_HEURISTIC (g := (mkF m 1 #[.val (.ref s_COMMITTED_AGAINST_HEURISTIC)] [(.ref s_COMMITTED_AGAINST_HEURISTIC)])) rfl rfl (hb hby d2_1)
  obtain ⟨fs, hr, hrun, hended, hW, hsame⟩ := X1.leave (v := some (.int (0 : Int32))) (fun h => by rw [Bd.returns] at h; cases h)
  refine ⟨_, _, pre0 _ ?_, hrun, hended, _, _, rfl, ?_, ⟨_, rfl⟩, hW, hsame.mono (by decide) (by decide)⟩
  · show Steps p.tables e below (s₁.setTop (mkF m 0 #[.val (.ref s_COMMITTED_AGAINST_HEURISTIC)] [])) _
    refine XS.aloadN X0.here hx rfl (hb hby d2_0) rfl rfl ?_
    show Steps p.tables e below (s₁.setTop (mkF m 1 #[.val (.ref s_COMMITTED_AGAINST_HEURISTIC)] [(.ref s_COMMITTED_AGAINST_HEURISTIC)])) _
    refine st1 _ ?_
    show Steps p.tables e below (T1.setTop (mkF m 4 #[.val (.ref s_COMMITTED_AGAINST_HEURISTIC)] [(.ref s_Outcome_COMMITTED)])) _
    refine XS.ifnonnullYes X1.here hx rfl (pc0 := 4) (pc' := 11) rfl (hb hby d2_4) rfl (by decide) (by decide) ?_
    show Steps p.tables e below (T1.setTop (mkF m 11 #[.val (.ref s_COMMITTED_AGAINST_HEURISTIC)] [])) _
    refine XS.iconst X1.here hx rfl (hb hby d2_11) ?_
    show Steps p.tables e below (T1.setTop (mkF m 12 #[.val (.ref s_COMMITTED_AGAINST_HEURISTIC)] [(.int (0 : Int32))])) _
    exact retN X1 hx (t := .boolean) Bd.returns (by simp) (hb hby d2_12) hr
  · show own_Q (some (.int (0 : Int32))) h0 n0 _ T1.heap _
    rw [e1]
    exact ⟨rfl, N0, rfl⟩
set_option maxRecDepth 65536 in
set_option maxHeartbeats 40000000 in
theorem r_in_8 (l : Launch) (Z : State) (a0 : Array Value) (hw : ∀ d ∈ tables_1, d.before a0 Z = true) (ws : List Jvm.Cond) (s_PREPARED s_IN_DOUBT s_Outcome_COMMITTED s_HEURISTICALLY_ABORTED s_HEURISTICALLY_COMMITTED s_Joined_State_COMMITTED s_HEURISTIC_ABORT s_HEURISTIC_COMMIT s_COMMITTED_AGAINST_HEURISTIC s_HEURISTIC_MISMATCH s_COMMITTED_IN_ONE_PHASE s_TxnStatus_COMMITTED s_ABORTED_AGAINST_HEURISTIC s_Outcome_ABORTED s_PRE_ABORTED s_PRE_COMMITTED s_Joined_State_ABORTED s_TxnStatus_ABORTED : Addr) (h0 : Heap) (n0 : Nat) (Z0 : n0 ≤ h0.size) (G : own_Ctx Z h0 s_PREPARED s_IN_DOUBT s_Outcome_COMMITTED s_HEURISTICALLY_ABORTED s_HEURISTICALLY_COMMITTED s_Joined_State_COMMITTED s_HEURISTIC_ABORT s_HEURISTIC_COMMIT s_COMMITTED_AGAINST_HEURISTIC s_HEURISTIC_MISMATCH s_COMMITTED_IN_ONE_PHASE s_TxnStatus_COMMITTED s_ABORTED_AGAINST_HEURISTIC s_Outcome_ABORTED s_PRE_ABORTED s_PRE_COMMITTED s_Joined_State_ABORTED s_TxnStatus_ABORTED)   :
    MetFree l (⟨"com/example/unanimity/unanimity/core/Joined$State", "inDoubt", "()Z"⟩ : MethodName) (head1 (Jvm.Cond.code (⟨"com/example/unanimity/unanimity/core/Joined$State", "inDoubt", "()Z"⟩ : MethodName) prog_7_method_4_code 1 (some .boolean) :: ws) ({ frames := 0, cells := 0, slots := 0, locals := 0 } : Room)) (fun a U => a = #[(.ref s_COMMITTED_AGAINST_HEURISTIC)] ∧ Z.Warmed39 U.vm ∧ U.heap = h0) (fun _ _ _ _ _ => True) (fun _ U o U' => ∃ v L, o = .returned v ∧ own_Q (some (.int (0 : Int32))) h0 n0 v U'.heap L ∧ FrameEnd U o U' L ({ frames := 0, cells := 0, slots := 0, locals := 0 } : Room).cells ({ frames := 0, cells := 0, slots := 0, locals := 0 } : Room).slots) := by
  have G0 := G
  obtain ⟨S_PREPARED, E_PREPARED, O_PREPARED, S_IN_DOUBT, E_IN_DOUBT, O_IN_DOUBT, S_Outcome_COMMITTED, E_Outcome_COMMITTED, O_Outcome_COMMITTED, S_HEURISTICALLY_ABORTED, E_HEURISTICALLY_ABORTED, O_HEURISTICALLY_ABORTED, S_HEURISTICALLY_COMMITTED, E_HEURISTICALLY_COMMITTED, O_HEURISTICALLY_COMMITTED, S_Joined_State_COMMITTED, E_Joined_State_COMMITTED, S_HEURISTIC_ABORT, E_HEURISTIC_ABORT, O_HEURISTIC_ABORT, S_HEURISTIC_COMMIT, E_HEURISTIC_COMMIT, O_HEURISTIC_COMMIT, S_COMMITTED_AGAINST_HEURISTIC, E_COMMITTED_AGAINST_HEURISTIC, S_HEURISTIC_MISMATCH, E_HEURISTIC_MISMATCH, O_HEURISTIC_MISMATCH, S_COMMITTED_IN_ONE_PHASE, E_COMMITTED_IN_ONE_PHASE, S_TxnStatus_COMMITTED, E_TxnStatus_COMMITTED, O_TxnStatus_COMMITTED, S_ABORTED_AGAINST_HEURISTIC, E_ABORTED_AGAINST_HEURISTIC, S_Outcome_ABORTED, E_Outcome_ABORTED, O_Outcome_ABORTED, S_PRE_ABORTED, E_PRE_ABORTED, O_PRE_ABORTED, S_PRE_COMMITTED, E_PRE_COMMITTED, O_PRE_COMMITTED, S_Joined_State_ABORTED, E_Joined_State_ABORTED, S_TxnStatus_ABORTED, E_TxnStatus_ABORTED, O_TxnStatus_ABORTED, F_decision_PREPARED, F_status_PREPARED, F_decision_Joined_State_COMMITTED, F_decision_HEURISTICALLY_ABORTED, F_status_HEURISTICALLY_ABORTED, F_decision_COMMITTED_AGAINST_HEURISTIC, F_status_COMMITTED_AGAINST_HEURISTIC, F_decision_COMMITTED_IN_ONE_PHASE, F_status_COMMITTED_IN_ONE_PHASE, F_decision_ABORTED_AGAINST_HEURISTIC, F_status_ABORTED_AGAINST_HEURISTIC, F_decision_PRE_ABORTED, F_status_PRE_ABORTED, F_decision_HEURISTICALLY_COMMITTED, F_status_HEURISTICALLY_COMMITTED, F_decision_PRE_COMMITTED, F_status_PRE_COMMITTED, F_decision_Joined_State_ABORTED, F_status_Joined_State_COMMITTED, F_status_Joined_State_ABORTED⟩ := G
  refine MetFree.of_bodySF (plainFor_of_name pn_0) hisR ?_
  intro p e s m args below meth c s₁ Bd hml0 hP hK
  obtain ⟨rfl, hZ, hh⟩ := hP
  have hx := Bd.exec
  have hby := Bd.bytes
  have hml : c.maxLocals = 1 := hml0
  have hown : s.vm.findClass "com/example/unanimity/unanimity/core/Joined$State" = some m.cls := findClass_of_methodNamed Bd.named
  have hnm := (name_of_methodNamed Bd.named Bd.method).1
  have X0 : Stand p l e ({ frames := 0, cells := 0, slots := 0, locals := 0 } : Room) s m #[(.ref s_COMMITTED_AGAINST_HEURISTIC)] below meth c s₁ [] 0 0 := Stand.of_body Bd
  have e0 : s₁.heap = h0 := by rw [← hh, Bd.state]; rfl
  have N0 := Fr.nil n0
  have pre0 : ∀ t, Steps p.tables e below (s₁.setTop (mkF m 0 #[.val (.ref s_COMMITTED_AGAINST_HEURISTIC)] [])) t → Steps p.tables e below (s₁.setTop (entryFrame m #[(.ref s_COMMITTED_AGAINST_HEURISTIC)] 1)) t := fun t k => castTop (ef_3_1 m s_COMMITTED_AGAINST_HEURISTIC) k
  obtain ⟨T1, X1, e1, st1⟩ := getF X0 hx hZ hown (host := "") (Or.inl (hw _ (List.mem_of_getElem? (i := 20) rfl))) Via.refl e0 F_status_COMMITTED_AGAINST_HEURISTIC (g := (mkF m 1 #[.val (.ref s_COMMITTED_AGAINST_HEURISTIC)] [(.ref s_COMMITTED_AGAINST_HEURISTIC)])) rfl rfl (hb hby d3_1)
  obtain ⟨T2, X2, e2, st2⟩ := getS2 X1 hx hZ hown (host := "") (Or.inl (hw _ (List.mem_of_getElem? (i := 24) rfl))) Via.refl e1 S_IN_DOUBT (g := (mkF m 4 #[.val (.ref s_COMMITTED_AGAINST_HEURISTIC)] [(.ref s_HEURISTIC_MISMATCH)])) rfl (hb hby d3_4)
  obtain ⟨fs, hr, hrun, hended, hW, hsame⟩ := X2.leave (v := some (.int (0 : Int32))) (fun h => by rw [Bd.returns] at h; cases h)
  refine ⟨_, _, pre0 _ ?_, hrun, hended, _, _, rfl, ?_, ⟨_, rfl⟩, hW, hsame.mono (by decide) (by decide)⟩
  · show Steps p.tables e below (s₁.setTop (mkF m 0 #[.val (.ref s_COMMITTED_AGAINST_HEURISTIC)] [])) _
    refine XS.aloadN X0.here hx rfl (hb hby d3_0) rfl rfl ?_
    show Steps p.tables e below (s₁.setTop (mkF m 1 #[.val (.ref s_COMMITTED_AGAINST_HEURISTIC)] [(.ref s_COMMITTED_AGAINST_HEURISTIC)])) _
    refine st1 _ ?_
    show Steps p.tables e below (T1.setTop (mkF m 4 #[.val (.ref s_COMMITTED_AGAINST_HEURISTIC)] [(.ref s_HEURISTIC_MISMATCH)])) _
    refine st2 _ ?_
    show Steps p.tables e below (T2.setTop (mkF m 7 #[.val (.ref s_COMMITTED_AGAINST_HEURISTIC)] [(.ref s_IN_DOUBT), (.ref s_HEURISTIC_MISMATCH)])) _
    refine Jvm.RoadKit.acmp (g := (mkF m 7 #[.val (.ref s_COMMITTED_AGAINST_HEURISTIC)] [(.ref s_IN_DOUBT), (.ref s_HEURISTIC_MISMATCH)])) X2 hx rfl rfl rfl (pc0 := 7) (pc' := 14) (same := false) rfl (hb hby d3_7) rfl (decide_eq_false fun q => (Fld.ne O_HEURISTIC_MISMATCH O_IN_DOUBT (fun q => absurd (Value.int.inj q) (by decide))) (Value.ref.inj q)) (by decide) (by decide) ?_
    show Steps p.tables e below (T2.setTop (mkF m 14 #[.val (.ref s_COMMITTED_AGAINST_HEURISTIC)] [])) _
    refine XS.iconst X2.here hx rfl (hb hby d3_14) ?_
    show Steps p.tables e below (T2.setTop (mkF m 15 #[.val (.ref s_COMMITTED_AGAINST_HEURISTIC)] [(.int (0 : Int32))])) _
    exact retN X2 hx (t := .boolean) Bd.returns (by simp) (hb hby d3_15) hr
  · show own_Q (some (.int (0 : Int32))) h0 n0 _ T2.heap _
    rw [e2]
    exact ⟨rfl, N0, rfl⟩
set_option maxRecDepth 65536 in
set_option maxHeartbeats 40000000 in
theorem r_aw_9 (l : Launch) (Z : State) (a0 : Array Value) (hw : ∀ d ∈ tables_1, d.before a0 Z = true) (ws : List Jvm.Cond) (s_PREPARED s_IN_DOUBT s_Outcome_COMMITTED s_HEURISTICALLY_ABORTED s_HEURISTICALLY_COMMITTED s_Joined_State_COMMITTED s_HEURISTIC_ABORT s_HEURISTIC_COMMIT s_COMMITTED_AGAINST_HEURISTIC s_HEURISTIC_MISMATCH s_COMMITTED_IN_ONE_PHASE s_TxnStatus_COMMITTED s_ABORTED_AGAINST_HEURISTIC s_Outcome_ABORTED s_PRE_ABORTED s_PRE_COMMITTED s_Joined_State_ABORTED s_TxnStatus_ABORTED : Addr) (h0 : Heap) (n0 : Nat) (Z0 : n0 ≤ h0.size) (G : own_Ctx Z h0 s_PREPARED s_IN_DOUBT s_Outcome_COMMITTED s_HEURISTICALLY_ABORTED s_HEURISTICALLY_COMMITTED s_Joined_State_COMMITTED s_HEURISTIC_ABORT s_HEURISTIC_COMMIT s_COMMITTED_AGAINST_HEURISTIC s_HEURISTIC_MISMATCH s_COMMITTED_IN_ONE_PHASE s_TxnStatus_COMMITTED s_ABORTED_AGAINST_HEURISTIC s_Outcome_ABORTED s_PRE_ABORTED s_PRE_COMMITTED s_Joined_State_ABORTED s_TxnStatus_ABORTED)   :
    MetFree l (⟨"com/example/unanimity/unanimity/core/Joined$State", "awaitsDecision", "()Z"⟩ : MethodName) (head1 (Jvm.Cond.code (⟨"com/example/unanimity/unanimity/core/Joined$State", "awaitsDecision", "()Z"⟩ : MethodName) prog_7_method_5_code 1 (some .boolean) :: ws) ({ frames := 0, cells := 0, slots := 0, locals := 0 } : Room)) (fun a U => a = #[(.ref s_ABORTED_AGAINST_HEURISTIC)] ∧ Z.Warmed39 U.vm ∧ U.heap = h0) (fun _ _ _ _ _ => True) (fun _ U o U' => ∃ v L, o = .returned v ∧ own_Q (some (.int (0 : Int32))) h0 n0 v U'.heap L ∧ FrameEnd U o U' L ({ frames := 0, cells := 0, slots := 0, locals := 0 } : Room).cells ({ frames := 0, cells := 0, slots := 0, locals := 0 } : Room).slots) := by
  have G0 := G
  obtain ⟨S_PREPARED, E_PREPARED, O_PREPARED, S_IN_DOUBT, E_IN_DOUBT, O_IN_DOUBT, S_Outcome_COMMITTED, E_Outcome_COMMITTED, O_Outcome_COMMITTED, S_HEURISTICALLY_ABORTED, E_HEURISTICALLY_ABORTED, O_HEURISTICALLY_ABORTED, S_HEURISTICALLY_COMMITTED, E_HEURISTICALLY_COMMITTED, O_HEURISTICALLY_COMMITTED, S_Joined_State_COMMITTED, E_Joined_State_COMMITTED, S_HEURISTIC_ABORT, E_HEURISTIC_ABORT, O_HEURISTIC_ABORT, S_HEURISTIC_COMMIT, E_HEURISTIC_COMMIT, O_HEURISTIC_COMMIT, S_COMMITTED_AGAINST_HEURISTIC, E_COMMITTED_AGAINST_HEURISTIC, S_HEURISTIC_MISMATCH, E_HEURISTIC_MISMATCH, O_HEURISTIC_MISMATCH, S_COMMITTED_IN_ONE_PHASE, E_COMMITTED_IN_ONE_PHASE, S_TxnStatus_COMMITTED, E_TxnStatus_COMMITTED, O_TxnStatus_COMMITTED, S_ABORTED_AGAINST_HEURISTIC, E_ABORTED_AGAINST_HEURISTIC, S_Outcome_ABORTED, E_Outcome_ABORTED, O_Outcome_ABORTED, S_PRE_ABORTED, E_PRE_ABORTED, O_PRE_ABORTED, S_PRE_COMMITTED, E_PRE_COMMITTED, O_PRE_COMMITTED, S_Joined_State_ABORTED, E_Joined_State_ABORTED, S_TxnStatus_ABORTED, E_TxnStatus_ABORTED, O_TxnStatus_ABORTED, F_decision_PREPARED, F_status_PREPARED, F_decision_Joined_State_COMMITTED, F_decision_HEURISTICALLY_ABORTED, F_status_HEURISTICALLY_ABORTED, F_decision_COMMITTED_AGAINST_HEURISTIC, F_status_COMMITTED_AGAINST_HEURISTIC, F_decision_COMMITTED_IN_ONE_PHASE, F_status_COMMITTED_IN_ONE_PHASE, F_decision_ABORTED_AGAINST_HEURISTIC, F_status_ABORTED_AGAINST_HEURISTIC, F_decision_PRE_ABORTED, F_status_PRE_ABORTED, F_decision_HEURISTICALLY_COMMITTED, F_status_HEURISTICALLY_COMMITTED, F_decision_PRE_COMMITTED, F_status_PRE_COMMITTED, F_decision_Joined_State_ABORTED, F_status_Joined_State_COMMITTED, F_status_Joined_State_ABORTED⟩ := G
  refine MetFree.of_bodySF (plainFor_of_name pn_0) hisR ?_
  intro p e s m args below meth c s₁ Bd hml0 hP hK
  obtain ⟨rfl, hZ, hh⟩ := hP
  have hx := Bd.exec
  have hby := Bd.bytes
  have hml : c.maxLocals = 1 := hml0
  have hown : s.vm.findClass "com/example/unanimity/unanimity/core/Joined$State" = some m.cls := findClass_of_methodNamed Bd.named
  have hnm := (name_of_methodNamed Bd.named Bd.method).1
  have X0 : Stand p l e ({ frames := 0, cells := 0, slots := 0, locals := 0 } : Room) s m #[(.ref s_ABORTED_AGAINST_HEURISTIC)] below meth c s₁ [] 0 0 := Stand.of_body Bd
  have e0 : s₁.heap = h0 := by rw [← hh, Bd.state]; rfl
  have N0 := Fr.nil n0
  have pre0 : ∀ t, Steps p.tables e below (s₁.setTop (mkF m 0 #[.val (.ref s_ABORTED_AGAINST_HEURISTIC)] [])) t → Steps p.tables e below (s₁.setTop (entryFrame m #[(.ref s_ABORTED_AGAINST_HEURISTIC)] 1)) t := fun t k => castTop (ef_2_0 m s_ABORTED_AGAINST_HEURISTIC) k
  obtain ⟨T1, X1, e1, st1⟩ := getF X0 hx hZ hown (host := "") (Or.inl (hw _ (List.mem_of_getElem? (i := 13) rfl))) Via.refl e0 F_decision_ABORTED_AGAINST_HEURISTIC (g := (mkF m 1 #[.val (.ref s_ABORTED_AGAINST_HEURISTIC)] [(.ref s_ABORTED_AGAINST_HEURISTIC)])) rfl rfl (hb hby d2_1)
  obtain ⟨fs, hr, hrun, hended, hW, hsame⟩ := X1.leave (v := some (.int (0 : Int32))) (fun h => by rw [Bd.returns] at h; cases h)
  refine ⟨_, _, pre0 _ ?_, hrun, hended, _, _, rfl, ?_, ⟨_, rfl⟩, hW, hsame.mono (by decide) (by decide)⟩
  · show Steps p.tables e below (s₁.setTop (mkF m 0 #[.val (.ref s_ABORTED_AGAINST_HEURISTIC)] [])) _
    refine XS.aloadN X0.here hx rfl (hb hby d2_0) rfl rfl ?_
    show Steps p.tables e below (s₁.setTop (mkF m 1 #[.val (.ref s_ABORTED_AGAINST_HEURISTIC)] [(.ref s_ABORTED_AGAINST_HEURISTIC)])) _
    refine st1 _ ?_
    show Steps p.tables e below (T1.setTop (mkF m 4 #[.val (.ref s_ABORTED_AGAINST_HEURISTIC)] [(.ref s_Outcome_ABORTED)])) _
    refine XS.ifnonnullYes X1.here hx rfl (pc0 := 4) (pc' := 11) rfl (hb hby d2_4) rfl (by decide) (by decide) ?_
    show Steps p.tables e below (T1.setTop (mkF m 11 #[.val (.ref s_ABORTED_AGAINST_HEURISTIC)] [])) _
    refine XS.iconst X1.here hx rfl (hb hby d2_11) ?_
    show Steps p.tables e below (T1.setTop (mkF m 12 #[.val (.ref s_ABORTED_AGAINST_HEURISTIC)] [(.int (0 : Int32))])) _
    exact retN X1 hx (t := .boolean) Bd.returns (by simp) (hb hby d2_12) hr
  · show own_Q (some (.int (0 : Int32))) h0 n0 _ T1.heap _
    rw [e1]
    exact ⟨rfl, N0, rfl⟩
set_option maxRecDepth 65536 in
set_option maxHeartbeats 40000000 in
theorem r_in_9 (l : Launch) (Z : State) (a0 : Array Value) (hw : ∀ d ∈ tables_1, d.before a0 Z = true) (ws : List Jvm.Cond) (s_PREPARED s_IN_DOUBT s_Outcome_COMMITTED s_HEURISTICALLY_ABORTED s_HEURISTICALLY_COMMITTED s_Joined_State_COMMITTED s_HEURISTIC_ABORT s_HEURISTIC_COMMIT s_COMMITTED_AGAINST_HEURISTIC s_HEURISTIC_MISMATCH s_COMMITTED_IN_ONE_PHASE s_TxnStatus_COMMITTED s_ABORTED_AGAINST_HEURISTIC s_Outcome_ABORTED s_PRE_ABORTED s_PRE_COMMITTED s_Joined_State_ABORTED s_TxnStatus_ABORTED : Addr) (h0 : Heap) (n0 : Nat) (Z0 : n0 ≤ h0.size) (G : own_Ctx Z h0 s_PREPARED s_IN_DOUBT s_Outcome_COMMITTED s_HEURISTICALLY_ABORTED s_HEURISTICALLY_COMMITTED s_Joined_State_COMMITTED s_HEURISTIC_ABORT s_HEURISTIC_COMMIT s_COMMITTED_AGAINST_HEURISTIC s_HEURISTIC_MISMATCH s_COMMITTED_IN_ONE_PHASE s_TxnStatus_COMMITTED s_ABORTED_AGAINST_HEURISTIC s_Outcome_ABORTED s_PRE_ABORTED s_PRE_COMMITTED s_Joined_State_ABORTED s_TxnStatus_ABORTED)   :
    MetFree l (⟨"com/example/unanimity/unanimity/core/Joined$State", "inDoubt", "()Z"⟩ : MethodName) (head1 (Jvm.Cond.code (⟨"com/example/unanimity/unanimity/core/Joined$State", "inDoubt", "()Z"⟩ : MethodName) prog_7_method_4_code 1 (some .boolean) :: ws) ({ frames := 0, cells := 0, slots := 0, locals := 0 } : Room)) (fun a U => a = #[(.ref s_ABORTED_AGAINST_HEURISTIC)] ∧ Z.Warmed39 U.vm ∧ U.heap = h0) (fun _ _ _ _ _ => True) (fun _ U o U' => ∃ v L, o = .returned v ∧ own_Q (some (.int (0 : Int32))) h0 n0 v U'.heap L ∧ FrameEnd U o U' L ({ frames := 0, cells := 0, slots := 0, locals := 0 } : Room).cells ({ frames := 0, cells := 0, slots := 0, locals := 0 } : Room).slots) := by
  have G0 := G
  obtain ⟨S_PREPARED, E_PREPARED, O_PREPARED, S_IN_DOUBT, E_IN_DOUBT, O_IN_DOUBT, S_Outcome_COMMITTED, E_Outcome_COMMITTED, O_Outcome_COMMITTED, S_HEURISTICALLY_ABORTED, E_HEURISTICALLY_ABORTED, O_HEURISTICALLY_ABORTED, S_HEURISTICALLY_COMMITTED, E_HEURISTICALLY_COMMITTED, O_HEURISTICALLY_COMMITTED, S_Joined_State_COMMITTED, E_Joined_State_COMMITTED, S_HEURISTIC_ABORT, E_HEURISTIC_ABORT, O_HEURISTIC_ABORT, S_HEURISTIC_COMMIT, E_HEURISTIC_COMMIT, O_HEURISTIC_COMMIT, S_COMMITTED_AGAINST_HEURISTIC, E_COMMITTED_AGAINST_HEURISTIC, S_HEURISTIC_MISMATCH, E_HEURISTIC_MISMATCH, O_HEURISTIC_MISMATCH, S_COMMITTED_IN_ONE_PHASE, E_COMMITTED_IN_ONE_PHASE, S_TxnStatus_COMMITTED, E_TxnStatus_COMMITTED, O_TxnStatus_COMMITTED, S_ABORTED_AGAINST_HEURISTIC, E_ABORTED_AGAINST_HEURISTIC, S_Outcome_ABORTED, E_Outcome_ABORTED, O_Outcome_ABORTED, S_PRE_ABORTED, E_PRE_ABORTED, O_PRE_ABORTED, S_PRE_COMMITTED, E_PRE_COMMITTED, O_PRE_COMMITTED, S_Joined_State_ABORTED, E_Joined_State_ABORTED, S_TxnStatus_ABORTED, E_TxnStatus_ABORTED, O_TxnStatus_ABORTED, F_decision_PREPARED, F_status_PREPARED, F_decision_Joined_State_COMMITTED, F_decision_HEURISTICALLY_ABORTED, F_status_HEURISTICALLY_ABORTED, F_decision_COMMITTED_AGAINST_HEURISTIC, F_status_COMMITTED_AGAINST_HEURISTIC, F_decision_COMMITTED_IN_ONE_PHASE, F_status_COMMITTED_IN_ONE_PHASE, F_decision_ABORTED_AGAINST_HEURISTIC, F_status_ABORTED_AGAINST_HEURISTIC, F_decision_PRE_ABORTED, F_status_PRE_ABORTED, F_decision_HEURISTICALLY_COMMITTED, F_status_HEURISTICALLY_COMMITTED, F_decision_PRE_COMMITTED, F_status_PRE_COMMITTED, F_decision_Joined_State_ABORTED, F_status_Joined_State_COMMITTED, F_status_Joined_State_ABORTED⟩ := G
  refine MetFree.of_bodySF (plainFor_of_name pn_0) hisR ?_
  intro p e s m args below meth c s₁ Bd hml0 hP hK
  obtain ⟨rfl, hZ, hh⟩ := hP
  have hx := Bd.exec
  have hby := Bd.bytes
  have hml : c.maxLocals = 1 := hml0
  have hown : s.vm.findClass "com/example/unanimity/unanimity/core/Joined$State" = some m.cls := findClass_of_methodNamed Bd.named
  have hnm := (name_of_methodNamed Bd.named Bd.method).1
  have X0 : Stand p l e ({ frames := 0, cells := 0, slots := 0, locals := 0 } : Room) s m #[(.ref s_ABORTED_AGAINST_HEURISTIC)] below meth c s₁ [] 0 0 := Stand.of_body Bd
  have e0 : s₁.heap = h0 := by rw [← hh, Bd.state]; rfl
  have N0 := Fr.nil n0
  have pre0 : ∀ t, Steps p.tables e below (s₁.setTop (mkF m 0 #[.val (.ref s_ABORTED_AGAINST_HEURISTIC)] [])) t → Steps p.tables e below (s₁.setTop (entryFrame m #[(.ref s_ABORTED_AGAINST_HEURISTIC)] 1)) t := fun t k => castTop (ef_3_1 m s_ABORTED_AGAINST_HEURISTIC) k
  obtain ⟨T1, X1, e1, st1⟩ := getF X0 hx hZ hown (host := "") (Or.inl (hw _ (List.mem_of_getElem? (i := 20) rfl))) Via.refl e0 F_status_ABORTED_AGAINST_HEURISTIC (g := (mkF m 1 #[.val (.ref s_ABORTED_AGAINST_HEURISTIC)] [(.ref s_ABORTED_AGAINST_HEURISTIC)])) rfl rfl (hb hby d3_1)
  obtain ⟨T2, X2, e2, st2⟩ := getS2 X1 hx hZ hown (host := "") (Or.inl (hw _ (List.mem_of_getElem? (i := 24) rfl))) Via.refl e1 S_IN_DOUBT (g := (mkF m 4 #[.val (.ref s_ABORTED_AGAINST_HEURISTIC)] [(.ref s_HEURISTIC_MISMATCH)])) rfl (hb hby d3_4)
  obtain ⟨fs, hr, hrun, hended, hW, hsame⟩ := X2.leave (v := some (.int (0 : Int32))) (fun h => by rw [Bd.returns] at h; cases h)
  refine ⟨_, _, pre0 _ ?_, hrun, hended, _, _, rfl, ?_, ⟨_, rfl⟩, hW, hsame.mono (by decide) (by decide)⟩
  · show Steps p.tables e below (s₁.setTop (mkF m 0 #[.val (.ref s_ABORTED_AGAINST_HEURISTIC)] [])) _
    refine XS.aloadN X0.here hx rfl (hb hby d3_0) rfl rfl ?_
    show Steps p.tables e below (s₁.setTop (mkF m 1 #[.val (.ref s_ABORTED_AGAINST_HEURISTIC)] [(.ref s_ABORTED_AGAINST_HEURISTIC)])) _
    refine st1 _ ?_
    show Steps p.tables e below (T1.setTop (mkF m 4 #[.val (.ref s_ABORTED_AGAINST_HEURISTIC)] [(.ref s_HEURISTIC_MISMATCH)])) _
    refine st2 _ ?_
    show Steps p.tables e below (T2.setTop (mkF m 7 #[.val (.ref s_ABORTED_AGAINST_HEURISTIC)] [(.ref s_IN_DOUBT), (.ref s_HEURISTIC_MISMATCH)])) _
    refine Jvm.RoadKit.acmp (g := (mkF m 7 #[.val (.ref s_ABORTED_AGAINST_HEURISTIC)] [(.ref s_IN_DOUBT), (.ref s_HEURISTIC_MISMATCH)])) X2 hx rfl rfl rfl (pc0 := 7) (pc' := 14) (same := false) rfl (hb hby d3_7) rfl (decide_eq_false fun q => (Fld.ne O_HEURISTIC_MISMATCH O_IN_DOUBT (fun q => absurd (Value.int.inj q) (by decide))) (Value.ref.inj q)) (by decide) (by decide) ?_
    show Steps p.tables e below (T2.setTop (mkF m 14 #[.val (.ref s_ABORTED_AGAINST_HEURISTIC)] [])) _
    refine XS.iconst X2.here hx rfl (hb hby d3_14) ?_
    show Steps p.tables e below (T2.setTop (mkF m 15 #[.val (.ref s_ABORTED_AGAINST_HEURISTIC)] [(.int (0 : Int32))])) _
    exact retN X2 hx (t := .boolean) Bd.returns (by simp) (hb hby d3_15) hr
  · show own_Q (some (.int (0 : Int32))) h0 n0 _ T2.heap _
    rw [e2]
    exact ⟨rfl, N0, rfl⟩
theorem d5_0 : decode prog_7_method_7_code 0 = .ok (.aload_n 0, 1) := by decide +kernel
theorem d5_1 : decode prog_7_method_7_code 1 = .ok (.getstatic 73, 3) := by decide +kernel
theorem d5_4 : decode prog_7_method_7_code 4 = .ok (.if_acmp .ne 9, 3) := by decide +kernel
theorem d5_7 : decode prog_7_method_7_code 7 = .ok (.getstatic 19, 3) := by decide +kernel
theorem d5_10 : decode prog_7_method_7_code 10 = .ok (.goto 6, 3) := by decide +kernel
theorem d5_16 : decode prog_7_method_7_code 16 = .ok (.areturn, 1) := by decide +kernel
theorem ef_5_2 (m : MethodId) (x0 : Addr) : entryFrame m #[(.ref x0)] 1 = mkF m 0 #[.val (.ref x0)] [] := by first | (simp [entryFrame, mkF, argsToLocals, Value.category]; done) | rfl
set_option maxRecDepth 65536 in
set_option maxHeartbeats 40000000 in
theorem r_dec_Outcome_COMMITTED (l : Launch) (Z : State) (a0 : Array Value) (hw : ∀ d ∈ tables_1, d.before a0 Z = true) (ws : List Jvm.Cond) (s_PREPARED s_IN_DOUBT s_Outcome_COMMITTED s_HEURISTICALLY_ABORTED s_HEURISTICALLY_COMMITTED s_Joined_State_COMMITTED s_HEURISTIC_ABORT s_HEURISTIC_COMMIT s_COMMITTED_AGAINST_HEURISTIC s_HEURISTIC_MISMATCH s_COMMITTED_IN_ONE_PHASE s_TxnStatus_COMMITTED s_ABORTED_AGAINST_HEURISTIC s_Outcome_ABORTED s_PRE_ABORTED s_PRE_COMMITTED s_Joined_State_ABORTED s_TxnStatus_ABORTED : Addr) (h0 : Heap) (n0 : Nat) (Z0 : n0 ≤ h0.size) (G : own_Ctx Z h0 s_PREPARED s_IN_DOUBT s_Outcome_COMMITTED s_HEURISTICALLY_ABORTED s_HEURISTICALLY_COMMITTED s_Joined_State_COMMITTED s_HEURISTIC_ABORT s_HEURISTIC_COMMIT s_COMMITTED_AGAINST_HEURISTIC s_HEURISTIC_MISMATCH s_COMMITTED_IN_ONE_PHASE s_TxnStatus_COMMITTED s_ABORTED_AGAINST_HEURISTIC s_Outcome_ABORTED s_PRE_ABORTED s_PRE_COMMITTED s_Joined_State_ABORTED s_TxnStatus_ABORTED)   :
    MetFree l (⟨"com/example/unanimity/unanimity/core/Joined$State", "decided", "(Lcom/example/unanimity/unanimity/core/Outcome;)Lcom/example/unanimity/unanimity/core/Joined$State;"⟩ : MethodName) (head1 (Jvm.Cond.code (⟨"com/example/unanimity/unanimity/core/Joined$State", "decided", "(Lcom/example/unanimity/unanimity/core/Outcome;)Lcom/example/unanimity/unanimity/core/Joined$State;"⟩ : MethodName) prog_7_method_7_code 1 (some (.object "com/example/unanimity/unanimity/core/Joined$State")) :: ws) ({ frames := 0, cells := 0, slots := 0, locals := 0 } : Room)) (fun a U => a = #[(.ref s_Outcome_COMMITTED)] ∧ Z.Warmed39 U.vm ∧ U.heap = h0) (fun _ _ _ _ _ => True) (fun _ U o U' => ∃ v L, o = .returned v ∧ own_Q (some (.ref s_Joined_State_COMMITTED)) h0 n0 v U'.heap L ∧ FrameEnd U o U' L ({ frames := 0, cells := 0, slots := 0, locals := 0 } : Room).cells ({ frames := 0, cells := 0, slots := 0, locals := 0 } : Room).slots) := by
  have G0 := G
  obtain ⟨S_PREPARED, E_PREPARED, O_PREPARED, S_IN_DOUBT, E_IN_DOUBT, O_IN_DOUBT, S_Outcome_COMMITTED, E_Outcome_COMMITTED, O_Outcome_COMMITTED, S_HEURISTICALLY_ABORTED, E_HEURISTICALLY_ABORTED, O_HEURISTICALLY_ABORTED, S_HEURISTICALLY_COMMITTED, E_HEURISTICALLY_COMMITTED, O_HEURISTICALLY_COMMITTED, S_Joined_State_COMMITTED, E_Joined_State_COMMITTED, S_HEURISTIC_ABORT, E_HEURISTIC_ABORT, O_HEURISTIC_ABORT, S_HEURISTIC_COMMIT, E_HEURISTIC_COMMIT, O_HEURISTIC_COMMIT, S_COMMITTED_AGAINST_HEURISTIC, E_COMMITTED_AGAINST_HEURISTIC, S_HEURISTIC_MISMATCH, E_HEURISTIC_MISMATCH, O_HEURISTIC_MISMATCH, S_COMMITTED_IN_ONE_PHASE, E_COMMITTED_IN_ONE_PHASE, S_TxnStatus_COMMITTED, E_TxnStatus_COMMITTED, O_TxnStatus_COMMITTED, S_ABORTED_AGAINST_HEURISTIC, E_ABORTED_AGAINST_HEURISTIC, S_Outcome_ABORTED, E_Outcome_ABORTED, O_Outcome_ABORTED, S_PRE_ABORTED, E_PRE_ABORTED, O_PRE_ABORTED, S_PRE_COMMITTED, E_PRE_COMMITTED, O_PRE_COMMITTED, S_Joined_State_ABORTED, E_Joined_State_ABORTED, S_TxnStatus_ABORTED, E_TxnStatus_ABORTED, O_TxnStatus_ABORTED, F_decision_PREPARED, F_status_PREPARED, F_decision_Joined_State_COMMITTED, F_decision_HEURISTICALLY_ABORTED, F_status_HEURISTICALLY_ABORTED, F_decision_COMMITTED_AGAINST_HEURISTIC, F_status_COMMITTED_AGAINST_HEURISTIC, F_decision_COMMITTED_IN_ONE_PHASE, F_status_COMMITTED_IN_ONE_PHASE, F_decision_ABORTED_AGAINST_HEURISTIC, F_status_ABORTED_AGAINST_HEURISTIC, F_decision_PRE_ABORTED, F_status_PRE_ABORTED, F_decision_HEURISTICALLY_COMMITTED, F_status_HEURISTICALLY_COMMITTED, F_decision_PRE_COMMITTED, F_status_PRE_COMMITTED, F_decision_Joined_State_ABORTED, F_status_Joined_State_COMMITTED, F_status_Joined_State_ABORTED⟩ := G
  refine MetFree.of_bodySF (plainFor_of_name pn_0) hisR ?_
  intro p e s m args below meth c s₁ Bd hml0 hP hK
  obtain ⟨rfl, hZ, hh⟩ := hP
  have hx := Bd.exec
  have hby := Bd.bytes
  have hml : c.maxLocals = 1 := hml0
  have hown : s.vm.findClass "com/example/unanimity/unanimity/core/Joined$State" = some m.cls := findClass_of_methodNamed Bd.named
  have hnm := (name_of_methodNamed Bd.named Bd.method).1
  have X0 : Stand p l e ({ frames := 0, cells := 0, slots := 0, locals := 0 } : Room) s m #[(.ref s_Outcome_COMMITTED)] below meth c s₁ [] 0 0 := Stand.of_body Bd
  have e0 : s₁.heap = h0 := by rw [← hh, Bd.state]; rfl
  have N0 := Fr.nil n0
  have pre0 : ∀ t, Steps p.tables e below (s₁.setTop (mkF m 0 #[.val (.ref s_Outcome_COMMITTED)] [])) t → Steps p.tables e below (s₁.setTop (entryFrame m #[(.ref s_Outcome_COMMITTED)] 1)) t := fun t k => castTop (ef_5_2 m s_Outcome_COMMITTED) k
  obtain ⟨T1, X1, e1, st1⟩ := getS2 X0 hx hZ hown (host := "") (Or.inl (hw _ (List.mem_of_getElem? (i := 40) rfl))) Via.refl e0 S_Outcome_COMMITTED (g := (mkF m 1 #[.val (.ref s_Outcome_COMMITTED)] [(.ref s_Outcome_COMMITTED)])) rfl (hb hby d5_1)
  obtain ⟨T2, X2, e2, st2⟩ := getS2 X1 hx hZ hown (host := "") (Or.inl (hw _ (List.mem_of_getElem? (i := 41) rfl))) Via.refl e1 S_Joined_State_COMMITTED (g := (mkF m 7 #[.val (.ref s_Outcome_COMMITTED)] [])) rfl (hb hby d5_7)
  obtain ⟨fs, hr, hrun, hended, hW, hsame⟩ := X2.leave (v := some (.ref s_Joined_State_COMMITTED)) (fun h => by rw [Bd.returns] at h; cases h)
  refine ⟨_, _, pre0 _ ?_, hrun, hended, _, _, rfl, ?_, ⟨_, rfl⟩, hW, hsame.mono (by decide) (by decide)⟩
  · show Steps p.tables e below (s₁.setTop (mkF m 0 #[.val (.ref s_Outcome_COMMITTED)] [])) _
    refine XS.aloadN X0.here hx rfl (hb hby d5_0) rfl rfl ?_
    show Steps p.tables e below (s₁.setTop (mkF m 1 #[.val (.ref s_Outcome_COMMITTED)] [(.ref s_Outcome_COMMITTED)])) _
    refine st1 _ ?_
    show Steps p.tables e below (T1.setTop (mkF m 4 #[.val (.ref s_Outcome_COMMITTED)] [(.ref s_Outcome_COMMITTED), (.ref s_Outcome_COMMITTED)])) _
    refine Jvm.RoadKit.acmp (g := (mkF m 4 #[.val (.ref s_Outcome_COMMITTED)] [(.ref s_Outcome_COMMITTED), (.ref s_Outcome_COMMITTED)])) X1 hx rfl rfl rfl (pc0 := 4) (pc' := 7) (same := true) rfl (hb hby d5_4) rfl (decide_eq_true rfl) (by decide) (by decide) ?_
    show Steps p.tables e below (T1.setTop (mkF m 7 #[.val (.ref s_Outcome_COMMITTED)] [])) _
    refine st2 _ ?_
    show Steps p.tables e below (T2.setTop (mkF m 10 #[.val (.ref s_Outcome_COMMITTED)] [(.ref s_Joined_State_COMMITTED)])) _
    refine XS.goto X2.here hx rfl (pc0 := 10) (pc' := 16) rfl (hb hby d5_10) (by decide) (by decide) ?_
    show Steps p.tables e below (T2.setTop (mkF m 16 #[.val (.ref s_Outcome_COMMITTED)] [(.ref s_Joined_State_COMMITTED)])) _
    exact retOut X2 hx Bd.returns rfl (Or.inr (Or.inr (Or.inr (Or.inr ⟨rfl, rfl, rfl⟩)))) (hb hby d5_16) hr
  · show own_Q (some (.ref s_Joined_State_COMMITTED)) h0 n0 _ T2.heap _
    rw [e2]
    exact ⟨rfl, N0, rfl⟩
theorem d5_13 : decode prog_7_method_7_code 13 = .ok (.getstatic 25, 3) := by decide +kernel
set_option maxRecDepth 65536 in
set_option maxHeartbeats 40000000 in
theorem r_dec_Outcome_ABORTED (l : Launch) (Z : State) (a0 : Array Value) (hw : ∀ d ∈ tables_1, d.before a0 Z = true) (ws : List Jvm.Cond) (s_PREPARED s_IN_DOUBT s_Outcome_COMMITTED s_HEURISTICALLY_ABORTED s_HEURISTICALLY_COMMITTED s_Joined_State_COMMITTED s_HEURISTIC_ABORT s_HEURISTIC_COMMIT s_COMMITTED_AGAINST_HEURISTIC s_HEURISTIC_MISMATCH s_COMMITTED_IN_ONE_PHASE s_TxnStatus_COMMITTED s_ABORTED_AGAINST_HEURISTIC s_Outcome_ABORTED s_PRE_ABORTED s_PRE_COMMITTED s_Joined_State_ABORTED s_TxnStatus_ABORTED : Addr) (h0 : Heap) (n0 : Nat) (Z0 : n0 ≤ h0.size) (G : own_Ctx Z h0 s_PREPARED s_IN_DOUBT s_Outcome_COMMITTED s_HEURISTICALLY_ABORTED s_HEURISTICALLY_COMMITTED s_Joined_State_COMMITTED s_HEURISTIC_ABORT s_HEURISTIC_COMMIT s_COMMITTED_AGAINST_HEURISTIC s_HEURISTIC_MISMATCH s_COMMITTED_IN_ONE_PHASE s_TxnStatus_COMMITTED s_ABORTED_AGAINST_HEURISTIC s_Outcome_ABORTED s_PRE_ABORTED s_PRE_COMMITTED s_Joined_State_ABORTED s_TxnStatus_ABORTED)   :
    MetFree l (⟨"com/example/unanimity/unanimity/core/Joined$State", "decided", "(Lcom/example/unanimity/unanimity/core/Outcome;)Lcom/example/unanimity/unanimity/core/Joined$State;"⟩ : MethodName) (head1 (Jvm.Cond.code (⟨"com/example/unanimity/unanimity/core/Joined$State", "decided", "(Lcom/example/unanimity/unanimity/core/Outcome;)Lcom/example/unanimity/unanimity/core/Joined$State;"⟩ : MethodName) prog_7_method_7_code 1 (some (.object "com/example/unanimity/unanimity/core/Joined$State")) :: ws) ({ frames := 0, cells := 0, slots := 0, locals := 0 } : Room)) (fun a U => a = #[(.ref s_Outcome_ABORTED)] ∧ Z.Warmed39 U.vm ∧ U.heap = h0) (fun _ _ _ _ _ => True) (fun _ U o U' => ∃ v L, o = .returned v ∧ own_Q (some (.ref s_Joined_State_ABORTED)) h0 n0 v U'.heap L ∧ FrameEnd U o U' L ({ frames := 0, cells := 0, slots := 0, locals := 0 } : Room).cells ({ frames := 0, cells := 0, slots := 0, locals := 0 } : Room).slots) := by
  have G0 := G
  obtain ⟨S_PREPARED, E_PREPARED, O_PREPARED, S_IN_DOUBT, E_IN_DOUBT, O_IN_DOUBT, S_Outcome_COMMITTED, E_Outcome_COMMITTED, O_Outcome_COMMITTED, S_HEURISTICALLY_ABORTED, E_HEURISTICALLY_ABORTED, O_HEURISTICALLY_ABORTED, S_HEURISTICALLY_COMMITTED, E_HEURISTICALLY_COMMITTED, O_HEURISTICALLY_COMMITTED, S_Joined_State_COMMITTED, E_Joined_State_COMMITTED, S_HEURISTIC_ABORT, E_HEURISTIC_ABORT, O_HEURISTIC_ABORT, S_HEURISTIC_COMMIT, E_HEURISTIC_COMMIT, O_HEURISTIC_COMMIT, S_COMMITTED_AGAINST_HEURISTIC, E_COMMITTED_AGAINST_HEURISTIC, S_HEURISTIC_MISMATCH, E_HEURISTIC_MISMATCH, O_HEURISTIC_MISMATCH, S_COMMITTED_IN_ONE_PHASE, E_COMMITTED_IN_ONE_PHASE, S_TxnStatus_COMMITTED, E_TxnStatus_COMMITTED, O_TxnStatus_COMMITTED, S_ABORTED_AGAINST_HEURISTIC, E_ABORTED_AGAINST_HEURISTIC, S_Outcome_ABORTED, E_Outcome_ABORTED, O_Outcome_ABORTED, S_PRE_ABORTED, E_PRE_ABORTED, O_PRE_ABORTED, S_PRE_COMMITTED, E_PRE_COMMITTED, O_PRE_COMMITTED, S_Joined_State_ABORTED, E_Joined_State_ABORTED, S_TxnStatus_ABORTED, E_TxnStatus_ABORTED, O_TxnStatus_ABORTED, F_decision_PREPARED, F_status_PREPARED, F_decision_Joined_State_COMMITTED, F_decision_HEURISTICALLY_ABORTED, F_status_HEURISTICALLY_ABORTED, F_decision_COMMITTED_AGAINST_HEURISTIC, F_status_COMMITTED_AGAINST_HEURISTIC, F_decision_COMMITTED_IN_ONE_PHASE, F_status_COMMITTED_IN_ONE_PHASE, F_decision_ABORTED_AGAINST_HEURISTIC, F_status_ABORTED_AGAINST_HEURISTIC, F_decision_PRE_ABORTED, F_status_PRE_ABORTED, F_decision_HEURISTICALLY_COMMITTED, F_status_HEURISTICALLY_COMMITTED, F_decision_PRE_COMMITTED, F_status_PRE_COMMITTED, F_decision_Joined_State_ABORTED, F_status_Joined_State_COMMITTED, F_status_Joined_State_ABORTED⟩ := G
  refine MetFree.of_bodySF (plainFor_of_name pn_0) hisR ?_
  intro p e s m args below meth c s₁ Bd hml0 hP hK
  obtain ⟨rfl, hZ, hh⟩ := hP
  have hx := Bd.exec
  have hby := Bd.bytes
  have hml : c.maxLocals = 1 := hml0
  have hown : s.vm.findClass "com/example/unanimity/unanimity/core/Joined$State" = some m.cls := findClass_of_methodNamed Bd.named
  have hnm := (name_of_methodNamed Bd.named Bd.method).1
  have X0 : Stand p l e ({ frames := 0, cells := 0, slots := 0, locals := 0 } : Room) s m #[(.ref s_Outcome_ABORTED)] below meth c s₁ [] 0 0 := Stand.of_body Bd
  have e0 : s₁.heap = h0 := by rw [← hh, Bd.state]; rfl
  have N0 := Fr.nil n0
  have pre0 : ∀ t, Steps p.tables e below (s₁.setTop (mkF m 0 #[.val (.ref s_Outcome_ABORTED)] [])) t → Steps p.tables e below (s₁.setTop (entryFrame m #[(.ref s_Outcome_ABORTED)] 1)) t := fun t k => castTop (ef_5_2 m s_Outcome_ABORTED) k
  obtain ⟨T1, X1, e1, st1⟩ := getS2 X0 hx hZ hown (host := "") (Or.inl (hw _ (List.mem_of_getElem? (i := 40) rfl))) Via.refl e0 S_Outcome_COMMITTED (g := (mkF m 1 #[.val (.ref s_Outcome_ABORTED)] [(.ref s_Outcome_ABORTED)])) rfl (hb hby d5_1)
  obtain ⟨T2, X2, e2, st2⟩ := getS2 X1 hx hZ hown (host := "") (Or.inl (hw _ (List.mem_of_getElem? (i := 66) rfl))) Via.refl e1 S_Joined_State_ABORTED (g := (mkF m 13 #[.val (.ref s_Outcome_ABORTED)] [])) rfl (hb hby d5_13)
  obtain ⟨fs, hr, hrun, hended, hW, hsame⟩ := X2.leave (v := some (.ref s_Joined_State_ABORTED)) (fun h => by rw [Bd.returns] at h; cases h)
  refine ⟨_, _, pre0 _ ?_, hrun, hended, _, _, rfl, ?_, ⟨_, rfl⟩, hW, hsame.mono (by decide) (by decide)⟩
  · show Steps p.tables e below (s₁.setTop (mkF m 0 #[.val (.ref s_Outcome_ABORTED)] [])) _
    refine XS.aloadN X0.here hx rfl (hb hby d5_0) rfl rfl ?_
    show Steps p.tables e below (s₁.setTop (mkF m 1 #[.val (.ref s_Outcome_ABORTED)] [(.ref s_Outcome_ABORTED)])) _
    refine st1 _ ?_
    show Steps p.tables e below (T1.setTop (mkF m 4 #[.val (.ref s_Outcome_ABORTED)] [(.ref s_Outcome_COMMITTED), (.ref s_Outcome_ABORTED)])) _
    refine Jvm.RoadKit.acmp (g := (mkF m 4 #[.val (.ref s_Outcome_ABORTED)] [(.ref s_Outcome_COMMITTED), (.ref s_Outcome_ABORTED)])) X1 hx rfl rfl rfl (pc0 := 4) (pc' := 13) (same := false) rfl (hb hby d5_4) rfl (decide_eq_false fun q => (Fld.ne O_Outcome_ABORTED O_Outcome_COMMITTED (fun q => absurd (Value.int.inj q) (by decide))) (Value.ref.inj q)) (by decide) (by decide) ?_
    show Steps p.tables e below (T1.setTop (mkF m 13 #[.val (.ref s_Outcome_ABORTED)] [])) _
    refine st2 _ ?_
    show Steps p.tables e below (T2.setTop (mkF m 16 #[.val (.ref s_Outcome_ABORTED)] [(.ref s_Joined_State_ABORTED)])) _
    exact retOut X2 hx Bd.returns rfl (Or.inr (Or.inr (Or.inr (Or.inr ⟨rfl, rfl, rfl⟩)))) (hb hby d5_16) hr
  · show own_Q (some (.ref s_Joined_State_ABORTED)) h0 n0 _ T2.heap _
    rw [e2]
    exact ⟨rfl, N0, rfl⟩
theorem d4_0 : decode prog_7_method_6_code 0 = .ok (.aload_n 0, 1) := by decide +kernel
theorem d4_1 : decode prog_7_method_6_code 1 = .ok (.getstatic 16, 3) := by decide +kernel
theorem d4_4 : decode prog_7_method_6_code 4 = .ok (.if_acmp .ne 10, 3) := by decide +kernel
theorem d4_14 : decode prog_7_method_6_code 14 = .ok (.aload_n 0, 1) := by decide +kernel
theorem d4_15 : decode prog_7_method_6_code 15 = .ok (.getstatic 13, 3) := by decide +kernel
theorem d4_18 : decode prog_7_method_6_code 18 = .ok (.if_acmp .ne 14, 3) := by decide +kernel
theorem d4_32 : decode prog_7_method_6_code 32 = .ok (.iconst 0, 1) := by decide +kernel
theorem d4_33 : decode prog_7_method_6_code 33 = .ok (.istore_n 2, 1) := by decide +kernel
theorem d4_34 : decode prog_7_method_6_code 34 = .ok (.iload_n 2, 1) := by decide +kernel
theorem d4_35 : decode prog_7_method_6_code 35 = .ok (.ifCond .eq 17, 3) := by decide +kernel
theorem d4_52 : decode prog_7_method_6_code 52 = .ok (.iload_n 2, 1) := by decide +kernel
theorem d4_53 : decode prog_7_method_6_code 53 = .ok (.ifCond .eq 10, 3) := by decide +kernel
theorem d4_63 : decode prog_7_method_6_code 63 = .ok (.aload_n 1, 1) := by decide +kernel
theorem d4_64 : decode prog_7_method_6_code 64 = .ok (.invokestatic 79, 3) := by decide +kernel
theorem pd_0 : parseMethodDescriptor "(Lcom/example/unanimity/unanimity/core/Outcome;)Lcom/example/unanimity/unanimity/core/Joined$State;" = some ⟨[(.object "com/example/unanimity/unanimity/core/Outcome")], some (.object "com/example/unanimity/unanimity/core/Joined$State")⟩ := by decide +kernel
theorem d4_67 : decode prog_7_method_6_code 67 = .ok (.astore_n 3, 1) := by decide +kernel
theorem d4_68 : decode prog_7_method_6_code 68 = .ok (.aload_n 3, 1) := by decide +kernel
theorem d4_69 : decode prog_7_method_6_code 69 = .ok (.areturn, 1) := by decide +kernel
theorem ef_4_3 (m : MethodId) (x0 : Addr) (x1 : Addr) : entryFrame m #[(.ref x0), (.ref x1)] 4 = mkF m 0 #[.val (.ref x0), .val (.ref x1), .unset, .unset] [] := by first | (simp [entryFrame, mkF, argsToLocals, Value.category]; done) | rfl
set_option maxRecDepth 65536 in
set_option maxHeartbeats 40000000 in
theorem r_after_0_Outcome_COMMITTED (l : Launch) (Z : State) (a0 : Array Value) (hw : ∀ d ∈ tables_1, d.before a0 Z = true) (ws : List Jvm.Cond) (s_PREPARED s_IN_DOUBT s_Outcome_COMMITTED s_HEURISTICALLY_ABORTED s_HEURISTICALLY_COMMITTED s_Joined_State_COMMITTED s_HEURISTIC_ABORT s_HEURISTIC_COMMIT s_COMMITTED_AGAINST_HEURISTIC s_HEURISTIC_MISMATCH s_COMMITTED_IN_ONE_PHASE s_TxnStatus_COMMITTED s_ABORTED_AGAINST_HEURISTIC s_Outcome_ABORTED s_PRE_ABORTED s_PRE_COMMITTED s_Joined_State_ABORTED s_TxnStatus_ABORTED : Addr) (h0 : Heap) (n0 : Nat) (Z0 : n0 ≤ h0.size) (G : own_Ctx Z h0 s_PREPARED s_IN_DOUBT s_Outcome_COMMITTED s_HEURISTICALLY_ABORTED s_HEURISTICALLY_COMMITTED s_Joined_State_COMMITTED s_HEURISTIC_ABORT s_HEURISTIC_COMMIT s_COMMITTED_AGAINST_HEURISTIC s_HEURISTIC_MISMATCH s_COMMITTED_IN_ONE_PHASE s_TxnStatus_COMMITTED s_ABORTED_AGAINST_HEURISTIC s_Outcome_ABORTED s_PRE_ABORTED s_PRE_COMMITTED s_Joined_State_ABORTED s_TxnStatus_ABORTED)   :
    MetFree l (⟨"com/example/unanimity/unanimity/core/Joined$State", "after", "(Lcom/example/unanimity/unanimity/core/Outcome;)Lcom/example/unanimity/unanimity/core/Joined$State;"⟩ : MethodName) (head1 (Jvm.Cond.code (⟨"com/example/unanimity/unanimity/core/Joined$State", "after", "(Lcom/example/unanimity/unanimity/core/Outcome;)Lcom/example/unanimity/unanimity/core/Joined$State;"⟩ : MethodName) prog_7_method_6_code 4 (some (.object "com/example/unanimity/unanimity/core/Joined$State")) :: ws) ({ frames := 1, cells := 0, slots := 0, locals := 12 } : Room)) (fun a U => a = #[(.ref s_PREPARED), (.ref s_Outcome_COMMITTED)] ∧ Z.Warmed39 U.vm ∧ U.heap = h0) (fun _ _ _ _ _ => True) (fun _ U o U' => ∃ v L, o = .returned v ∧ own_Q (some (.ref s_Joined_State_COMMITTED)) h0 n0 v U'.heap L ∧ FrameEnd U o U' L ({ frames := 1, cells := 0, slots := 0, locals := 12 } : Room).cells ({ frames := 1, cells := 0, slots := 0, locals := 12 } : Room).slots) := by
  have G0 := G
  obtain ⟨S_PREPARED, E_PREPARED, O_PREPARED, S_IN_DOUBT, E_IN_DOUBT, O_IN_DOUBT, S_Outcome_COMMITTED, E_Outcome_COMMITTED, O_Outcome_COMMITTED, S_HEURISTICALLY_ABORTED, E_HEURISTICALLY_ABORTED, O_HEURISTICALLY_ABORTED, S_HEURISTICALLY_COMMITTED, E_HEURISTICALLY_COMMITTED, O_HEURISTICALLY_COMMITTED, S_Joined_State_COMMITTED, E_Joined_State_COMMITTED, S_HEURISTIC_ABORT, E_HEURISTIC_ABORT, O_HEURISTIC_ABORT, S_HEURISTIC_COMMIT, E_HEURISTIC_COMMIT, O_HEURISTIC_COMMIT, S_COMMITTED_AGAINST_HEURISTIC, E_COMMITTED_AGAINST_HEURISTIC, S_HEURISTIC_MISMATCH, E_HEURISTIC_MISMATCH, O_HEURISTIC_MISMATCH, S_COMMITTED_IN_ONE_PHASE, E_COMMITTED_IN_ONE_PHASE, S_TxnStatus_COMMITTED, E_TxnStatus_COMMITTED, O_TxnStatus_COMMITTED, S_ABORTED_AGAINST_HEURISTIC, E_ABORTED_AGAINST_HEURISTIC, S_Outcome_ABORTED, E_Outcome_ABORTED, O_Outcome_ABORTED, S_PRE_ABORTED, E_PRE_ABORTED, O_PRE_ABORTED, S_PRE_COMMITTED, E_PRE_COMMITTED, O_PRE_COMMITTED, S_Joined_State_ABORTED, E_Joined_State_ABORTED, S_TxnStatus_ABORTED, E_TxnStatus_ABORTED, O_TxnStatus_ABORTED, F_decision_PREPARED, F_status_PREPARED, F_decision_Joined_State_COMMITTED, F_decision_HEURISTICALLY_ABORTED, F_status_HEURISTICALLY_ABORTED, F_decision_COMMITTED_AGAINST_HEURISTIC, F_status_COMMITTED_AGAINST_HEURISTIC, F_decision_COMMITTED_IN_ONE_PHASE, F_status_COMMITTED_IN_ONE_PHASE, F_decision_ABORTED_AGAINST_HEURISTIC, F_status_ABORTED_AGAINST_HEURISTIC, F_decision_PRE_ABORTED, F_status_PRE_ABORTED, F_decision_HEURISTICALLY_COMMITTED, F_status_HEURISTICALLY_COMMITTED, F_decision_PRE_COMMITTED, F_status_PRE_COMMITTED, F_decision_Joined_State_ABORTED, F_status_Joined_State_COMMITTED, F_status_Joined_State_ABORTED⟩ := G
  refine MetFree.of_bodySF (plainFor_of_name pn_0) hisR ?_
  intro p e s m args below meth c s₁ Bd hml0 hP hK
  obtain ⟨rfl, hZ, hh⟩ := hP
  have hx := Bd.exec
  have hby := Bd.bytes
  have hml : c.maxLocals = 4 := hml0
  have hown : s.vm.findClass "com/example/unanimity/unanimity/core/Joined$State" = some m.cls := findClass_of_methodNamed Bd.named
  have hnm := (name_of_methodNamed Bd.named Bd.method).1
  have X0 : Stand p l e ({ frames := 1, cells := 0, slots := 0, locals := 12 } : Room) s m #[(.ref s_PREPARED), (.ref s_Outcome_COMMITTED)] below meth c s₁ [] 0 0 := Stand.of_body Bd
  have e0 : s₁.heap = h0 := by rw [← hh, Bd.state]; rfl
  have N0 := Fr.nil n0
  have pre0 : ∀ t, Steps p.tables e below (s₁.setTop (mkF m 0 #[.val (.ref s_PREPARED), .val (.ref s_Outcome_COMMITTED), .unset, .unset] [])) t → Steps p.tables e below (s₁.setTop (entryFrame m #[(.ref s_PREPARED), (.ref s_Outcome_COMMITTED)] 4)) t := fun t k => castTop (ef_4_3 m s_PREPARED s_Outcome_COMMITTED) k
  obtain ⟨T1, X1, e1, st1⟩ := getS2 X0 hx hZ hown (host := "") (Or.inl (hw _ (List.mem_of_getElem? (i := 33) rfl))) Via.refl e0 S_HEURISTICALLY_ABORTED (g := (mkF m 1 #[.val (.ref s_PREPARED), .val (.ref s_Outcome_COMMITTED), .unset, .unset] [(.ref s_PREPARED)])) rfl (hb hby d4_1)
  obtain ⟨T2, X2, e2, st2⟩ := getS2 X1 hx hZ hown (host := "") (Or.inl (hw _ (List.mem_of_getElem? (i := 35) rfl))) Via.refl e1 S_HEURISTICALLY_COMMITTED (g := (mkF m 15 #[.val (.ref s_PREPARED), .val (.ref s_Outcome_COMMITTED), .unset, .unset] [(.ref s_PREPARED)])) rfl (hb hby d4_15)
  obtain ⟨_, _, ⟨T3, L3, k3, n3⟩, -, X3, ⟨Lc3, hQ3, l3, y3, z3⟩, st3⟩ := Jvm.LawKit.callS X2 hx (y := (⟨"com/example/unanimity/unanimity/core/Joined$State", "decided", "(Lcom/example/unanimity/unanimity/core/Outcome;)Lcom/example/unanimity/unanimity/core/Joined$State;"⟩ : MethodName)) hown (mvT hZ (hw _ (List.mem_of_getElem? (i := 37) rfl))) (mvT hZ (hw _ (List.mem_of_getElem? (i := 38) rfl))) (mvT hZ (hw _ (List.mem_of_getElem? (i := 6) rfl))) (mvT hZ (hw _ (List.mem_of_getElem? (i := 39) rfl))) (by decide) (backOf (W := 0) (r_dec_Outcome_COMMITTED l Z a0 hw [] s_PREPARED s_IN_DOUBT s_Outcome_COMMITTED s_HEURISTICALLY_ABORTED s_HEURISTICALLY_COMMITTED s_Joined_State_COMMITTED s_HEURISTIC_ABORT s_HEURISTIC_COMMIT s_COMMITTED_AGAINST_HEURISTIC s_HEURISTIC_MISMATCH s_COMMITTED_IN_ONE_PHASE s_TxnStatus_COMMITTED s_ABORTED_AGAINST_HEURISTIC s_Outcome_ABORTED s_PRE_ABORTED s_PRE_COMMITTED s_Joined_State_ABORTED s_TxnStatus_ABORTED h0 n0 Z0 G0) hZ (hw _ (List.mem_of_getElem? (i := 39) rfl)) (hw _ (List.mem_of_getElem? (i := 6) rfl)) (by decide) (by decide)) (g := (mkF m 64 #[.val (.ref s_PREPARED), .val (.ref s_Outcome_COMMITTED), .val (.int (0 : Int32)), .unset] [(.ref s_Outcome_COMMITTED)])) rfl (by rw [hml]; rfl) (argsL := [(.ref s_Outcome_COMMITTED)]) (rest := []) (lenOf pd_0 rfl) rfl (by show 2 * 0 + _ ≤ _; exact Nat.le_of_eq rfl) (hb hby d4_64) (fun _ _ => ⟨rfl, e2, (by decide : 0 + 0 ≤ _), (by decide : 0 + 0 ≤ _)⟩)
  dsimp only [Pt.U, Pt.locs, Pt.cells, Pt.slots] at X3 l3 y3 z3 st3 hQ3
  subst l3 y3 z3
  obtain ⟨rfl, N3q, e3⟩ := hQ3
  have N3 := Fr.app N0 N3q
  obtain ⟨fs, hr, hrun, hended, hW, hsame⟩ := X3.leave (v := some (.ref s_Joined_State_COMMITTED)) (fun h => by rw [Bd.returns] at h; cases h)
  refine ⟨_, _, pre0 _ ?_, hrun, hended, _, _, rfl, ?_, ⟨_, rfl⟩, hW, hsame.mono (by decide) (by decide)⟩
  · show Steps p.tables e below (s₁.setTop (mkF m 0 #[.val (.ref s_PREPARED), .val (.ref s_Outcome_COMMITTED), .unset, .unset] [])) _
    refine XS.aloadN X0.here hx rfl (hb hby d4_0) rfl rfl ?_
    show Steps p.tables e below (s₁.setTop (mkF m 1 #[.val (.ref s_PREPARED), .val (.ref s_Outcome_COMMITTED), .unset, .unset] [(.ref s_PREPARED)])) _
    refine st1 _ ?_
    show Steps p.tables e below (T1.setTop (mkF m 4 #[.val (.ref s_PREPARED), .val (.ref s_Outcome_COMMITTED), .unset, .unset] [(.ref s_HEURISTICALLY_ABORTED), (.ref s_PREPARED)])) _
    refine Jvm.RoadKit.acmp (g := (mkF m 4 #[.val (.ref s_PREPARED), .val (.ref s_Outcome_COMMITTED), .unset, .unset] [(.ref s_HEURISTICALLY_ABORTED), (.ref s_PREPARED)])) X1 hx rfl rfl rfl (pc0 := 4) (pc' := 14) (same := false) rfl (hb hby d4_4) rfl (decide_eq_false fun q => (Fld.ne O_PREPARED O_HEURISTICALLY_ABORTED (fun q => absurd (Value.int.inj q) (by decide))) (Value.ref.inj q)) (by decide) (by decide) ?_
    show Steps p.tables e below (T1.setTop (mkF m 14 #[.val (.ref s_PREPARED), .val (.ref s_Outcome_COMMITTED), .unset, .unset] [])) _
    refine XS.aloadN X1.here hx rfl (hb hby d4_14) rfl rfl ?_
    show Steps p.tables e below (T1.setTop (mkF m 15 #[.val (.ref s_PREPARED), .val (.ref s_Outcome_COMMITTED), .unset, .unset] [(.ref s_PREPARED)])) _
    refine st2 _ ?_
    show Steps p.tables e below (T2.setTop (mkF m 18 #[.val (.ref s_PREPARED), .val (.ref s_Outcome_COMMITTED), .unset, .unset] [(.ref s_HEURISTICALLY_COMMITTED), (.ref s_PREPARED)])) _
    refine Jvm.RoadKit.acmp (g := (mkF m 18 #[.val (.ref s_PREPARED), .val (.ref s_Outcome_COMMITTED), .unset, .unset] [(.ref s_HEURISTICALLY_COMMITTED), (.ref s_PREPARED)])) X2 hx rfl rfl rfl (pc0 := 18) (pc' := 32) (same := false) rfl (hb hby d4_18) rfl (decide_eq_false fun q => (Fld.ne O_PREPARED O_HEURISTICALLY_COMMITTED (fun q => absurd (Value.int.inj q) (by decide))) (Value.ref.inj q)) (by decide) (by decide) ?_
    show Steps p.tables e below (T2.setTop (mkF m 32 #[.val (.ref s_PREPARED), .val (.ref s_Outcome_COMMITTED), .unset, .unset] [])) _
    refine XS.iconst X2.here hx rfl (hb hby d4_32) ?_
    show Steps p.tables e below (T2.setTop (mkF m 33 #[.val (.ref s_PREPARED), .val (.ref s_Outcome_COMMITTED), .unset, .unset] [(.int (0 : Int32))])) _
    refine XS.istoreN X2.here hx rfl (hb hby d4_33) rfl (l' := #[.val (.ref s_PREPARED), .val (.ref s_Outcome_COMMITTED), .val (.int (0 : Int32)), .unset]) rfl ?_
    show Steps p.tables e below (T2.setTop (mkF m 34 #[.val (.ref s_PREPARED), .val (.ref s_Outcome_COMMITTED), .val (.int (0 : Int32)), .unset] [])) _
    refine XS.iloadN X2.here hx rfl (hb hby d4_34) rfl ?_
    show Steps p.tables e below (T2.setTop (mkF m 35 #[.val (.ref s_PREPARED), .val (.ref s_Outcome_COMMITTED), .val (.int (0 : Int32)), .unset] [(.int (0 : Int32))])) _
    refine XS.ifYes X2.here hx rfl (pc0 := 35) (pc' := 52) rfl (hb hby d4_35) rfl ((if0 _ _).trans (teq (by decide : (0 : Int32) = (0 : Int32))).1) (by decide) (by decide) ?_
    show Steps p.tables e below (T2.setTop (mkF m 52 #[.val (.ref s_PREPARED), .val (.ref s_Outcome_COMMITTED), .val (.int (0 : Int32)), .unset] [])) _
    refine XS.iloadN X2.here hx rfl (hb hby d4_52) rfl ?_
    show Steps p.tables e below (T2.setTop (mkF m 53 #[.val (.ref s_PREPARED), .val (.ref s_Outcome_COMMITTED), .val (.int (0 : Int32)), .unset] [(.int (0 : Int32))])) _
    refine XS.ifYes X2.here hx rfl (pc0 := 53) (pc' := 63) rfl (hb hby d4_53) rfl ((if0 _ _).trans (teq (by decide : (0 : Int32) = (0 : Int32))).1) (by decide) (by decide) ?_
    show Steps p.tables e below (T2.setTop (mkF m 63 #[.val (.ref s_PREPARED), .val (.ref s_Outcome_COMMITTED), .val (.int (0 : Int32)), .unset] [])) _
    refine XS.aloadN X2.here hx rfl (hb hby d4_63) rfl rfl ?_
    show Steps p.tables e below (T2.setTop (mkF m 64 #[.val (.ref s_PREPARED), .val (.ref s_Outcome_COMMITTED), .val (.int (0 : Int32)), .unset] [(.ref s_Outcome_COMMITTED)])) _
    refine st3 _ ?_
    show Steps p.tables e below (T3.setTop (mkF m 67 #[.val (.ref s_PREPARED), .val (.ref s_Outcome_COMMITTED), .val (.int (0 : Int32)), .unset] [(.ref s_Joined_State_COMMITTED)])) _
    refine XS.astoreN X3.here hx rfl (hb hby d4_67) rfl rfl (l' := #[.val (.ref s_PREPARED), .val (.ref s_Outcome_COMMITTED), .val (.int (0 : Int32)), .val (.ref s_Joined_State_COMMITTED)]) rfl ?_
    show Steps p.tables e below (T3.setTop (mkF m 68 #[.val (.ref s_PREPARED), .val (.ref s_Outcome_COMMITTED), .val (.int (0 : Int32)), .val (.ref s_Joined_State_COMMITTED)] [])) _
    refine XS.aloadN X3.here hx rfl (hb hby d4_68) rfl rfl ?_
    show Steps p.tables e below (T3.setTop (mkF m 69 #[.val (.ref s_PREPARED), .val (.ref s_Outcome_COMMITTED), .val (.int (0 : Int32)), .val (.ref s_Joined_State_COMMITTED)] [(.ref s_Joined_State_COMMITTED)])) _
    exact retOut X3 hx Bd.returns rfl (Or.inr (Or.inr (Or.inr (Or.inr ⟨rfl, rfl, rfl⟩)))) (hb hby d4_69) hr
  · show own_Q (some (.ref s_Joined_State_COMMITTED)) h0 n0 _ T3.heap _
    rw [e3]
    exact ⟨rfl, N3, rfl⟩
set_option maxRecDepth 65536 in
set_option maxHeartbeats 40000000 in
theorem r_after_0_Outcome_ABORTED (l : Launch) (Z : State) (a0 : Array Value) (hw : ∀ d ∈ tables_1, d.before a0 Z = true) (ws : List Jvm.Cond) (s_PREPARED s_IN_DOUBT s_Outcome_COMMITTED s_HEURISTICALLY_ABORTED s_HEURISTICALLY_COMMITTED s_Joined_State_COMMITTED s_HEURISTIC_ABORT s_HEURISTIC_COMMIT s_COMMITTED_AGAINST_HEURISTIC s_HEURISTIC_MISMATCH s_COMMITTED_IN_ONE_PHASE s_TxnStatus_COMMITTED s_ABORTED_AGAINST_HEURISTIC s_Outcome_ABORTED s_PRE_ABORTED s_PRE_COMMITTED s_Joined_State_ABORTED s_TxnStatus_ABORTED : Addr) (h0 : Heap) (n0 : Nat) (Z0 : n0 ≤ h0.size) (G : own_Ctx Z h0 s_PREPARED s_IN_DOUBT s_Outcome_COMMITTED s_HEURISTICALLY_ABORTED s_HEURISTICALLY_COMMITTED s_Joined_State_COMMITTED s_HEURISTIC_ABORT s_HEURISTIC_COMMIT s_COMMITTED_AGAINST_HEURISTIC s_HEURISTIC_MISMATCH s_COMMITTED_IN_ONE_PHASE s_TxnStatus_COMMITTED s_ABORTED_AGAINST_HEURISTIC s_Outcome_ABORTED s_PRE_ABORTED s_PRE_COMMITTED s_Joined_State_ABORTED s_TxnStatus_ABORTED)   :
    MetFree l (⟨"com/example/unanimity/unanimity/core/Joined$State", "after", "(Lcom/example/unanimity/unanimity/core/Outcome;)Lcom/example/unanimity/unanimity/core/Joined$State;"⟩ : MethodName) (head1 (Jvm.Cond.code (⟨"com/example/unanimity/unanimity/core/Joined$State", "after", "(Lcom/example/unanimity/unanimity/core/Outcome;)Lcom/example/unanimity/unanimity/core/Joined$State;"⟩ : MethodName) prog_7_method_6_code 4 (some (.object "com/example/unanimity/unanimity/core/Joined$State")) :: ws) ({ frames := 1, cells := 0, slots := 0, locals := 12 } : Room)) (fun a U => a = #[(.ref s_PREPARED), (.ref s_Outcome_ABORTED)] ∧ Z.Warmed39 U.vm ∧ U.heap = h0) (fun _ _ _ _ _ => True) (fun _ U o U' => ∃ v L, o = .returned v ∧ own_Q (some (.ref s_Joined_State_ABORTED)) h0 n0 v U'.heap L ∧ FrameEnd U o U' L ({ frames := 1, cells := 0, slots := 0, locals := 12 } : Room).cells ({ frames := 1, cells := 0, slots := 0, locals := 12 } : Room).slots) := by
  have G0 := G
  obtain ⟨S_PREPARED, E_PREPARED, O_PREPARED, S_IN_DOUBT, E_IN_DOUBT, O_IN_DOUBT, S_Outcome_COMMITTED, E_Outcome_COMMITTED, O_Outcome_COMMITTED, S_HEURISTICALLY_ABORTED, E_HEURISTICALLY_ABORTED, O_HEURISTICALLY_ABORTED, S_HEURISTICALLY_COMMITTED, E_HEURISTICALLY_COMMITTED, O_HEURISTICALLY_COMMITTED, S_Joined_State_COMMITTED, E_Joined_State_COMMITTED, S_HEURISTIC_ABORT, E_HEURISTIC_ABORT, O_HEURISTIC_ABORT, S_HEURISTIC_COMMIT, E_HEURISTIC_COMMIT, O_HEURISTIC_COMMIT, S_COMMITTED_AGAINST_HEURISTIC, E_COMMITTED_AGAINST_HEURISTIC, S_HEURISTIC_MISMATCH, E_HEURISTIC_MISMATCH, O_HEURISTIC_MISMATCH, S_COMMITTED_IN_ONE_PHASE, E_COMMITTED_IN_ONE_PHASE, S_TxnStatus_COMMITTED, E_TxnStatus_COMMITTED, O_TxnStatus_COMMITTED, S_ABORTED_AGAINST_HEURISTIC, E_ABORTED_AGAINST_HEURISTIC, S_Outcome_ABORTED, E_Outcome_ABORTED, O_Outcome_ABORTED, S_PRE_ABORTED, E_PRE_ABORTED, O_PRE_ABORTED, S_PRE_COMMITTED, E_PRE_COMMITTED, O_PRE_COMMITTED, S_Joined_State_ABORTED, E_Joined_State_ABORTED, S_TxnStatus_ABORTED, E_TxnStatus_ABORTED, O_TxnStatus_ABORTED, F_decision_PREPARED, F_status_PREPARED, F_decision_Joined_State_COMMITTED, F_decision_HEURISTICALLY_ABORTED, F_status_HEURISTICALLY_ABORTED, F_decision_COMMITTED_AGAINST_HEURISTIC, F_status_COMMITTED_AGAINST_HEURISTIC, F_decision_COMMITTED_IN_ONE_PHASE, F_status_COMMITTED_IN_ONE_PHASE, F_decision_ABORTED_AGAINST_HEURISTIC, F_status_ABORTED_AGAINST_HEURISTIC, F_decision_PRE_ABORTED, F_status_PRE_ABORTED, F_decision_HEURISTICALLY_COMMITTED, F_status_HEURISTICALLY_COMMITTED, F_decision_PRE_COMMITTED, F_status_PRE_COMMITTED, F_decision_Joined_State_ABORTED, F_status_Joined_State_COMMITTED, F_status_Joined_State_ABORTED⟩ := G
  refine MetFree.of_bodySF (plainFor_of_name pn_0) hisR ?_
  intro p e s m args below meth c s₁ Bd hml0 hP hK
  obtain ⟨rfl, hZ, hh⟩ := hP
  have hx := Bd.exec
  have hby := Bd.bytes
  have hml : c.maxLocals = 4 := hml0
  have hown : s.vm.findClass "com/example/unanimity/unanimity/core/Joined$State" = some m.cls := findClass_of_methodNamed Bd.named
  have hnm := (name_of_methodNamed Bd.named Bd.method).1
  have X0 : Stand p l e ({ frames := 1, cells := 0, slots := 0, locals := 12 } : Room) s m #[(.ref s_PREPARED), (.ref s_Outcome_ABORTED)] below meth c s₁ [] 0 0 := Stand.of_body Bd
  have e0 : s₁.heap = h0 := by rw [← hh, Bd.state]; rfl
  have N0 := Fr.nil n0
  have pre0 : ∀ t, Steps p.tables e below (s₁.setTop (mkF m 0 #[.val (.ref s_PREPARED), .val (.ref s_Outcome_ABORTED), .unset, .unset] [])) t → Steps p.tables e below (s₁.setTop (entryFrame m #[(.ref s_PREPARED), (.ref s_Outcome_ABORTED)] 4)) t := fun t k => castTop (ef_4_3 m s_PREPARED s_Outcome_ABORTED) k
  obtain ⟨T1, X1, e1, st1⟩ := getS2 X0 hx hZ hown (host := "") (Or.inl (hw _ (List.mem_of_getElem? (i := 33) rfl))) Via.refl e0 S_HEURISTICALLY_ABORTED (g := (mkF m 1 #[.val (.ref s_PREPARED), .val (.ref s_Outcome_ABORTED), .unset, .unset] [(.ref s_PREPARED)])) rfl (hb hby d4_1)
  obtain ⟨T2, X2, e2, st2⟩ := getS2 X1 hx hZ hown (host := "") (Or.inl (hw _ (List.mem_of_getElem? (i := 35) rfl))) Via.refl e1 S_HEURISTICALLY_COMMITTED (g := (mkF m 15 #[.val (.ref s_PREPARED), .val (.ref s_Outcome_ABORTED), .unset, .unset] [(.ref s_PREPARED)])) rfl (hb hby d4_15)
  obtain ⟨_, _, ⟨T3, L3, k3, n3⟩, -, X3, ⟨Lc3, hQ3, l3, y3, z3⟩, st3⟩ := Jvm.LawKit.callS X2 hx (y := (⟨"com/example/unanimity/unanimity/core/Joined$State", "decided", "(Lcom/example/unanimity/unanimity/core/Outcome;)Lcom/example/unanimity/unanimity/core/Joined$State;"⟩ : MethodName)) hown (mvT hZ (hw _ (List.mem_of_getElem? (i := 37) rfl))) (mvT hZ (hw _ (List.mem_of_getElem? (i := 38) rfl))) (mvT hZ (hw _ (List.mem_of_getElem? (i := 6) rfl))) (mvT hZ (hw _ (List.mem_of_getElem? (i := 39) rfl))) (by decide) (backOf (W := 0) (r_dec_Outcome_ABORTED l Z a0 hw [] s_PREPARED s_IN_DOUBT s_Outcome_COMMITTED s_HEURISTICALLY_ABORTED s_HEURISTICALLY_COMMITTED s_Joined_State_COMMITTED s_HEURISTIC_ABORT s_HEURISTIC_COMMIT s_COMMITTED_AGAINST_HEURISTIC s_HEURISTIC_MISMATCH s_COMMITTED_IN_ONE_PHASE s_TxnStatus_COMMITTED s_ABORTED_AGAINST_HEURISTIC s_Outcome_ABORTED s_PRE_ABORTED s_PRE_COMMITTED s_Joined_State_ABORTED s_TxnStatus_ABORTED h0 n0 Z0 G0) hZ (hw _ (List.mem_of_getElem? (i := 39) rfl)) (hw _ (List.mem_of_getElem? (i := 6) rfl)) (by decide) (by decide)) (g := (mkF m 64 #[.val (.ref s_PREPARED), .val (.ref s_Outcome_ABORTED), .val (.int (0 : Int32)), .unset] [(.ref s_Outcome_ABORTED)])) rfl (by rw [hml]; rfl) (argsL := [(.ref s_Outcome_ABORTED)]) (rest := []) (lenOf pd_0 rfl) rfl (by show 2 * 0 + _ ≤ _; exact Nat.le_of_eq rfl) (hb hby d4_64) (fun _ _ => ⟨rfl, e2, (by decide : 0 + 0 ≤ _), (by decide : 0 + 0 ≤ _)⟩)
  dsimp only [Pt.U, Pt.locs, Pt.cells, Pt.slots] at X3 l3 y3 z3 st3 hQ3
  subst l3 y3 z3
  obtain ⟨rfl, N3q, e3⟩ := hQ3
  have N3 := Fr.app N0 N3q
  obtain ⟨fs, hr, hrun, hended, hW, hsame⟩ := X3.leave (v := some (.ref s_Joined_State_ABORTED)) (fun h => by rw [Bd.returns] at h; cases h)
  refine ⟨_, _, pre0 _ ?_, hrun, hended, _, _, rfl, ?_, ⟨_, rfl⟩, hW, hsame.mono (by decide) (by decide)⟩
  · show Steps p.tables e below (s₁.setTop (mkF m 0 #[.val (.ref s_PREPARED), .val (.ref s_Outcome_ABORTED), .unset, .unset] [])) _
    refine XS.aloadN X0.here hx rfl (hb hby d4_0) rfl rfl ?_
    show Steps p.tables e below (s₁.setTop (mkF m 1 #[.val (.ref s_PREPARED), .val (.ref s_Outcome_ABORTED), .unset, .unset] [(.ref s_PREPARED)])) _
    refine st1 _ ?_
    show Steps p.tables e below (T1.setTop (mkF m 4 #[.val (.ref s_PREPARED), .val (.ref s_Outcome_ABORTED), .unset, .unset] [(.ref s_HEURISTICALLY_ABORTED), (.ref s_PREPARED)])) _
    refine Jvm.RoadKit.acmp (g := (mkF m 4 #[.val (.ref s_PREPARED), .val (.ref s_Outcome_ABORTED), .unset, .unset] [(.ref s_HEURISTICALLY_ABORTED), (.ref s_PREPARED)])) X1 hx rfl rfl rfl (pc0 := 4) (pc' := 14) (same := false) rfl (hb hby d4_4) rfl (decide_eq_false fun q => (Fld.ne O_PREPARED O_HEURISTICALLY_ABORTED (fun q => absurd (Value.int.inj q) (by decide))) (Value.ref.inj q)) (by decide) (by decide) ?_
    show Steps p.tables e below (T1.setTop (mkF m 14 #[.val (.ref s_PREPARED), .val (.ref s_Outcome_ABORTED), .unset, .unset] [])) _
    refine XS.aloadN X1.here hx rfl (hb hby d4_14) rfl rfl ?_
    show Steps p.tables e below (T1.setTop (mkF m 15 #[.val (.ref s_PREPARED), .val (.ref s_Outcome_ABORTED), .unset, .unset] [(.ref s_PREPARED)])) _
    refine st2 _ ?_
    show Steps p.tables e below (T2.setTop (mkF m 18 #[.val (.ref s_PREPARED), .val (.ref s_Outcome_ABORTED), .unset, .unset] [(.ref s_HEURISTICALLY_COMMITTED), (.ref s_PREPARED)])) _
    refine Jvm.RoadKit.acmp (g := (mkF m 18 #[.val (.ref s_PREPARED), .val (.ref s_Outcome_ABORTED), .unset, .unset] [(.ref s_HEURISTICALLY_COMMITTED), (.ref s_PREPARED)])) X2 hx rfl rfl rfl (pc0 := 18) (pc' := 32) (same := false) rfl (hb hby d4_18) rfl (decide_eq_false fun q => (Fld.ne O_PREPARED O_HEURISTICALLY_COMMITTED (fun q => absurd (Value.int.inj q) (by decide))) (Value.ref.inj q)) (by decide) (by decide) ?_
    show Steps p.tables e below (T2.setTop (mkF m 32 #[.val (.ref s_PREPARED), .val (.ref s_Outcome_ABORTED), .unset, .unset] [])) _
    refine XS.iconst X2.here hx rfl (hb hby d4_32) ?_
    show Steps p.tables e below (T2.setTop (mkF m 33 #[.val (.ref s_PREPARED), .val (.ref s_Outcome_ABORTED), .unset, .unset] [(.int (0 : Int32))])) _
    refine XS.istoreN X2.here hx rfl (hb hby d4_33) rfl (l' := #[.val (.ref s_PREPARED), .val (.ref s_Outcome_ABORTED), .val (.int (0 : Int32)), .unset]) rfl ?_
    show Steps p.tables e below (T2.setTop (mkF m 34 #[.val (.ref s_PREPARED), .val (.ref s_Outcome_ABORTED), .val (.int (0 : Int32)), .unset] [])) _
    refine XS.iloadN X2.here hx rfl (hb hby d4_34) rfl ?_
    show Steps p.tables e below (T2.setTop (mkF m 35 #[.val (.ref s_PREPARED), .val (.ref s_Outcome_ABORTED), .val (.int (0 : Int32)), .unset] [(.int (0 : Int32))])) _
    refine XS.ifYes X2.here hx rfl (pc0 := 35) (pc' := 52) rfl (hb hby d4_35) rfl ((if0 _ _).trans (teq (by decide : (0 : Int32) = (0 : Int32))).1) (by decide) (by decide) ?_
    show Steps p.tables e below (T2.setTop (mkF m 52 #[.val (.ref s_PREPARED), .val (.ref s_Outcome_ABORTED), .val (.int (0 : Int32)), .unset] [])) _
    refine XS.iloadN X2.here hx rfl (hb hby d4_52) rfl ?_
    show Steps p.tables e below (T2.setTop (mkF m 53 #[.val (.ref s_PREPARED), .val (.ref s_Outcome_ABORTED), .val (.int (0 : Int32)), .unset] [(.int (0 : Int32))])) _
    refine XS.ifYes X2.here hx rfl (pc0 := 53) (pc' := 63) rfl (hb hby d4_53) rfl ((if0 _ _).trans (teq (by decide : (0 : Int32) = (0 : Int32))).1) (by decide) (by decide) ?_
    show Steps p.tables e below (T2.setTop (mkF m 63 #[.val (.ref s_PREPARED), .val (.ref s_Outcome_ABORTED), .val (.int (0 : Int32)), .unset] [])) _
    refine XS.aloadN X2.here hx rfl (hb hby d4_63) rfl rfl ?_
    show Steps p.tables e below (T2.setTop (mkF m 64 #[.val (.ref s_PREPARED), .val (.ref s_Outcome_ABORTED), .val (.int (0 : Int32)), .unset] [(.ref s_Outcome_ABORTED)])) _
    refine st3 _ ?_
    show Steps p.tables e below (T3.setTop (mkF m 67 #[.val (.ref s_PREPARED), .val (.ref s_Outcome_ABORTED), .val (.int (0 : Int32)), .unset] [(.ref s_Joined_State_ABORTED)])) _
    refine XS.astoreN X3.here hx rfl (hb hby d4_67) rfl rfl (l' := #[.val (.ref s_PREPARED), .val (.ref s_Outcome_ABORTED), .val (.int (0 : Int32)), .val (.ref s_Joined_State_ABORTED)]) rfl ?_
    show Steps p.tables e below (T3.setTop (mkF m 68 #[.val (.ref s_PREPARED), .val (.ref s_Outcome_ABORTED), .val (.int (0 : Int32)), .val (.ref s_Joined_State_ABORTED)] [])) _
    refine XS.aloadN X3.here hx rfl (hb hby d4_68) rfl rfl ?_
    show Steps p.tables e below (T3.setTop (mkF m 69 #[.val (.ref s_PREPARED), .val (.ref s_Outcome_ABORTED), .val (.int (0 : Int32)), .val (.ref s_Joined_State_ABORTED)] [(.ref s_Joined_State_ABORTED)])) _
    exact retOut X3 hx Bd.returns rfl (Or.inr (Or.inr (Or.inr (Or.inr ⟨rfl, rfl, rfl⟩)))) (hb hby d4_69) hr
  · show own_Q (some (.ref s_Joined_State_ABORTED)) h0 n0 _ T3.heap _
    rw [e3]
    exact ⟨rfl, N3, rfl⟩
set_option maxRecDepth 65536 in
set_option maxHeartbeats 40000000 in
theorem r_after_1_Outcome_COMMITTED (l : Launch) (Z : State) (a0 : Array Value) (hw : ∀ d ∈ tables_1, d.before a0 Z = true) (ws : List Jvm.Cond) (s_PREPARED s_IN_DOUBT s_Outcome_COMMITTED s_HEURISTICALLY_ABORTED s_HEURISTICALLY_COMMITTED s_Joined_State_COMMITTED s_HEURISTIC_ABORT s_HEURISTIC_COMMIT s_COMMITTED_AGAINST_HEURISTIC s_HEURISTIC_MISMATCH s_COMMITTED_IN_ONE_PHASE s_TxnStatus_COMMITTED s_ABORTED_AGAINST_HEURISTIC s_Outcome_ABORTED s_PRE_ABORTED s_PRE_COMMITTED s_Joined_State_ABORTED s_TxnStatus_ABORTED : Addr) (h0 : Heap) (n0 : Nat) (Z0 : n0 ≤ h0.size) (G : own_Ctx Z h0 s_PREPARED s_IN_DOUBT s_Outcome_COMMITTED s_HEURISTICALLY_ABORTED s_HEURISTICALLY_COMMITTED s_Joined_State_COMMITTED s_HEURISTIC_ABORT s_HEURISTIC_COMMIT s_COMMITTED_AGAINST_HEURISTIC s_HEURISTIC_MISMATCH s_COMMITTED_IN_ONE_PHASE s_TxnStatus_COMMITTED s_ABORTED_AGAINST_HEURISTIC s_Outcome_ABORTED s_PRE_ABORTED s_PRE_COMMITTED s_Joined_State_ABORTED s_TxnStatus_ABORTED)   :
    MetFree l (⟨"com/example/unanimity/unanimity/core/Joined$State", "after", "(Lcom/example/unanimity/unanimity/core/Outcome;)Lcom/example/unanimity/unanimity/core/Joined$State;"⟩ : MethodName) (head1 (Jvm.Cond.code (⟨"com/example/unanimity/unanimity/core/Joined$State", "after", "(Lcom/example/unanimity/unanimity/core/Outcome;)Lcom/example/unanimity/unanimity/core/Joined$State;"⟩ : MethodName) prog_7_method_6_code 4 (some (.object "com/example/unanimity/unanimity/core/Joined$State")) :: ws) ({ frames := 1, cells := 0, slots := 0, locals := 12 } : Room)) (fun a U => a = #[(.ref s_PRE_COMMITTED), (.ref s_Outcome_COMMITTED)] ∧ Z.Warmed39 U.vm ∧ U.heap = h0) (fun _ _ _ _ _ => True) (fun _ U o U' => ∃ v L, o = .returned v ∧ own_Q (some (.ref s_Joined_State_COMMITTED)) h0 n0 v U'.heap L ∧ FrameEnd U o U' L ({ frames := 1, cells := 0, slots := 0, locals := 12 } : Room).cells ({ frames := 1, cells := 0, slots := 0, locals := 12 } : Room).slots) := by
  have G0 := G
  obtain ⟨S_PREPARED, E_PREPARED, O_PREPARED, S_IN_DOUBT, E_IN_DOUBT, O_IN_DOUBT, S_Outcome_COMMITTED, E_Outcome_COMMITTED, O_Outcome_COMMITTED, S_HEURISTICALLY_ABORTED, E_HEURISTICALLY_ABORTED, O_HEURISTICALLY_ABORTED, S_HEURISTICALLY_COMMITTED, E_HEURISTICALLY_COMMITTED, O_HEURISTICALLY_COMMITTED, S_Joined_State_COMMITTED, E_Joined_State_COMMITTED, S_HEURISTIC_ABORT, E_HEURISTIC_ABORT, O_HEURISTIC_ABORT, S_HEURISTIC_COMMIT, E_HEURISTIC_COMMIT, O_HEURISTIC_COMMIT, S_COMMITTED_AGAINST_HEURISTIC, E_COMMITTED_AGAINST_HEURISTIC, S_HEURISTIC_MISMATCH, E_HEURISTIC_MISMATCH, O_HEURISTIC_MISMATCH, S_COMMITTED_IN_ONE_PHASE, E_COMMITTED_IN_ONE_PHASE, S_TxnStatus_COMMITTED, E_TxnStatus_COMMITTED, O_TxnStatus_COMMITTED, S_ABORTED_AGAINST_HEURISTIC, E_ABORTED_AGAINST_HEURISTIC, S_Outcome_ABORTED, E_Outcome_ABORTED, O_Outcome_ABORTED, S_PRE_ABORTED, E_PRE_ABORTED, O_PRE_ABORTED, S_PRE_COMMITTED, E_PRE_COMMITTED, O_PRE_COMMITTED, S_Joined_State_ABORTED, E_Joined_State_ABORTED, S_TxnStatus_ABORTED, E_TxnStatus_ABORTED, O_TxnStatus_ABORTED, F_decision_PREPARED, F_status_PREPARED, F_decision_Joined_State_COMMITTED, F_decision_HEURISTICALLY_ABORTED, F_status_HEURISTICALLY_ABORTED, F_decision_COMMITTED_AGAINST_HEURISTIC, F_status_COMMITTED_AGAINST_HEURISTIC, F_decision_COMMITTED_IN_ONE_PHASE, F_status_COMMITTED_IN_ONE_PHASE, F_decision_ABORTED_AGAINST_HEURISTIC, F_status_ABORTED_AGAINST_HEURISTIC, F_decision_PRE_ABORTED, F_status_PRE_ABORTED, F_decision_HEURISTICALLY_COMMITTED, F_status_HEURISTICALLY_COMMITTED, F_decision_PRE_COMMITTED, F_status_PRE_COMMITTED, F_decision_Joined_State_ABORTED, F_status_Joined_State_COMMITTED, F_status_Joined_State_ABORTED⟩ := G
  refine MetFree.of_bodySF (plainFor_of_name pn_0) hisR ?_
  intro p e s m args below meth c s₁ Bd hml0 hP hK
  obtain ⟨rfl, hZ, hh⟩ := hP
  have hx := Bd.exec
  have hby := Bd.bytes
  have hml : c.maxLocals = 4 := hml0
  have hown : s.vm.findClass "com/example/unanimity/unanimity/core/Joined$State" = some m.cls := findClass_of_methodNamed Bd.named
  have hnm := (name_of_methodNamed Bd.named Bd.method).1
  have X0 : Stand p l e ({ frames := 1, cells := 0, slots := 0, locals := 12 } : Room) s m #[(.ref s_PRE_COMMITTED), (.ref s_Outcome_COMMITTED)] below meth c s₁ [] 0 0 := Stand.of_body Bd
  have e0 : s₁.heap = h0 := by rw [← hh, Bd.state]; rfl
  have N0 := Fr.nil n0
  have pre0 : ∀ t, Steps p.tables e below (s₁.setTop (mkF m 0 #[.val (.ref s_PRE_COMMITTED), .val (.ref s_Outcome_COMMITTED), .unset, .unset] [])) t → Steps p.tables e below (s₁.setTop (entryFrame m #[(.ref s_PRE_COMMITTED), (.ref s_Outcome_COMMITTED)] 4)) t := fun t k => castTop (ef_4_3 m s_PRE_COMMITTED s_Outcome_COMMITTED) k
  obtain ⟨T1, X1, e1, st1⟩ := getS2 X0 hx hZ hown (host := "") (Or.inl (hw _ (List.mem_of_getElem? (i := 33) rfl))) Via.refl e0 S_HEURISTICALLY_ABORTED (g := (mkF m 1 #[.val (.ref s_PRE_COMMITTED), .val (.ref s_Outcome_COMMITTED), .unset, .unset] [(.ref s_PRE_COMMITTED)])) rfl (hb hby d4_1)
  obtain ⟨T2, X2, e2, st2⟩ := getS2 X1 hx hZ hown (host := "") (Or.inl (hw _ (List.mem_of_getElem? (i := 35) rfl))) Via.refl e1 S_HEURISTICALLY_COMMITTED (g := (mkF m 15 #[.val (.ref s_PRE_COMMITTED), .val (.ref s_Outcome_COMMITTED), .unset, .unset] [(.ref s_PRE_COMMITTED)])) rfl (hb hby d4_15)
  obtain ⟨_, _, ⟨T3, L3, k3, n3⟩, -, X3, ⟨Lc3, hQ3, l3, y3, z3⟩, st3⟩ := Jvm.LawKit.callS X2 hx (y := (⟨"com/example/unanimity/unanimity/core/Joined$State", "decided", "(Lcom/example/unanimity/unanimity/core/Outcome;)Lcom/example/unanimity/unanimity/core/Joined$State;"⟩ : MethodName)) hown (mvT hZ (hw _ (List.mem_of_getElem? (i := 37) rfl))) (mvT hZ (hw _ (List.mem_of_getElem? (i := 38) rfl))) (mvT hZ (hw _ (List.mem_of_getElem? (i := 6) rfl))) (mvT hZ (hw _ (List.mem_of_getElem? (i := 39) rfl))) (by decide) (backOf (W := 0) (r_dec_Outcome_COMMITTED l Z a0 hw [] s_PREPARED s_IN_DOUBT s_Outcome_COMMITTED s_HEURISTICALLY_ABORTED s_HEURISTICALLY_COMMITTED s_Joined_State_COMMITTED s_HEURISTIC_ABORT s_HEURISTIC_COMMIT s_COMMITTED_AGAINST_HEURISTIC s_HEURISTIC_MISMATCH s_COMMITTED_IN_ONE_PHASE s_TxnStatus_COMMITTED s_ABORTED_AGAINST_HEURISTIC s_Outcome_ABORTED s_PRE_ABORTED s_PRE_COMMITTED s_Joined_State_ABORTED s_TxnStatus_ABORTED h0 n0 Z0 G0) hZ (hw _ (List.mem_of_getElem? (i := 39) rfl)) (hw _ (List.mem_of_getElem? (i := 6) rfl)) (by decide) (by decide)) (g := (mkF m 64 #[.val (.ref s_PRE_COMMITTED), .val (.ref s_Outcome_COMMITTED), .val (.int (0 : Int32)), .unset] [(.ref s_Outcome_COMMITTED)])) rfl (by rw [hml]; rfl) (argsL := [(.ref s_Outcome_COMMITTED)]) (rest := []) (lenOf pd_0 rfl) rfl (by show 2 * 0 + _ ≤ _; exact Nat.le_of_eq rfl) (hb hby d4_64) (fun _ _ => ⟨rfl, e2, (by decide : 0 + 0 ≤ _), (by decide : 0 + 0 ≤ _)⟩)
  dsimp only [Pt.U, Pt.locs, Pt.cells, Pt.slots] at X3 l3 y3 z3 st3 hQ3
  subst l3 y3 z3
  obtain ⟨rfl, N3q, e3⟩ := hQ3
  have N3 := Fr.app N0 N3q
  obtain ⟨fs, hr, hrun, hended, hW, hsame⟩ := X3.leave (v := some (.ref s_Joined_State_COMMITTED)) (fun h => by rw [Bd.returns] at h; cases h)
  refine ⟨_, _, pre0 _ ?_, hrun, hended, _, _, rfl, ?_, ⟨_, rfl⟩, hW, hsame.mono (by decide) (by decide)⟩
  · show Steps p.tables e below (s₁.setTop (mkF m 0 #[.val (.ref s_PRE_COMMITTED), .val (.ref s_Outcome_COMMITTED), .unset, .unset] [])) _
    refine XS.aloadN X0.here hx rfl (hb hby d4_0) rfl rfl ?_
    show Steps p.tables e below (s₁.setTop (mkF m 1 #[.val (.ref s_PRE_COMMITTED), .val (.ref s_Outcome_COMMITTED), .unset, .unset] [(.ref s_PRE_COMMITTED)])) _
    refine st1 _ ?_
    show Steps p.tables e below (T1.setTop (mkF m 4 #[.val (.ref s_PRE_COMMITTED), .val (.ref s_Outcome_COMMITTED), .unset, .unset] [(.ref s_HEURISTICALLY_ABORTED), (.ref s_PRE_COMMITTED)])) _
    refine Jvm.RoadKit.acmp (g := (mkF m 4 #[.val (.ref s_PRE_COMMITTED), .val (.ref s_Outcome_COMMITTED), .unset, .unset] [(.ref s_HEURISTICALLY_ABORTED), (.ref s_PRE_COMMITTED)])) X1 hx rfl rfl rfl (pc0 := 4) (pc' := 14) (same := false) rfl (hb hby d4_4) rfl (decide_eq_false fun q => (Fld.ne O_PRE_COMMITTED O_HEURISTICALLY_ABORTED (fun q => absurd (Value.int.inj q) (by decide))) (Value.ref.inj q)) (by decide) (by decide) ?_
    show Steps p.tables e below (T1.setTop (mkF m 14 #[.val (.ref s_PRE_COMMITTED), .val (.ref s_Outcome_COMMITTED), .unset, .unset] [])) _
    refine XS.aloadN X1.here hx rfl (hb hby d4_14) rfl rfl ?_
    show Steps p.tables e below (T1.setTop (mkF m 15 #[.val (.ref s_PRE_COMMITTED), .val (.ref s_Outcome_COMMITTED), .unset, .unset] [(.ref s_PRE_COMMITTED)])) _
    refine st2 _ ?_
    show Steps p.tables e below (T2.setTop (mkF m 18 #[.val (.ref s_PRE_COMMITTED), .val (.ref s_Outcome_COMMITTED), .unset, .unset] [(.ref s_HEURISTICALLY_COMMITTED), (.ref s_PRE_COMMITTED)])) _
    refine Jvm.RoadKit.acmp (g := (mkF m 18 #[.val (.ref s_PRE_COMMITTED), .val (.ref s_Outcome_COMMITTED), .unset, .unset] [(.ref s_HEURISTICALLY_COMMITTED), (.ref s_PRE_COMMITTED)])) X2 hx rfl rfl rfl (pc0 := 18) (pc' := 32) (same := false) rfl (hb hby d4_18) rfl (decide_eq_false fun q => (Fld.ne O_PRE_COMMITTED O_HEURISTICALLY_COMMITTED (fun q => absurd (Value.int.inj q) (by decide))) (Value.ref.inj q)) (by decide) (by decide) ?_
    show Steps p.tables e below (T2.setTop (mkF m 32 #[.val (.ref s_PRE_COMMITTED), .val (.ref s_Outcome_COMMITTED), .unset, .unset] [])) _
    refine XS.iconst X2.here hx rfl (hb hby d4_32) ?_
    show Steps p.tables e below (T2.setTop (mkF m 33 #[.val (.ref s_PRE_COMMITTED), .val (.ref s_Outcome_COMMITTED), .unset, .unset] [(.int (0 : Int32))])) _
    refine XS.istoreN X2.here hx rfl (hb hby d4_33) rfl (l' := #[.val (.ref s_PRE_COMMITTED), .val (.ref s_Outcome_COMMITTED), .val (.int (0 : Int32)), .unset]) rfl ?_
    show Steps p.tables e below (T2.setTop (mkF m 34 #[.val (.ref s_PRE_COMMITTED), .val (.ref s_Outcome_COMMITTED), .val (.int (0 : Int32)), .unset] [])) _
    refine XS.iloadN X2.here hx rfl (hb hby d4_34) rfl ?_
    show Steps p.tables e below (T2.setTop (mkF m 35 #[.val (.ref s_PRE_COMMITTED), .val (.ref s_Outcome_COMMITTED), .val (.int (0 : Int32)), .unset] [(.int (0 : Int32))])) _
    refine XS.ifYes X2.here hx rfl (pc0 := 35) (pc' := 52) rfl (hb hby d4_35) rfl ((if0 _ _).trans (teq (by decide : (0 : Int32) = (0 : Int32))).1) (by decide) (by decide) ?_
    show Steps p.tables e below (T2.setTop (mkF m 52 #[.val (.ref s_PRE_COMMITTED), .val (.ref s_Outcome_COMMITTED), .val (.int (0 : Int32)), .unset] [])) _
    refine XS.iloadN X2.here hx rfl (hb hby d4_52) rfl ?_
    show Steps p.tables e below (T2.setTop (mkF m 53 #[.val (.ref s_PRE_COMMITTED), .val (.ref s_Outcome_COMMITTED), .val (.int (0 : Int32)), .unset] [(.int (0 : Int32))])) _
    refine XS.ifYes X2.here hx rfl (pc0 := 53) (pc' := 63) rfl (hb hby d4_53) rfl ((if0 _ _).trans (teq (by decide : (0 : Int32) = (0 : Int32))).1) (by decide) (by decide) ?_
    show Steps p.tables e below (T2.setTop (mkF m 63 #[.val (.ref s_PRE_COMMITTED), .val (.ref s_Outcome_COMMITTED), .val (.int (0 : Int32)), .unset] [])) _
    refine XS.aloadN X2.here hx rfl (hb hby d4_63) rfl rfl ?_
    show Steps p.tables e below (T2.setTop (mkF m 64 #[.val (.ref s_PRE_COMMITTED), .val (.ref s_Outcome_COMMITTED), .val (.int (0 : Int32)), .unset] [(.ref s_Outcome_COMMITTED)])) _
    refine st3 _ ?_
    show Steps p.tables e below (T3.setTop (mkF m 67 #[.val (.ref s_PRE_COMMITTED), .val (.ref s_Outcome_COMMITTED), .val (.int (0 : Int32)), .unset] [(.ref s_Joined_State_COMMITTED)])) _
    refine XS.astoreN X3.here hx rfl (hb hby d4_67) rfl rfl (l' := #[.val (.ref s_PRE_COMMITTED), .val (.ref s_Outcome_COMMITTED), .val (.int (0 : Int32)), .val (.ref s_Joined_State_COMMITTED)]) rfl ?_
    show Steps p.tables e below (T3.setTop (mkF m 68 #[.val (.ref s_PRE_COMMITTED), .val (.ref s_Outcome_COMMITTED), .val (.int (0 : Int32)), .val (.ref s_Joined_State_COMMITTED)] [])) _
    refine XS.aloadN X3.here hx rfl (hb hby d4_68) rfl rfl ?_
    show Steps p.tables e below (T3.setTop (mkF m 69 #[.val (.ref s_PRE_COMMITTED), .val (.ref s_Outcome_COMMITTED), .val (.int (0 : Int32)), .val (.ref s_Joined_State_COMMITTED)] [(.ref s_Joined_State_COMMITTED)])) _
    exact retOut X3 hx Bd.returns rfl (Or.inr (Or.inr (Or.inr (Or.inr ⟨rfl, rfl, rfl⟩)))) (hb hby d4_69) hr
  · show own_Q (some (.ref s_Joined_State_COMMITTED)) h0 n0 _ T3.heap _
    rw [e3]
    exact ⟨rfl, N3, rfl⟩
set_option maxRecDepth 65536 in
set_option maxHeartbeats 40000000 in
theorem r_after_1_Outcome_ABORTED (l : Launch) (Z : State) (a0 : Array Value) (hw : ∀ d ∈ tables_1, d.before a0 Z = true) (ws : List Jvm.Cond) (s_PREPARED s_IN_DOUBT s_Outcome_COMMITTED s_HEURISTICALLY_ABORTED s_HEURISTICALLY_COMMITTED s_Joined_State_COMMITTED s_HEURISTIC_ABORT s_HEURISTIC_COMMIT s_COMMITTED_AGAINST_HEURISTIC s_HEURISTIC_MISMATCH s_COMMITTED_IN_ONE_PHASE s_TxnStatus_COMMITTED s_ABORTED_AGAINST_HEURISTIC s_Outcome_ABORTED s_PRE_ABORTED s_PRE_COMMITTED s_Joined_State_ABORTED s_TxnStatus_ABORTED : Addr) (h0 : Heap) (n0 : Nat) (Z0 : n0 ≤ h0.size) (G : own_Ctx Z h0 s_PREPARED s_IN_DOUBT s_Outcome_COMMITTED s_HEURISTICALLY_ABORTED s_HEURISTICALLY_COMMITTED s_Joined_State_COMMITTED s_HEURISTIC_ABORT s_HEURISTIC_COMMIT s_COMMITTED_AGAINST_HEURISTIC s_HEURISTIC_MISMATCH s_COMMITTED_IN_ONE_PHASE s_TxnStatus_COMMITTED s_ABORTED_AGAINST_HEURISTIC s_Outcome_ABORTED s_PRE_ABORTED s_PRE_COMMITTED s_Joined_State_ABORTED s_TxnStatus_ABORTED)   :
    MetFree l (⟨"com/example/unanimity/unanimity/core/Joined$State", "after", "(Lcom/example/unanimity/unanimity/core/Outcome;)Lcom/example/unanimity/unanimity/core/Joined$State;"⟩ : MethodName) (head1 (Jvm.Cond.code (⟨"com/example/unanimity/unanimity/core/Joined$State", "after", "(Lcom/example/unanimity/unanimity/core/Outcome;)Lcom/example/unanimity/unanimity/core/Joined$State;"⟩ : MethodName) prog_7_method_6_code 4 (some (.object "com/example/unanimity/unanimity/core/Joined$State")) :: ws) ({ frames := 1, cells := 0, slots := 0, locals := 12 } : Room)) (fun a U => a = #[(.ref s_PRE_COMMITTED), (.ref s_Outcome_ABORTED)] ∧ Z.Warmed39 U.vm ∧ U.heap = h0) (fun _ _ _ _ _ => True) (fun _ U o U' => ∃ v L, o = .returned v ∧ own_Q (some (.ref s_Joined_State_ABORTED)) h0 n0 v U'.heap L ∧ FrameEnd U o U' L ({ frames := 1, cells := 0, slots := 0, locals := 12 } : Room).cells ({ frames := 1, cells := 0, slots := 0, locals := 12 } : Room).slots) := by
  have G0 := G
  obtain ⟨S_PREPARED, E_PREPARED, O_PREPARED, S_IN_DOUBT, E_IN_DOUBT, O_IN_DOUBT, S_Outcome_COMMITTED, E_Outcome_COMMITTED, O_Outcome_COMMITTED, S_HEURISTICALLY_ABORTED, E_HEURISTICALLY_ABORTED, O_HEURISTICALLY_ABORTED, S_HEURISTICALLY_COMMITTED, E_HEURISTICALLY_COMMITTED, O_HEURISTICALLY_COMMITTED, S_Joined_State_COMMITTED, E_Joined_State_COMMITTED, S_HEURISTIC_ABORT, E_HEURISTIC_ABORT, O_HEURISTIC_ABORT, S_HEURISTIC_COMMIT, E_HEURISTIC_COMMIT, O_HEURISTIC_COMMIT, S_COMMITTED_AGAINST_HEURISTIC, E_COMMITTED_AGAINST_HEURISTIC, S_HEURISTIC_MISMATCH, E_HEURISTIC_MISMATCH, O_HEURISTIC_MISMATCH, S_COMMITTED_IN_ONE_PHASE, E_COMMITTED_IN_ONE_PHASE, S_TxnStatus_COMMITTED, E_TxnStatus_COMMITTED, O_TxnStatus_COMMITTED, S_ABORTED_AGAINST_HEURISTIC, E_ABORTED_AGAINST_HEURISTIC, S_Outcome_ABORTED, E_Outcome_ABORTED, O_Outcome_ABORTED, S_PRE_ABORTED, E_PRE_ABORTED, O_PRE_ABORTED, S_PRE_COMMITTED, E_PRE_COMMITTED, O_PRE_COMMITTED, S_Joined_State_ABORTED, E_Joined_State_ABORTED, S_TxnStatus_ABORTED, E_TxnStatus_ABORTED, O_TxnStatus_ABORTED, F_decision_PREPARED, F_status_PREPARED, F_decision_Joined_State_COMMITTED, F_decision_HEURISTICALLY_ABORTED, F_status_HEURISTICALLY_ABORTED, F_decision_COMMITTED_AGAINST_HEURISTIC, F_status_COMMITTED_AGAINST_HEURISTIC, F_decision_COMMITTED_IN_ONE_PHASE, F_status_COMMITTED_IN_ONE_PHASE, F_decision_ABORTED_AGAINST_HEURISTIC, F_status_ABORTED_AGAINST_HEURISTIC, F_decision_PRE_ABORTED, F_status_PRE_ABORTED, F_decision_HEURISTICALLY_COMMITTED, F_status_HEURISTICALLY_COMMITTED, F_decision_PRE_COMMITTED, F_status_PRE_COMMITTED, F_decision_Joined_State_ABORTED, F_status_Joined_State_COMMITTED, F_status_Joined_State_ABORTED⟩ := G
  refine MetFree.of_bodySF (plainFor_of_name pn_0) hisR ?_
  intro p e s m args below meth c s₁ Bd hml0 hP hK
  obtain ⟨rfl, hZ, hh⟩ := hP
  have hx := Bd.exec
  have hby := Bd.bytes
  have hml : c.maxLocals = 4 := hml0
  have hown : s.vm.findClass "com/example/unanimity/unanimity/core/Joined$State" = some m.cls := findClass_of_methodNamed Bd.named
  have hnm := (name_of_methodNamed Bd.named Bd.method).1
  have X0 : Stand p l e ({ frames := 1, cells := 0, slots := 0, locals := 12 } : Room) s m #[(.ref s_PRE_COMMITTED), (.ref s_Outcome_ABORTED)] below meth c s₁ [] 0 0 := Stand.of_body Bd
  have e0 : s₁.heap = h0 := by rw [← hh, Bd.state]; rfl
  have N0 := Fr.nil n0
  have pre0 : ∀ t, Steps p.tables e below (s₁.setTop (mkF m 0 #[.val (.ref s_PRE_COMMITTED), .val (.ref s_Outcome_ABORTED), .unset, .unset] [])) t → Steps p.tables e below (s₁.setTop (entryFrame m #[(.ref s_PRE_COMMITTED), (.ref s_Outcome_ABORTED)] 4)) t := fun t k => castTop (ef_4_3 m s_PRE_COMMITTED s_Outcome_ABORTED) k
  obtain ⟨T1, X1, e1, st1⟩ := getS2 X0 hx hZ hown (host := "") (Or.inl (hw _ (List.mem_of_getElem? (i := 33) rfl))) Via.refl e0 S_HEURISTICALLY_ABORTED (g := (mkF m 1 #[.val (.ref s_PRE_COMMITTED), .val (.ref s_Outcome_ABORTED), .unset, .unset] [(.ref s_PRE_COMMITTED)])) rfl (hb hby d4_1)
  obtain ⟨T2, X2, e2, st2⟩ := getS2 X1 hx hZ hown (host := "") (Or.inl (hw _ (List.mem_of_getElem? (i := 35) rfl))) Via.refl e1 S_HEURISTICALLY_COMMITTED (g := (mkF m 15 #[.val (.ref s_PRE_COMMITTED), .val (.ref s_Outcome_ABORTED), .unset, .unset] [(.ref s_PRE_COMMITTED)])) rfl (hb hby d4_15)
  obtain ⟨_, _, ⟨T3, L3, k3, n3⟩, -, X3, ⟨Lc3, hQ3, l3, y3, z3⟩, st3⟩ := Jvm.LawKit.callS X2 hx (y := (⟨"com/example/unanimity/unanimity/core/Joined$State", "decided", "(Lcom/example/unanimity/unanimity/core/Outcome;)Lcom/example/unanimity/unanimity/core/Joined$State;"⟩ : MethodName)) hown (mvT hZ (hw _ (List.mem_of_getElem? (i := 37) rfl))) (mvT hZ (hw _ (List.mem_of_getElem? (i := 38) rfl))) (mvT hZ (hw _ (List.mem_of_getElem? (i := 6) rfl))) (mvT hZ (hw _ (List.mem_of_getElem? (i := 39) rfl))) (by decide) (backOf (W := 0) (r_dec_Outcome_ABORTED l Z a0 hw [] s_PREPARED s_IN_DOUBT s_Outcome_COMMITTED s_HEURISTICALLY_ABORTED s_HEURISTICALLY_COMMITTED s_Joined_State_COMMITTED s_HEURISTIC_ABORT s_HEURISTIC_COMMIT s_COMMITTED_AGAINST_HEURISTIC s_HEURISTIC_MISMATCH s_COMMITTED_IN_ONE_PHASE s_TxnStatus_COMMITTED s_ABORTED_AGAINST_HEURISTIC s_Outcome_ABORTED s_PRE_ABORTED s_PRE_COMMITTED s_Joined_State_ABORTED s_TxnStatus_ABORTED h0 n0 Z0 G0) hZ (hw _ (List.mem_of_getElem? (i := 39) rfl)) (hw _ (List.mem_of_getElem? (i := 6) rfl)) (by decide) (by decide)) (g := (mkF m 64 #[.val (.ref s_PRE_COMMITTED), .val (.ref s_Outcome_ABORTED), .val (.int (0 : Int32)), .unset] [(.ref s_Outcome_ABORTED)])) rfl (by rw [hml]; rfl) (argsL := [(.ref s_Outcome_ABORTED)]) (rest := []) (lenOf pd_0 rfl) rfl (by show 2 * 0 + _ ≤ _; exact Nat.le_of_eq rfl) (hb hby d4_64) (fun _ _ => ⟨rfl, e2, (by decide : 0 + 0 ≤ _), (by decide : 0 + 0 ≤ _)⟩)
  dsimp only [Pt.U, Pt.locs, Pt.cells, Pt.slots] at X3 l3 y3 z3 st3 hQ3
  subst l3 y3 z3
  obtain ⟨rfl, N3q, e3⟩ := hQ3
  have N3 := Fr.app N0 N3q
  obtain ⟨fs, hr, hrun, hended, hW, hsame⟩ := X3.leave (v := some (.ref s_Joined_State_ABORTED)) (fun h => by rw [Bd.returns] at h; cases h)
  refine ⟨_, _, pre0 _ ?_, hrun, hended, _, _, rfl, ?_, ⟨_, rfl⟩, hW, hsame.mono (by decide) (by decide)⟩
  · show Steps p.tables e below (s₁.setTop (mkF m 0 #[.val (.ref s_PRE_COMMITTED), .val (.ref s_Outcome_ABORTED), .unset, .unset] [])) _
    refine XS.aloadN X0.here hx rfl (hb hby d4_0) rfl rfl ?_
    show Steps p.tables e below (s₁.setTop (mkF m 1 #[.val (.ref s_PRE_COMMITTED), .val (.ref s_Outcome_ABORTED), .unset, .unset] [(.ref s_PRE_COMMITTED)])) _
    refine st1 _ ?_
    show Steps p.tables e below (T1.setTop (mkF m 4 #[.val (.ref s_PRE_COMMITTED), .val (.ref s_Outcome_ABORTED), .unset, .unset] [(.ref s_HEURISTICALLY_ABORTED), (.ref s_PRE_COMMITTED)])) _
    refine Jvm.RoadKit.acmp (g := (mkF m 4 #[.val (.ref s_PRE_COMMITTED), .val (.ref s_Outcome_ABORTED), .unset, .unset] [(.ref s_HEURISTICALLY_ABORTED), (.ref s_PRE_COMMITTED)])) X1 hx rfl rfl rfl (pc0 := 4) (pc' := 14) (same := false) rfl (hb hby d4_4) rfl (decide_eq_false fun q => (Fld.ne O_PRE_COMMITTED O_HEURISTICALLY_ABORTED (fun q => absurd (Value.int.inj q) (by decide))) (Value.ref.inj q)) (by decide) (by decide) ?_
    show Steps p.tables e below (T1.setTop (mkF m 14 #[.val (.ref s_PRE_COMMITTED), .val (.ref s_Outcome_ABORTED), .unset, .unset] [])) _
    refine XS.aloadN X1.here hx rfl (hb hby d4_14) rfl rfl ?_
    show Steps p.tables e below (T1.setTop (mkF m 15 #[.val (.ref s_PRE_COMMITTED), .val (.ref s_Outcome_ABORTED), .unset, .unset] [(.ref s_PRE_COMMITTED)])) _
    refine st2 _ ?_
    show Steps p.tables e below (T2.setTop (mkF m 18 #[.val (.ref s_PRE_COMMITTED), .val (.ref s_Outcome_ABORTED), .unset, .unset] [(.ref s_HEURISTICALLY_COMMITTED), (.ref s_PRE_COMMITTED)])) _
    refine Jvm.RoadKit.acmp (g := (mkF m 18 #[.val (.ref s_PRE_COMMITTED), .val (.ref s_Outcome_ABORTED), .unset, .unset] [(.ref s_HEURISTICALLY_COMMITTED), (.ref s_PRE_COMMITTED)])) X2 hx rfl rfl rfl (pc0 := 18) (pc' := 32) (same := false) rfl (hb hby d4_18) rfl (decide_eq_false fun q => (Fld.ne O_PRE_COMMITTED O_HEURISTICALLY_COMMITTED (fun q => absurd (Value.int.inj q) (by decide))) (Value.ref.inj q)) (by decide) (by decide) ?_
    show Steps p.tables e below (T2.setTop (mkF m 32 #[.val (.ref s_PRE_COMMITTED), .val (.ref s_Outcome_ABORTED), .unset, .unset] [])) _
    refine XS.iconst X2.here hx rfl (hb hby d4_32) ?_
    show Steps p.tables e below (T2.setTop (mkF m 33 #[.val (.ref s_PRE_COMMITTED), .val (.ref s_Outcome_ABORTED), .unset, .unset] [(.int (0 : Int32))])) _
    refine XS.istoreN X2.here hx rfl (hb hby d4_33) rfl (l' := #[.val (.ref s_PRE_COMMITTED), .val (.ref s_Outcome_ABORTED), .val (.int (0 : Int32)), .unset]) rfl ?_
    show Steps p.tables e below (T2.setTop (mkF m 34 #[.val (.ref s_PRE_COMMITTED), .val (.ref s_Outcome_ABORTED), .val (.int (0 : Int32)), .unset] [])) _
    refine XS.iloadN X2.here hx rfl (hb hby d4_34) rfl ?_
    show Steps p.tables e below (T2.setTop (mkF m 35 #[.val (.ref s_PRE_COMMITTED), .val (.ref s_Outcome_ABORTED), .val (.int (0 : Int32)), .unset] [(.int (0 : Int32))])) _
    refine XS.ifYes X2.here hx rfl (pc0 := 35) (pc' := 52) rfl (hb hby d4_35) rfl ((if0 _ _).trans (teq (by decide : (0 : Int32) = (0 : Int32))).1) (by decide) (by decide) ?_
    show Steps p.tables e below (T2.setTop (mkF m 52 #[.val (.ref s_PRE_COMMITTED), .val (.ref s_Outcome_ABORTED), .val (.int (0 : Int32)), .unset] [])) _
    refine XS.iloadN X2.here hx rfl (hb hby d4_52) rfl ?_
    show Steps p.tables e below (T2.setTop (mkF m 53 #[.val (.ref s_PRE_COMMITTED), .val (.ref s_Outcome_ABORTED), .val (.int (0 : Int32)), .unset] [(.int (0 : Int32))])) _
    refine XS.ifYes X2.here hx rfl (pc0 := 53) (pc' := 63) rfl (hb hby d4_53) rfl ((if0 _ _).trans (teq (by decide : (0 : Int32) = (0 : Int32))).1) (by decide) (by decide) ?_
    show Steps p.tables e below (T2.setTop (mkF m 63 #[.val (.ref s_PRE_COMMITTED), .val (.ref s_Outcome_ABORTED), .val (.int (0 : Int32)), .unset] [])) _
    refine XS.aloadN X2.here hx rfl (hb hby d4_63) rfl rfl ?_
    show Steps p.tables e below (T2.setTop (mkF m 64 #[.val (.ref s_PRE_COMMITTED), .val (.ref s_Outcome_ABORTED), .val (.int (0 : Int32)), .unset] [(.ref s_Outcome_ABORTED)])) _
    refine st3 _ ?_
    show Steps p.tables e below (T3.setTop (mkF m 67 #[.val (.ref s_PRE_COMMITTED), .val (.ref s_Outcome_ABORTED), .val (.int (0 : Int32)), .unset] [(.ref s_Joined_State_ABORTED)])) _
    refine XS.astoreN X3.here hx rfl (hb hby d4_67) rfl rfl (l' := #[.val (.ref s_PRE_COMMITTED), .val (.ref s_Outcome_ABORTED), .val (.int (0 : Int32)), .val (.ref s_Joined_State_ABORTED)]) rfl ?_
    show Steps p.tables e below (T3.setTop (mkF m 68 #[.val (.ref s_PRE_COMMITTED), .val (.ref s_Outcome_ABORTED), .val (.int (0 : Int32)), .val (.ref s_Joined_State_ABORTED)] [])) _
    refine XS.aloadN X3.here hx rfl (hb hby d4_68) rfl rfl ?_
    show Steps p.tables e below (T3.setTop (mkF m 69 #[.val (.ref s_PRE_COMMITTED), .val (.ref s_Outcome_ABORTED), .val (.int (0 : Int32)), .val (.ref s_Joined_State_ABORTED)] [(.ref s_Joined_State_ABORTED)])) _
    exact retOut X3 hx Bd.returns rfl (Or.inr (Or.inr (Or.inr (Or.inr ⟨rfl, rfl, rfl⟩)))) (hb hby d4_69) hr
  · show own_Q (some (.ref s_Joined_State_ABORTED)) h0 n0 _ T3.heap _
    rw [e3]
    exact ⟨rfl, N3, rfl⟩
set_option maxRecDepth 65536 in
set_option maxHeartbeats 40000000 in
theorem r_after_2_Outcome_COMMITTED (l : Launch) (Z : State) (a0 : Array Value) (hw : ∀ d ∈ tables_1, d.before a0 Z = true) (ws : List Jvm.Cond) (s_PREPARED s_IN_DOUBT s_Outcome_COMMITTED s_HEURISTICALLY_ABORTED s_HEURISTICALLY_COMMITTED s_Joined_State_COMMITTED s_HEURISTIC_ABORT s_HEURISTIC_COMMIT s_COMMITTED_AGAINST_HEURISTIC s_HEURISTIC_MISMATCH s_COMMITTED_IN_ONE_PHASE s_TxnStatus_COMMITTED s_ABORTED_AGAINST_HEURISTIC s_Outcome_ABORTED s_PRE_ABORTED s_PRE_COMMITTED s_Joined_State_ABORTED s_TxnStatus_ABORTED : Addr) (h0 : Heap) (n0 : Nat) (Z0 : n0 ≤ h0.size) (G : own_Ctx Z h0 s_PREPARED s_IN_DOUBT s_Outcome_COMMITTED s_HEURISTICALLY_ABORTED s_HEURISTICALLY_COMMITTED s_Joined_State_COMMITTED s_HEURISTIC_ABORT s_HEURISTIC_COMMIT s_COMMITTED_AGAINST_HEURISTIC s_HEURISTIC_MISMATCH s_COMMITTED_IN_ONE_PHASE s_TxnStatus_COMMITTED s_ABORTED_AGAINST_HEURISTIC s_Outcome_ABORTED s_PRE_ABORTED s_PRE_COMMITTED s_Joined_State_ABORTED s_TxnStatus_ABORTED)   :
    MetFree l (⟨"com/example/unanimity/unanimity/core/Joined$State", "after", "(Lcom/example/unanimity/unanimity/core/Outcome;)Lcom/example/unanimity/unanimity/core/Joined$State;"⟩ : MethodName) (head1 (Jvm.Cond.code (⟨"com/example/unanimity/unanimity/core/Joined$State", "after", "(Lcom/example/unanimity/unanimity/core/Outcome;)Lcom/example/unanimity/unanimity/core/Joined$State;"⟩ : MethodName) prog_7_method_6_code 4 (some (.object "com/example/unanimity/unanimity/core/Joined$State")) :: ws) ({ frames := 1, cells := 0, slots := 0, locals := 12 } : Room)) (fun a U => a = #[(.ref s_PRE_ABORTED), (.ref s_Outcome_COMMITTED)] ∧ Z.Warmed39 U.vm ∧ U.heap = h0) (fun _ _ _ _ _ => True) (fun _ U o U' => ∃ v L, o = .returned v ∧ own_Q (some (.ref s_Joined_State_COMMITTED)) h0 n0 v U'.heap L ∧ FrameEnd U o U' L ({ frames := 1, cells := 0, slots := 0, locals := 12 } : Room).cells ({ frames := 1, cells := 0, slots := 0, locals := 12 } : Room).slots) := by
  have G0 := G
  obtain ⟨S_PREPARED, E_PREPARED, O_PREPARED, S_IN_DOUBT, E_IN_DOUBT, O_IN_DOUBT, S_Outcome_COMMITTED, E_Outcome_COMMITTED, O_Outcome_COMMITTED, S_HEURISTICALLY_ABORTED, E_HEURISTICALLY_ABORTED, O_HEURISTICALLY_ABORTED, S_HEURISTICALLY_COMMITTED, E_HEURISTICALLY_COMMITTED, O_HEURISTICALLY_COMMITTED, S_Joined_State_COMMITTED, E_Joined_State_COMMITTED, S_HEURISTIC_ABORT, E_HEURISTIC_ABORT, O_HEURISTIC_ABORT, S_HEURISTIC_COMMIT, E_HEURISTIC_COMMIT, O_HEURISTIC_COMMIT, S_COMMITTED_AGAINST_HEURISTIC, E_COMMITTED_AGAINST_HEURISTIC, S_HEURISTIC_MISMATCH, E_HEURISTIC_MISMATCH, O_HEURISTIC_MISMATCH, S_COMMITTED_IN_ONE_PHASE, E_COMMITTED_IN_ONE_PHASE, S_TxnStatus_COMMITTED, E_TxnStatus_COMMITTED, O_TxnStatus_COMMITTED, S_ABORTED_AGAINST_HEURISTIC, E_ABORTED_AGAINST_HEURISTIC, S_Outcome_ABORTED, E_Outcome_ABORTED, O_Outcome_ABORTED, S_PRE_ABORTED, E_PRE_ABORTED, O_PRE_ABORTED, S_PRE_COMMITTED, E_PRE_COMMITTED, O_PRE_COMMITTED, S_Joined_State_ABORTED, E_Joined_State_ABORTED, S_TxnStatus_ABORTED, E_TxnStatus_ABORTED, O_TxnStatus_ABORTED, F_decision_PREPARED, F_status_PREPARED, F_decision_Joined_State_COMMITTED, F_decision_HEURISTICALLY_ABORTED, F_status_HEURISTICALLY_ABORTED, F_decision_COMMITTED_AGAINST_HEURISTIC, F_status_COMMITTED_AGAINST_HEURISTIC, F_decision_COMMITTED_IN_ONE_PHASE, F_status_COMMITTED_IN_ONE_PHASE, F_decision_ABORTED_AGAINST_HEURISTIC, F_status_ABORTED_AGAINST_HEURISTIC, F_decision_PRE_ABORTED, F_status_PRE_ABORTED, F_decision_HEURISTICALLY_COMMITTED, F_status_HEURISTICALLY_COMMITTED, F_decision_PRE_COMMITTED, F_status_PRE_COMMITTED, F_decision_Joined_State_ABORTED, F_status_Joined_State_COMMITTED, F_status_Joined_State_ABORTED⟩ := G
  refine MetFree.of_bodySF (plainFor_of_name pn_0) hisR ?_
  intro p e s m args below meth c s₁ Bd hml0 hP hK
  obtain ⟨rfl, hZ, hh⟩ := hP
  have hx := Bd.exec
  have hby := Bd.bytes
  have hml : c.maxLocals = 4 := hml0
  have hown : s.vm.findClass "com/example/unanimity/unanimity/core/Joined$State" = some m.cls := findClass_of_methodNamed Bd.named
  have hnm := (name_of_methodNamed Bd.named Bd.method).1
  have X0 : Stand p l e ({ frames := 1, cells := 0, slots := 0, locals := 12 } : Room) s m #[(.ref s_PRE_ABORTED), (.ref s_Outcome_COMMITTED)] below meth c s₁ [] 0 0 := Stand.of_body Bd
  have e0 : s₁.heap = h0 := by rw [← hh, Bd.state]; rfl
  have N0 := Fr.nil n0
  have pre0 : ∀ t, Steps p.tables e below (s₁.setTop (mkF m 0 #[.val (.ref s_PRE_ABORTED), .val (.ref s_Outcome_COMMITTED), .unset, .unset] [])) t → Steps p.tables e below (s₁.setTop (entryFrame m #[(.ref s_PRE_ABORTED), (.ref s_Outcome_COMMITTED)] 4)) t := fun t k => castTop (ef_4_3 m s_PRE_ABORTED s_Outcome_COMMITTED) k
  obtain ⟨T1, X1, e1, st1⟩ := getS2 X0 hx hZ hown (host := "") (Or.inl (hw _ (List.mem_of_getElem? (i := 33) rfl))) Via.refl e0 S_HEURISTICALLY_ABORTED (g := (mkF m 1 #[.val (.ref s_PRE_ABORTED), .val (.ref s_Outcome_COMMITTED), .unset, .unset] [(.ref s_PRE_ABORTED)])) rfl (hb hby d4_1)
  obtain ⟨T2, X2, e2, st2⟩ := getS2 X1 hx hZ hown (host := "") (Or.inl (hw _ (List.mem_of_getElem? (i := 35) rfl))) Via.refl e1 S_HEURISTICALLY_COMMITTED (g := (mkF m 15 #[.val (.ref s_PRE_ABORTED), .val (.ref s_Outcome_COMMITTED), .unset, .unset] [(.ref s_PRE_ABORTED)])) rfl (hb hby d4_15)
  obtain ⟨_, _, ⟨T3, L3, k3, n3⟩, -, X3, ⟨Lc3, hQ3, l3, y3, z3⟩, st3⟩ := Jvm.LawKit.callS X2 hx (y := (⟨"com/example/unanimity/unanimity/core/Joined$State", "decided", "(Lcom/example/unanimity/unanimity/core/Outcome;)Lcom/example/unanimity/unanimity/core/Joined$State;"⟩ : MethodName)) hown (mvT hZ (hw _ (List.mem_of_getElem? (i := 37) rfl))) (mvT hZ (hw _ (List.mem_of_getElem? (i := 38) rfl))) (mvT hZ (hw _ (List.mem_of_getElem? (i := 6) rfl))) (mvT hZ (hw _ (List.mem_of_getElem? (i := 39) rfl))) (by decide) (backOf (W := 0) (r_dec_Outcome_COMMITTED l Z a0 hw [] s_PREPARED s_IN_DOUBT s_Outcome_COMMITTED s_HEURISTICALLY_ABORTED s_HEURISTICALLY_COMMITTED s_Joined_State_COMMITTED s_HEURISTIC_ABORT s_HEURISTIC_COMMIT s_COMMITTED_AGAINST_HEURISTIC s_HEURISTIC_MISMATCH s_COMMITTED_IN_ONE_PHASE s_TxnStatus_COMMITTED s_ABORTED_AGAINST_HEURISTIC s_Outcome_ABORTED s_PRE_ABORTED s_PRE_COMMITTED s_Joined_State_ABORTED s_TxnStatus_ABORTED h0 n0 Z0 G0) hZ (hw _ (List.mem_of_getElem? (i := 39) rfl)) (hw _ (List.mem_of_getElem? (i := 6) rfl)) (by decide) (by decide)) (g := (mkF m 64 #[.val (.ref s_PRE_ABORTED), .val (.ref s_Outcome_COMMITTED), .val (.int (0 : Int32)), .unset] [(.ref s_Outcome_COMMITTED)])) rfl (by rw [hml]; rfl) (argsL := [(.ref s_Outcome_COMMITTED)]) (rest := []) (lenOf pd_0 rfl) rfl (by show 2 * 0 + _ ≤ _; exact Nat.le_of_eq rfl) (hb hby d4_64) (fun _ _ => ⟨rfl, e2, (by decide : 0 + 0 ≤ _), (by decide : 0 + 0 ≤ _)⟩)
  dsimp only [Pt.U, Pt.locs, Pt.cells, Pt.slots] at X3 l3 y3 z3 st3 hQ3
  subst l3 y3 z3
  obtain ⟨rfl, N3q, e3⟩ := hQ3
  have N3 := Fr.app N0 N3q
  obtain ⟨fs, hr, hrun, hended, hW, hsame⟩ := X3.leave (v := some (.ref s_Joined_State_COMMITTED)) (fun h => by rw [Bd.returns] at h; cases h)
  refine ⟨_, _, pre0 _ ?_, hrun, hended, _, _, rfl, ?_, ⟨_, rfl⟩, hW, hsame.mono (by decide) (by decide)⟩
  · show Steps p.tables e below (s₁.setTop (mkF m 0 #[.val (.ref s_PRE_ABORTED), .val (.ref s_Outcome_COMMITTED), .unset, .unset] [])) _
    refine XS.aloadN X0.here hx rfl (hb hby d4_0) rfl rfl ?_
    show Steps p.tables e below (s₁.setTop (mkF m 1 #[.val (.ref s_PRE_ABORTED), .val (.ref s_Outcome_COMMITTED), .unset, .unset] [(.ref s_PRE_ABORTED)])) _
    refine st1 _ ?_
    show Steps p.tables e below (T1.setTop (mkF m 4 #[.val (.ref s_PRE_ABORTED), .val (.ref s_Outcome_COMMITTED), .unset, .unset] [(.ref s_HEURISTICALLY_ABORTED), (.ref s_PRE_ABORTED)])) _
    refine Jvm.RoadKit.acmp (g := (mkF m 4 #[.val (.ref s_PRE_ABORTED), .val (.ref s_Outcome_COMMITTED), .unset, .unset] [(.ref s_HEURISTICALLY_ABORTED), (.ref s_PRE_ABORTED)])) X1 hx rfl rfl rfl (pc0 := 4) (pc' := 14) (same := false) rfl (hb hby d4_4) rfl (decide_eq_false fun q => (Fld.ne O_PRE_ABORTED O_HEURISTICALLY_ABORTED (fun q => absurd (Value.int.inj q) (by decide))) (Value.ref.inj q)) (by decide) (by decide) ?_
    show Steps p.tables e below (T1.setTop (mkF m 14 #[.val (.ref s_PRE_ABORTED), .val (.ref s_Outcome_COMMITTED), .unset, .unset] [])) _
    refine XS.aloadN X1.here hx rfl (hb hby d4_14) rfl rfl ?_
    show Steps p.tables e below (T1.setTop (mkF m 15 #[.val (.ref s_PRE_ABORTED), .val (.ref s_Outcome_COMMITTED), .unset, .unset] [(.ref s_PRE_ABORTED)])) _
    refine st2 _ ?_
    show Steps p.tables e below (T2.setTop (mkF m 18 #[.val (.ref s_PRE_ABORTED), .val (.ref s_Outcome_COMMITTED), .unset, .unset] [(.ref s_HEURISTICALLY_COMMITTED), (.ref s_PRE_ABORTED)])) _
    refine Jvm.RoadKit.acmp (g := (mkF m 18 #[.val (.ref s_PRE_ABORTED), .val (.ref s_Outcome_COMMITTED), .unset, .unset] [(.ref s_HEURISTICALLY_COMMITTED), (.ref s_PRE_ABORTED)])) X2 hx rfl rfl rfl (pc0 := 18) (pc' := 32) (same := false) rfl (hb hby d4_18) rfl (decide_eq_false fun q => (Fld.ne O_PRE_ABORTED O_HEURISTICALLY_COMMITTED (fun q => absurd (Value.int.inj q) (by decide))) (Value.ref.inj q)) (by decide) (by decide) ?_
    show Steps p.tables e below (T2.setTop (mkF m 32 #[.val (.ref s_PRE_ABORTED), .val (.ref s_Outcome_COMMITTED), .unset, .unset] [])) _
    refine XS.iconst X2.here hx rfl (hb hby d4_32) ?_
    show Steps p.tables e below (T2.setTop (mkF m 33 #[.val (.ref s_PRE_ABORTED), .val (.ref s_Outcome_COMMITTED), .unset, .unset] [(.int (0 : Int32))])) _
    refine XS.istoreN X2.here hx rfl (hb hby d4_33) rfl (l' := #[.val (.ref s_PRE_ABORTED), .val (.ref s_Outcome_COMMITTED), .val (.int (0 : Int32)), .unset]) rfl ?_
    show Steps p.tables e below (T2.setTop (mkF m 34 #[.val (.ref s_PRE_ABORTED), .val (.ref s_Outcome_COMMITTED), .val (.int (0 : Int32)), .unset] [])) _
    refine XS.iloadN X2.here hx rfl (hb hby d4_34) rfl ?_
    show Steps p.tables e below (T2.setTop (mkF m 35 #[.val (.ref s_PRE_ABORTED), .val (.ref s_Outcome_COMMITTED), .val (.int (0 : Int32)), .unset] [(.int (0 : Int32))])) _
    refine XS.ifYes X2.here hx rfl (pc0 := 35) (pc' := 52) rfl (hb hby d4_35) rfl ((if0 _ _).trans (teq (by decide : (0 : Int32) = (0 : Int32))).1) (by decide) (by decide) ?_
    show Steps p.tables e below (T2.setTop (mkF m 52 #[.val (.ref s_PRE_ABORTED), .val (.ref s_Outcome_COMMITTED), .val (.int (0 : Int32)), .unset] [])) _
    refine XS.iloadN X2.here hx rfl (hb hby d4_52) rfl ?_
    show Steps p.tables e below (T2.setTop (mkF m 53 #[.val (.ref s_PRE_ABORTED), .val (.ref s_Outcome_COMMITTED), .val (.int (0 : Int32)), .unset] [(.int (0 : Int32))])) _
    refine XS.ifYes X2.here hx rfl (pc0 := 53) (pc' := 63) rfl (hb hby d4_53) rfl ((if0 _ _).trans (teq (by decide : (0 : Int32) = (0 : Int32))).1) (by decide) (by decide) ?_
    show Steps p.tables e below (T2.setTop (mkF m 63 #[.val (.ref s_PRE_ABORTED), .val (.ref s_Outcome_COMMITTED), .val (.int (0 : Int32)), .unset] [])) _
    refine XS.aloadN X2.here hx rfl (hb hby d4_63) rfl rfl ?_
    show Steps p.tables e below (T2.setTop (mkF m 64 #[.val (.ref s_PRE_ABORTED), .val (.ref s_Outcome_COMMITTED), .val (.int (0 : Int32)), .unset] [(.ref s_Outcome_COMMITTED)])) _
    refine st3 _ ?_
    show Steps p.tables e below (T3.setTop (mkF m 67 #[.val (.ref s_PRE_ABORTED), .val (.ref s_Outcome_COMMITTED), .val (.int (0 : Int32)), .unset] [(.ref s_Joined_State_COMMITTED)])) _
    refine XS.astoreN X3.here hx rfl (hb hby d4_67) rfl rfl (l' := #[.val (.ref s_PRE_ABORTED), .val (.ref s_Outcome_COMMITTED), .val (.int (0 : Int32)), .val (.ref s_Joined_State_COMMITTED)]) rfl ?_
    show Steps p.tables e below (T3.setTop (mkF m 68 #[.val (.ref s_PRE_ABORTED), .val (.ref s_Outcome_COMMITTED), .val (.int (0 : Int32)), .val (.ref s_Joined_State_COMMITTED)] [])) _
    refine XS.aloadN X3.here hx rfl (hb hby d4_68) rfl rfl ?_
    show Steps p.tables e below (T3.setTop (mkF m 69 #[.val (.ref s_PRE_ABORTED), .val (.ref s_Outcome_COMMITTED), .val (.int (0 : Int32)), .val (.ref s_Joined_State_COMMITTED)] [(.ref s_Joined_State_COMMITTED)])) _
    exact retOut X3 hx Bd.returns rfl (Or.inr (Or.inr (Or.inr (Or.inr ⟨rfl, rfl, rfl⟩)))) (hb hby d4_69) hr
  · show own_Q (some (.ref s_Joined_State_COMMITTED)) h0 n0 _ T3.heap _
    rw [e3]
    exact ⟨rfl, N3, rfl⟩
set_option maxRecDepth 65536 in
set_option maxHeartbeats 40000000 in
theorem r_after_2_Outcome_ABORTED (l : Launch) (Z : State) (a0 : Array Value) (hw : ∀ d ∈ tables_1, d.before a0 Z = true) (ws : List Jvm.Cond) (s_PREPARED s_IN_DOUBT s_Outcome_COMMITTED s_HEURISTICALLY_ABORTED s_HEURISTICALLY_COMMITTED s_Joined_State_COMMITTED s_HEURISTIC_ABORT s_HEURISTIC_COMMIT s_COMMITTED_AGAINST_HEURISTIC s_HEURISTIC_MISMATCH s_COMMITTED_IN_ONE_PHASE s_TxnStatus_COMMITTED s_ABORTED_AGAINST_HEURISTIC s_Outcome_ABORTED s_PRE_ABORTED s_PRE_COMMITTED s_Joined_State_ABORTED s_TxnStatus_ABORTED : Addr) (h0 : Heap) (n0 : Nat) (Z0 : n0 ≤ h0.size) (G : own_Ctx Z h0 s_PREPARED s_IN_DOUBT s_Outcome_COMMITTED s_HEURISTICALLY_ABORTED s_HEURISTICALLY_COMMITTED s_Joined_State_COMMITTED s_HEURISTIC_ABORT s_HEURISTIC_COMMIT s_COMMITTED_AGAINST_HEURISTIC s_HEURISTIC_MISMATCH s_COMMITTED_IN_ONE_PHASE s_TxnStatus_COMMITTED s_ABORTED_AGAINST_HEURISTIC s_Outcome_ABORTED s_PRE_ABORTED s_PRE_COMMITTED s_Joined_State_ABORTED s_TxnStatus_ABORTED)   :
    MetFree l (⟨"com/example/unanimity/unanimity/core/Joined$State", "after", "(Lcom/example/unanimity/unanimity/core/Outcome;)Lcom/example/unanimity/unanimity/core/Joined$State;"⟩ : MethodName) (head1 (Jvm.Cond.code (⟨"com/example/unanimity/unanimity/core/Joined$State", "after", "(Lcom/example/unanimity/unanimity/core/Outcome;)Lcom/example/unanimity/unanimity/core/Joined$State;"⟩ : MethodName) prog_7_method_6_code 4 (some (.object "com/example/unanimity/unanimity/core/Joined$State")) :: ws) ({ frames := 1, cells := 0, slots := 0, locals := 12 } : Room)) (fun a U => a = #[(.ref s_PRE_ABORTED), (.ref s_Outcome_ABORTED)] ∧ Z.Warmed39 U.vm ∧ U.heap = h0) (fun _ _ _ _ _ => True) (fun _ U o U' => ∃ v L, o = .returned v ∧ own_Q (some (.ref s_Joined_State_ABORTED)) h0 n0 v U'.heap L ∧ FrameEnd U o U' L ({ frames := 1, cells := 0, slots := 0, locals := 12 } : Room).cells ({ frames := 1, cells := 0, slots := 0, locals := 12 } : Room).slots) := by
  have G0 := G
  obtain ⟨S_PREPARED, E_PREPARED, O_PREPARED, S_IN_DOUBT, E_IN_DOUBT, O_IN_DOUBT, S_Outcome_COMMITTED, E_Outcome_COMMITTED, O_Outcome_COMMITTED, S_HEURISTICALLY_ABORTED, E_HEURISTICALLY_ABORTED, O_HEURISTICALLY_ABORTED, S_HEURISTICALLY_COMMITTED, E_HEURISTICALLY_COMMITTED, O_HEURISTICALLY_COMMITTED, S_Joined_State_COMMITTED, E_Joined_State_COMMITTED, S_HEURISTIC_ABORT, E_HEURISTIC_ABORT, O_HEURISTIC_ABORT, S_HEURISTIC_COMMIT, E_HEURISTIC_COMMIT, O_HEURISTIC_COMMIT, S_COMMITTED_AGAINST_HEURISTIC, E_COMMITTED_AGAINST_HEURISTIC, S_HEURISTIC_MISMATCH, E_HEURISTIC_MISMATCH, O_HEURISTIC_MISMATCH, S_COMMITTED_IN_ONE_PHASE, E_COMMITTED_IN_ONE_PHASE, S_TxnStatus_COMMITTED, E_TxnStatus_COMMITTED, O_TxnStatus_COMMITTED, S_ABORTED_AGAINST_HEURISTIC, E_ABORTED_AGAINST_HEURISTIC, S_Outcome_ABORTED, E_Outcome_ABORTED, O_Outcome_ABORTED, S_PRE_ABORTED, E_PRE_ABORTED, O_PRE_ABORTED, S_PRE_COMMITTED, E_PRE_COMMITTED, O_PRE_COMMITTED, S_Joined_State_ABORTED, E_Joined_State_ABORTED, S_TxnStatus_ABORTED, E_TxnStatus_ABORTED, O_TxnStatus_ABORTED, F_decision_PREPARED, F_status_PREPARED, F_decision_Joined_State_COMMITTED, F_decision_HEURISTICALLY_ABORTED, F_status_HEURISTICALLY_ABORTED, F_decision_COMMITTED_AGAINST_HEURISTIC, F_status_COMMITTED_AGAINST_HEURISTIC, F_decision_COMMITTED_IN_ONE_PHASE, F_status_COMMITTED_IN_ONE_PHASE, F_decision_ABORTED_AGAINST_HEURISTIC, F_status_ABORTED_AGAINST_HEURISTIC, F_decision_PRE_ABORTED, F_status_PRE_ABORTED, F_decision_HEURISTICALLY_COMMITTED, F_status_HEURISTICALLY_COMMITTED, F_decision_PRE_COMMITTED, F_status_PRE_COMMITTED, F_decision_Joined_State_ABORTED, F_status_Joined_State_COMMITTED, F_status_Joined_State_ABORTED⟩ := G
  refine MetFree.of_bodySF (plainFor_of_name pn_0) hisR ?_
  intro p e s m args below meth c s₁ Bd hml0 hP hK
  obtain ⟨rfl, hZ, hh⟩ := hP
  have hx := Bd.exec
  have hby := Bd.bytes
  have hml : c.maxLocals = 4 := hml0
  have hown : s.vm.findClass "com/example/unanimity/unanimity/core/Joined$State" = some m.cls := findClass_of_methodNamed Bd.named
  have hnm := (name_of_methodNamed Bd.named Bd.method).1
  have X0 : Stand p l e ({ frames := 1, cells := 0, slots := 0, locals := 12 } : Room) s m #[(.ref s_PRE_ABORTED), (.ref s_Outcome_ABORTED)] below meth c s₁ [] 0 0 := Stand.of_body Bd
  have e0 : s₁.heap = h0 := by rw [← hh, Bd.state]; rfl
  have N0 := Fr.nil n0
  have pre0 : ∀ t, Steps p.tables e below (s₁.setTop (mkF m 0 #[.val (.ref s_PRE_ABORTED), .val (.ref s_Outcome_ABORTED), .unset, .unset] [])) t → Steps p.tables e below (s₁.setTop (entryFrame m #[(.ref s_PRE_ABORTED), (.ref s_Outcome_ABORTED)] 4)) t := fun t k => castTop (ef_4_3 m s_PRE_ABORTED s_Outcome_ABORTED) k
  obtain ⟨T1, X1, e1, st1⟩ := getS2 X0 hx hZ hown (host := "") (Or.inl (hw _ (List.mem_of_getElem? (i := 33) rfl))) Via.refl e0 S_HEURISTICALLY_ABORTED (g := (mkF m 1 #[.val (.ref s_PRE_ABORTED), .val (.ref s_Outcome_ABORTED), .unset, .unset] [(.ref s_PRE_ABORTED)])) rfl (hb hby d4_1)
  obtain ⟨T2, X2, e2, st2⟩ := getS2 X1 hx hZ hown (host := "") (Or.inl (hw _ (List.mem_of_getElem? (i := 35) rfl))) Via.refl e1 S_HEURISTICALLY_COMMITTED (g := (mkF m 15 #[.val (.ref s_PRE_ABORTED), .val (.ref s_Outcome_ABORTED), .unset, .unset] [(.ref s_PRE_ABORTED)])) rfl (hb hby d4_15)
  obtain ⟨_, _, ⟨T3, L3, k3, n3⟩, -, X3, ⟨Lc3, hQ3, l3, y3, z3⟩, st3⟩ := Jvm.LawKit.callS X2 hx (y := (⟨"com/example/unanimity/unanimity/core/Joined$State", "decided", "(Lcom/example/unanimity/unanimity/core/Outcome;)Lcom/example/unanimity/unanimity/core/Joined$State;"⟩ : MethodName)) hown (mvT hZ (hw _ (List.mem_of_getElem? (i := 37) rfl))) (mvT hZ (hw _ (List.mem_of_getElem? (i := 38) rfl))) (mvT hZ (hw _ (List.mem_of_getElem? (i := 6) rfl))) (mvT hZ (hw _ (List.mem_of_getElem? (i := 39) rfl))) (by decide) (backOf (W := 0) (r_dec_Outcome_ABORTED l Z a0 hw [] s_PREPARED s_IN_DOUBT s_Outcome_COMMITTED s_HEURISTICALLY_ABORTED s_HEURISTICALLY_COMMITTED s_Joined_State_COMMITTED s_HEURISTIC_ABORT s_HEURISTIC_COMMIT s_COMMITTED_AGAINST_HEURISTIC s_HEURISTIC_MISMATCH s_COMMITTED_IN_ONE_PHASE s_TxnStatus_COMMITTED s_ABORTED_AGAINST_HEURISTIC s_Outcome_ABORTED s_PRE_ABORTED s_PRE_COMMITTED s_Joined_State_ABORTED s_TxnStatus_ABORTED h0 n0 Z0 G0) hZ (hw _ (List.mem_of_getElem? (i := 39) rfl)) (hw _ (List.mem_of_getElem? (i := 6) rfl)) (by decide) (by decide)) (g := (mkF m 64 #[.val (.ref s_PRE_ABORTED), .val (.ref s_Outcome_ABORTED), .val (.int (0 : Int32)), .unset] [(.ref s_Outcome_ABORTED)])) rfl (by rw [hml]; rfl) (argsL := [(.ref s_Outcome_ABORTED)]) (rest := []) (lenOf pd_0 rfl) rfl (by show 2 * 0 + _ ≤ _; exact Nat.le_of_eq rfl) (hb hby d4_64) (fun _ _ => ⟨rfl, e2, (by decide : 0 + 0 ≤ _), (by decide : 0 + 0 ≤ _)⟩)
  dsimp only [Pt.U, Pt.locs, Pt.cells, Pt.slots] at X3 l3 y3 z3 st3 hQ3
  subst l3 y3 z3
  obtain ⟨rfl, N3q, e3⟩ := hQ3
  have N3 := Fr.app N0 N3q
  obtain ⟨fs, hr, hrun, hended, hW, hsame⟩ := X3.leave (v := some (.ref s_Joined_State_ABORTED)) (fun h => by rw [Bd.returns] at h; cases h)
  refine ⟨_, _, pre0 _ ?_, hrun, hended, _, _, rfl, ?_, ⟨_, rfl⟩, hW, hsame.mono (by decide) (by decide)⟩
  · show Steps p.tables e below (s₁.setTop (mkF m 0 #[.val (.ref s_PRE_ABORTED), .val (.ref s_Outcome_ABORTED), .unset, .unset] [])) _
    refine XS.aloadN X0.here hx rfl (hb hby d4_0) rfl rfl ?_
    show Steps p.tables e below (s₁.setTop (mkF m 1 #[.val (.ref s_PRE_ABORTED), .val (.ref s_Outcome_ABORTED), .unset, .unset] [(.ref s_PRE_ABORTED)])) _
    refine st1 _ ?_
    show Steps p.tables e below (T1.setTop (mkF m 4 #[.val (.ref s_PRE_ABORTED), .val (.ref s_Outcome_ABORTED), .unset, .unset] [(.ref s_HEURISTICALLY_ABORTED), (.ref s_PRE_ABORTED)])) _
    refine Jvm.RoadKit.acmp (g := (mkF m 4 #[.val (.ref s_PRE_ABORTED), .val (.ref s_Outcome_ABORTED), .unset, .unset] [(.ref s_HEURISTICALLY_ABORTED), (.ref s_PRE_ABORTED)])) X1 hx rfl rfl rfl (pc0 := 4) (pc' := 14) (same := false) rfl (hb hby d4_4) rfl (decide_eq_false fun q => (Fld.ne O_PRE_ABORTED O_HEURISTICALLY_ABORTED (fun q => absurd (Value.int.inj q) (by decide))) (Value.ref.inj q)) (by decide) (by decide) ?_
    show Steps p.tables e below (T1.setTop (mkF m 14 #[.val (.ref s_PRE_ABORTED), .val (.ref s_Outcome_ABORTED), .unset, .unset] [])) _
    refine XS.aloadN X1.here hx rfl (hb hby d4_14) rfl rfl ?_
    show Steps p.tables e below (T1.setTop (mkF m 15 #[.val (.ref s_PRE_ABORTED), .val (.ref s_Outcome_ABORTED), .unset, .unset] [(.ref s_PRE_ABORTED)])) _
    refine st2 _ ?_
    show Steps p.tables e below (T2.setTop (mkF m 18 #[.val (.ref s_PRE_ABORTED), .val (.ref s_Outcome_ABORTED), .unset, .unset] [(.ref s_HEURISTICALLY_COMMITTED), (.ref s_PRE_ABORTED)])) _
    refine Jvm.RoadKit.acmp (g := (mkF m 18 #[.val (.ref s_PRE_ABORTED), .val (.ref s_Outcome_ABORTED), .unset, .unset] [(.ref s_HEURISTICALLY_COMMITTED), (.ref s_PRE_ABORTED)])) X2 hx rfl rfl rfl (pc0 := 18) (pc' := 32) (same := false) rfl (hb hby d4_18) rfl (decide_eq_false fun q => (Fld.ne O_PRE_ABORTED O_HEURISTICALLY_COMMITTED (fun q => absurd (Value.int.inj q) (by decide))) (Value.ref.inj q)) (by decide) (by decide) ?_
    show Steps p.tables e below (T2.setTop (mkF m 32 #[.val (.ref s_PRE_ABORTED), .val (.ref s_Outcome_ABORTED), .unset, .unset] [])) _
    refine XS.iconst X2.here hx rfl (hb hby d4_32) ?_
    show Steps p.tables e below (T2.setTop (mkF m 33 #[.val (.ref s_PRE_ABORTED), .val (.ref s_Outcome_ABORTED), .unset, .unset] [(.int (0 : Int32))])) _
    refine XS.istoreN X2.here hx rfl (hb hby d4_33) rfl (l' := #[.val (.ref s_PRE_ABORTED), .val (.ref s_Outcome_ABORTED), .val (.int (0 : Int32)), .unset]) rfl ?_
    show Steps p.tables e below (T2.setTop (mkF m 34 #[.val (.ref s_PRE_ABORTED), .val (.ref s_Outcome_ABORTED), .val (.int (0 : Int32)), .unset] [])) _
    refine XS.iloadN X2.here hx rfl (hb hby d4_34) rfl ?_
    show Steps p.tables e below (T2.setTop (mkF m 35 #[.val (.ref s_PRE_ABORTED), .val (.ref s_Outcome_ABORTED), .val (.int (0 : Int32)), .unset] [(.int (0 : Int32))])) _
    refine XS.ifYes X2.here hx rfl (pc0 := 35) (pc' := 52) rfl (hb hby d4_35) rfl ((if0 _ _).trans (teq (by decide : (0 : Int32) = (0 : Int32))).1) (by decide) (by decide) ?_
    show Steps p.tables e below (T2.setTop (mkF m 52 #[.val (.ref s_PRE_ABORTED), .val (.ref s_Outcome_ABORTED), .val (.int (0 : Int32)), .unset] [])) _
    refine XS.iloadN X2.here hx rfl (hb hby d4_52) rfl ?_
    show Steps p.tables e below (T2.setTop (mkF m 53 #[.val (.ref s_PRE_ABORTED), .val (.ref s_Outcome_ABORTED), .val (.int (0 : Int32)), .unset] [(.int (0 : Int32))])) _
    refine XS.ifYes X2.here hx rfl (pc0 := 53) (pc' := 63) rfl (hb hby d4_53) rfl ((if0 _ _).trans (teq (by decide : (0 : Int32) = (0 : Int32))).1) (by decide) (by decide) ?_
    show Steps p.tables e below (T2.setTop (mkF m 63 #[.val (.ref s_PRE_ABORTED), .val (.ref s_Outcome_ABORTED), .val (.int (0 : Int32)), .unset] [])) _
    refine XS.aloadN X2.here hx rfl (hb hby d4_63) rfl rfl ?_
    show Steps p.tables e below (T2.setTop (mkF m 64 #[.val (.ref s_PRE_ABORTED), .val (.ref s_Outcome_ABORTED), .val (.int (0 : Int32)), .unset] [(.ref s_Outcome_ABORTED)])) _
    refine st3 _ ?_
    show Steps p.tables e below (T3.setTop (mkF m 67 #[.val (.ref s_PRE_ABORTED), .val (.ref s_Outcome_ABORTED), .val (.int (0 : Int32)), .unset] [(.ref s_Joined_State_ABORTED)])) _
    refine XS.astoreN X3.here hx rfl (hb hby d4_67) rfl rfl (l' := #[.val (.ref s_PRE_ABORTED), .val (.ref s_Outcome_ABORTED), .val (.int (0 : Int32)), .val (.ref s_Joined_State_ABORTED)]) rfl ?_
    show Steps p.tables e below (T3.setTop (mkF m 68 #[.val (.ref s_PRE_ABORTED), .val (.ref s_Outcome_ABORTED), .val (.int (0 : Int32)), .val (.ref s_Joined_State_ABORTED)] [])) _
    refine XS.aloadN X3.here hx rfl (hb hby d4_68) rfl rfl ?_
    show Steps p.tables e below (T3.setTop (mkF m 69 #[.val (.ref s_PRE_ABORTED), .val (.ref s_Outcome_ABORTED), .val (.int (0 : Int32)), .val (.ref s_Joined_State_ABORTED)] [(.ref s_Joined_State_ABORTED)])) _
    exact retOut X3 hx Bd.returns rfl (Or.inr (Or.inr (Or.inr (Or.inr ⟨rfl, rfl, rfl⟩)))) (hb hby d4_69) hr
  · show own_Q (some (.ref s_Joined_State_ABORTED)) h0 n0 _ T3.heap _
    rw [e3]
    exact ⟨rfl, N3, rfl⟩
theorem d4_21 : decode prog_7_method_6_code 21 = .ok (.aload_n 1, 1) := by decide +kernel
theorem d4_22 : decode prog_7_method_6_code 22 = .ok (.getstatic 77, 3) := by decide +kernel
theorem d4_25 : decode prog_7_method_6_code 25 = .ok (.if_acmp .ne 7, 3) := by decide +kernel
set_option maxRecDepth 65536 in
set_option maxHeartbeats 40000000 in
theorem r_after_3_Outcome_COMMITTED (l : Launch) (Z : State) (a0 : Array Value) (hw : ∀ d ∈ tables_1, d.before a0 Z = true) (ws : List Jvm.Cond) (s_PREPARED s_IN_DOUBT s_Outcome_COMMITTED s_HEURISTICALLY_ABORTED s_HEURISTICALLY_COMMITTED s_Joined_State_COMMITTED s_HEURISTIC_ABORT s_HEURISTIC_COMMIT s_COMMITTED_AGAINST_HEURISTIC s_HEURISTIC_MISMATCH s_COMMITTED_IN_ONE_PHASE s_TxnStatus_COMMITTED s_ABORTED_AGAINST_HEURISTIC s_Outcome_ABORTED s_PRE_ABORTED s_PRE_COMMITTED s_Joined_State_ABORTED s_TxnStatus_ABORTED : Addr) (h0 : Heap) (n0 : Nat) (Z0 : n0 ≤ h0.size) (G : own_Ctx Z h0 s_PREPARED s_IN_DOUBT s_Outcome_COMMITTED s_HEURISTICALLY_ABORTED s_HEURISTICALLY_COMMITTED s_Joined_State_COMMITTED s_HEURISTIC_ABORT s_HEURISTIC_COMMIT s_COMMITTED_AGAINST_HEURISTIC s_HEURISTIC_MISMATCH s_COMMITTED_IN_ONE_PHASE s_TxnStatus_COMMITTED s_ABORTED_AGAINST_HEURISTIC s_Outcome_ABORTED s_PRE_ABORTED s_PRE_COMMITTED s_Joined_State_ABORTED s_TxnStatus_ABORTED)   :
    MetFree l (⟨"com/example/unanimity/unanimity/core/Joined$State", "after", "(Lcom/example/unanimity/unanimity/core/Outcome;)Lcom/example/unanimity/unanimity/core/Joined$State;"⟩ : MethodName) (head1 (Jvm.Cond.code (⟨"com/example/unanimity/unanimity/core/Joined$State", "after", "(Lcom/example/unanimity/unanimity/core/Outcome;)Lcom/example/unanimity/unanimity/core/Joined$State;"⟩ : MethodName) prog_7_method_6_code 4 (some (.object "com/example/unanimity/unanimity/core/Joined$State")) :: ws) ({ frames := 1, cells := 0, slots := 0, locals := 12 } : Room)) (fun a U => a = #[(.ref s_HEURISTICALLY_COMMITTED), (.ref s_Outcome_COMMITTED)] ∧ Z.Warmed39 U.vm ∧ U.heap = h0) (fun _ _ _ _ _ => True) (fun _ U o U' => ∃ v L, o = .returned v ∧ own_Q (some (.ref s_Joined_State_COMMITTED)) h0 n0 v U'.heap L ∧ FrameEnd U o U' L ({ frames := 1, cells := 0, slots := 0, locals := 12 } : Room).cells ({ frames := 1, cells := 0, slots := 0, locals := 12 } : Room).slots) := by
  have G0 := G
  obtain ⟨S_PREPARED, E_PREPARED, O_PREPARED, S_IN_DOUBT, E_IN_DOUBT, O_IN_DOUBT, S_Outcome_COMMITTED, E_Outcome_COMMITTED, O_Outcome_COMMITTED, S_HEURISTICALLY_ABORTED, E_HEURISTICALLY_ABORTED, O_HEURISTICALLY_ABORTED, S_HEURISTICALLY_COMMITTED, E_HEURISTICALLY_COMMITTED, O_HEURISTICALLY_COMMITTED, S_Joined_State_COMMITTED, E_Joined_State_COMMITTED, S_HEURISTIC_ABORT, E_HEURISTIC_ABORT, O_HEURISTIC_ABORT, S_HEURISTIC_COMMIT, E_HEURISTIC_COMMIT, O_HEURISTIC_COMMIT, S_COMMITTED_AGAINST_HEURISTIC, E_COMMITTED_AGAINST_HEURISTIC, S_HEURISTIC_MISMATCH, E_HEURISTIC_MISMATCH, O_HEURISTIC_MISMATCH, S_COMMITTED_IN_ONE_PHASE, E_COMMITTED_IN_ONE_PHASE, S_TxnStatus_COMMITTED, E_TxnStatus_COMMITTED, O_TxnStatus_COMMITTED, S_ABORTED_AGAINST_HEURISTIC, E_ABORTED_AGAINST_HEURISTIC, S_Outcome_ABORTED, E_Outcome_ABORTED, O_Outcome_ABORTED, S_PRE_ABORTED, E_PRE_ABORTED, O_PRE_ABORTED, S_PRE_COMMITTED, E_PRE_COMMITTED, O_PRE_COMMITTED, S_Joined_State_ABORTED, E_Joined_State_ABORTED, S_TxnStatus_ABORTED, E_TxnStatus_ABORTED, O_TxnStatus_ABORTED, F_decision_PREPARED, F_status_PREPARED, F_decision_Joined_State_COMMITTED, F_decision_HEURISTICALLY_ABORTED, F_status_HEURISTICALLY_ABORTED, F_decision_COMMITTED_AGAINST_HEURISTIC, F_status_COMMITTED_AGAINST_HEURISTIC, F_decision_COMMITTED_IN_ONE_PHASE, F_status_COMMITTED_IN_ONE_PHASE, F_decision_ABORTED_AGAINST_HEURISTIC, F_status_ABORTED_AGAINST_HEURISTIC, F_decision_PRE_ABORTED, F_status_PRE_ABORTED, F_decision_HEURISTICALLY_COMMITTED, F_status_HEURISTICALLY_COMMITTED, F_decision_PRE_COMMITTED, F_status_PRE_COMMITTED, F_decision_Joined_State_ABORTED, F_status_Joined_State_COMMITTED, F_status_Joined_State_ABORTED⟩ := G
  refine MetFree.of_bodySF (plainFor_of_name pn_0) hisR ?_
  intro p e s m args below meth c s₁ Bd hml0 hP hK
  obtain ⟨rfl, hZ, hh⟩ := hP
  have hx := Bd.exec
  have hby := Bd.bytes
  have hml : c.maxLocals = 4 := hml0
  have hown : s.vm.findClass "com/example/unanimity/unanimity/core/Joined$State" = some m.cls := findClass_of_methodNamed Bd.named
  have hnm := (name_of_methodNamed Bd.named Bd.method).1
  have X0 : Stand p l e ({ frames := 1, cells := 0, slots := 0, locals := 12 } : Room) s m #[(.ref s_HEURISTICALLY_COMMITTED), (.ref s_Outcome_COMMITTED)] below meth c s₁ [] 0 0 := Stand.of_body Bd
  have e0 : s₁.heap = h0 := by rw [← hh, Bd.state]; rfl
  have N0 := Fr.nil n0
  have pre0 : ∀ t, Steps p.tables e below (s₁.setTop (mkF m 0 #[.val (.ref s_HEURISTICALLY_COMMITTED), .val (.ref s_Outcome_COMMITTED), .unset, .unset] [])) t → Steps p.tables e below (s₁.setTop (entryFrame m #[(.ref s_HEURISTICALLY_COMMITTED), (.ref s_Outcome_COMMITTED)] 4)) t := fun t k => castTop (ef_4_3 m s_HEURISTICALLY_COMMITTED s_Outcome_COMMITTED) k
  obtain ⟨T1, X1, e1, st1⟩ := getS2 X0 hx hZ hown (host := "") (Or.inl (hw _ (List.mem_of_getElem? (i := 33) rfl))) Via.refl e0 S_HEURISTICALLY_ABORTED (g := (mkF m 1 #[.val (.ref s_HEURISTICALLY_COMMITTED), .val (.ref s_Outcome_COMMITTED), .unset, .unset] [(.ref s_HEURISTICALLY_COMMITTED)])) rfl (hb hby d4_1)
  obtain ⟨T2, X2, e2, st2⟩ := getS2 X1 hx hZ hown (host := "") (Or.inl (hw _ (List.mem_of_getElem? (i := 35) rfl))) Via.refl e1 S_HEURISTICALLY_COMMITTED (g := (mkF m 15 #[.val (.ref s_HEURISTICALLY_COMMITTED), .val (.ref s_Outcome_COMMITTED), .unset, .unset] [(.ref s_HEURISTICALLY_COMMITTED)])) rfl (hb hby d4_15)
  obtain ⟨T3, X3, e3, st3⟩ := getS2 X2 hx hZ hown (host := "") (Or.inl (hw _ (List.mem_of_getElem? (i := 62) rfl))) Via.refl e2 S_Outcome_ABORTED (g := (mkF m 22 #[.val (.ref s_HEURISTICALLY_COMMITTED), .val (.ref s_Outcome_COMMITTED), .unset, .unset] [(.ref s_Outcome_COMMITTED)])) rfl (hb hby d4_22)
  obtain ⟨_, _, ⟨T4, L4, k4, n4⟩, -, X4, ⟨Lc4, hQ4, l4, y4, z4⟩, st4⟩ := Jvm.LawKit.callS X3 hx (y := (⟨"com/example/unanimity/unanimity/core/Joined$State", "decided", "(Lcom/example/unanimity/unanimity/core/Outcome;)Lcom/example/unanimity/unanimity/core/Joined$State;"⟩ : MethodName)) hown (mvT hZ (hw _ (List.mem_of_getElem? (i := 37) rfl))) (mvT hZ (hw _ (List.mem_of_getElem? (i := 38) rfl))) (mvT hZ (hw _ (List.mem_of_getElem? (i := 6) rfl))) (mvT hZ (hw _ (List.mem_of_getElem? (i := 39) rfl))) (by decide) (backOf (W := 0) (r_dec_Outcome_COMMITTED l Z a0 hw [] s_PREPARED s_IN_DOUBT s_Outcome_COMMITTED s_HEURISTICALLY_ABORTED s_HEURISTICALLY_COMMITTED s_Joined_State_COMMITTED s_HEURISTIC_ABORT s_HEURISTIC_COMMIT s_COMMITTED_AGAINST_HEURISTIC s_HEURISTIC_MISMATCH s_COMMITTED_IN_ONE_PHASE s_TxnStatus_COMMITTED s_ABORTED_AGAINST_HEURISTIC s_Outcome_ABORTED s_PRE_ABORTED s_PRE_COMMITTED s_Joined_State_ABORTED s_TxnStatus_ABORTED h0 n0 Z0 G0) hZ (hw _ (List.mem_of_getElem? (i := 39) rfl)) (hw _ (List.mem_of_getElem? (i := 6) rfl)) (by decide) (by decide)) (g := (mkF m 64 #[.val (.ref s_HEURISTICALLY_COMMITTED), .val (.ref s_Outcome_COMMITTED), .val (.int (0 : Int32)), .unset] [(.ref s_Outcome_COMMITTED)])) rfl (by rw [hml]; rfl) (argsL := [(.ref s_Outcome_COMMITTED)]) (rest := []) (lenOf pd_0 rfl) rfl (by show 2 * 0 + _ ≤ _; exact Nat.le_of_eq rfl) (hb hby d4_64) (fun _ _ => ⟨rfl, e3, (by decide : 0 + 0 ≤ _), (by decide : 0 + 0 ≤ _)⟩)
  dsimp only [Pt.U, Pt.locs, Pt.cells, Pt.slots] at X4 l4 y4 z4 st4 hQ4
  subst l4 y4 z4
  obtain ⟨rfl, N4q, e4⟩ := hQ4
  have N4 := Fr.app N0 N4q
  obtain ⟨fs, hr, hrun, hended, hW, hsame⟩ := X4.leave (v := some (.ref s_Joined_State_COMMITTED)) (fun h => by rw [Bd.returns] at h; cases h)
  refine ⟨_, _, pre0 _ ?_, hrun, hended, _, _, rfl, ?_, ⟨_, rfl⟩, hW, hsame.mono (by decide) (by decide)⟩
  · show Steps p.tables e below (s₁.setTop (mkF m 0 #[.val (.ref s_HEURISTICALLY_COMMITTED), .val (.ref s_Outcome_COMMITTED), .unset, .unset] [])) _
    refine XS.aloadN X0.here hx rfl (hb hby d4_0) rfl rfl ?_
    show Steps p.tables e below (s₁.setTop (mkF m 1 #[.val (.ref s_HEURISTICALLY_COMMITTED), .val (.ref s_Outcome_COMMITTED), .unset, .unset] [(.ref s_HEURISTICALLY_COMMITTED)])) _
    refine st1 _ ?_
    show Steps p.tables e below (T1.setTop (mkF m 4 #[.val (.ref s_HEURISTICALLY_COMMITTED), .val (.ref s_Outcome_COMMITTED), .unset, .unset] [(.ref s_HEURISTICALLY_ABORTED), (.ref s_HEURISTICALLY_COMMITTED)])) _
    refine Jvm.RoadKit.acmp (g := (mkF m 4 #[.val (.ref s_HEURISTICALLY_COMMITTED), .val (.ref s_Outcome_COMMITTED), .unset, .unset] [(.ref s_HEURISTICALLY_ABORTED), (.ref s_HEURISTICALLY_COMMITTED)])) X1 hx rfl rfl rfl (pc0 := 4) (pc' := 14) (same := false) rfl (hb hby d4_4) rfl (decide_eq_false fun q => (Fld.ne O_HEURISTICALLY_COMMITTED O_HEURISTICALLY_ABORTED (fun q => absurd (Value.int.inj q) (by decide))) (Value.ref.inj q)) (by decide) (by decide) ?_
    show Steps p.tables e below (T1.setTop (mkF m 14 #[.val (.ref s_HEURISTICALLY_COMMITTED), .val (.ref s_Outcome_COMMITTED), .unset, .unset] [])) _
    refine XS.aloadN X1.here hx rfl (hb hby d4_14) rfl rfl ?_
    show Steps p.tables e below (T1.setTop (mkF m 15 #[.val (.ref s_HEURISTICALLY_COMMITTED), .val (.ref s_Outcome_COMMITTED), .unset, .unset] [(.ref s_HEURISTICALLY_COMMITTED)])) _
    refine st2 _ ?_
    show Steps p.tables e below (T2.setTop (mkF m 18 #[.val (.ref s_HEURISTICALLY_COMMITTED), .val (.ref s_Outcome_COMMITTED), .unset, .unset] [(.ref s_HEURISTICALLY_COMMITTED), (.ref s_HEURISTICALLY_COMMITTED)])) _
    refine Jvm.RoadKit.acmp (g := (mkF m 18 #[.val (.ref s_HEURISTICALLY_COMMITTED), .val (.ref s_Outcome_COMMITTED), .unset, .unset] [(.ref s_HEURISTICALLY_COMMITTED), (.ref s_HEURISTICALLY_COMMITTED)])) X2 hx rfl rfl rfl (pc0 := 18) (pc' := 21) (same := true) rfl (hb hby d4_18) rfl (decide_eq_true rfl) (by decide) (by decide) ?_
    show Steps p.tables e below (T2.setTop (mkF m 21 #[.val (.ref s_HEURISTICALLY_COMMITTED), .val (.ref s_Outcome_COMMITTED), .unset, .unset] [])) _
    refine XS.aloadN X2.here hx rfl (hb hby d4_21) rfl rfl ?_
    show Steps p.tables e below (T2.setTop (mkF m 22 #[.val (.ref s_HEURISTICALLY_COMMITTED), .val (.ref s_Outcome_COMMITTED), .unset, .unset] [(.ref s_Outcome_COMMITTED)])) _
    refine st3 _ ?_
    show Steps p.tables e below (T3.setTop (mkF m 25 #[.val (.ref s_HEURISTICALLY_COMMITTED), .val (.ref s_Outcome_COMMITTED), .unset, .unset] [(.ref s_Outcome_ABORTED), (.ref s_Outcome_COMMITTED)])) _
    refine Jvm.RoadKit.acmp (g := (mkF m 25 #[.val (.ref s_HEURISTICALLY_COMMITTED), .val (.ref s_Outcome_COMMITTED), .unset, .unset] [(.ref s_Outcome_ABORTED), (.ref s_Outcome_COMMITTED)])) X3 hx rfl rfl rfl (pc0 := 25) (pc' := 32) (same := false) rfl (hb hby d4_25) rfl (decide_eq_false fun q => (Fld.ne O_Outcome_COMMITTED O_Outcome_ABORTED (fun q => absurd (Value.int.inj q) (by decide))) (Value.ref.inj q)) (by decide) (by decide) ?_
    show Steps p.tables e below (T3.setTop (mkF m 32 #[.val (.ref s_HEURISTICALLY_COMMITTED), .val (.ref s_Outcome_COMMITTED), .unset, .unset] [])) _
    refine XS.iconst X3.here hx rfl (hb hby d4_32) ?_
    show Steps p.tables e below (T3.setTop (mkF m 33 #[.val (.ref s_HEURISTICALLY_COMMITTED), .val (.ref s_Outcome_COMMITTED), .unset, .unset] [(.int (0 : Int32))])) _
    refine XS.istoreN X3.here hx rfl (hb hby d4_33) rfl (l' := #[.val (.ref s_HEURISTICALLY_COMMITTED), .val (.ref s_Outcome_COMMITTED), .val (.int (0 : Int32)), .unset]) rfl ?_
    show Steps p.tables e below (T3.setTop (mkF m 34 #[.val (.ref s_HEURISTICALLY_COMMITTED), .val (.ref s_Outcome_COMMITTED), .val (.int (0 : Int32)), .unset] [])) _
    refine XS.iloadN X3.here hx rfl (hb hby d4_34) rfl ?_
    show Steps p.tables e below (T3.setTop (mkF m 35 #[.val (.ref s_HEURISTICALLY_COMMITTED), .val (.ref s_Outcome_COMMITTED), .val (.int (0 : Int32)), .unset] [(.int (0 : Int32))])) _
    refine XS.ifYes X3.here hx rfl (pc0 := 35) (pc' := 52) rfl (hb hby d4_35) rfl ((if0 _ _).trans (teq (by decide : (0 : Int32) = (0 : Int32))).1) (by decide) (by decide) ?_
    show Steps p.tables e below (T3.setTop (mkF m 52 #[.val (.ref s_HEURISTICALLY_COMMITTED), .val (.ref s_Outcome_COMMITTED), .val (.int (0 : Int32)), .unset] [])) _
    refine XS.iloadN X3.here hx rfl (hb hby d4_52) rfl ?_
    show Steps p.tables e below (T3.setTop (mkF m 53 #[.val (.ref s_HEURISTICALLY_COMMITTED), .val (.ref s_Outcome_COMMITTED), .val (.int (0 : Int32)), .unset] [(.int (0 : Int32))])) _
    refine XS.ifYes X3.here hx rfl (pc0 := 53) (pc' := 63) rfl (hb hby d4_53) rfl ((if0 _ _).trans (teq (by decide : (0 : Int32) = (0 : Int32))).1) (by decide) (by decide) ?_
    show Steps p.tables e below (T3.setTop (mkF m 63 #[.val (.ref s_HEURISTICALLY_COMMITTED), .val (.ref s_Outcome_COMMITTED), .val (.int (0 : Int32)), .unset] [])) _
    refine XS.aloadN X3.here hx rfl (hb hby d4_63) rfl rfl ?_
    show Steps p.tables e below (T3.setTop (mkF m 64 #[.val (.ref s_HEURISTICALLY_COMMITTED), .val (.ref s_Outcome_COMMITTED), .val (.int (0 : Int32)), .unset] [(.ref s_Outcome_COMMITTED)])) _
    refine st4 _ ?_
    show Steps p.tables e below (T4.setTop (mkF m 67 #[.val (.ref s_HEURISTICALLY_COMMITTED), .val (.ref s_Outcome_COMMITTED), .val (.int (0 : Int32)), .unset] [(.ref s_Joined_State_COMMITTED)])) _
    refine XS.astoreN X4.here hx rfl (hb hby d4_67) rfl rfl (l' := #[.val (.ref s_HEURISTICALLY_COMMITTED), .val (.ref s_Outcome_COMMITTED), .val (.int (0 : Int32)), .val (.ref s_Joined_State_COMMITTED)]) rfl ?_
    show Steps p.tables e below (T4.setTop (mkF m 68 #[.val (.ref s_HEURISTICALLY_COMMITTED), .val (.ref s_Outcome_COMMITTED), .val (.int (0 : Int32)), .val (.ref s_Joined_State_COMMITTED)] [])) _
    refine XS.aloadN X4.here hx rfl (hb hby d4_68) rfl rfl ?_
    show Steps p.tables e below (T4.setTop (mkF m 69 #[.val (.ref s_HEURISTICALLY_COMMITTED), .val (.ref s_Outcome_COMMITTED), .val (.int (0 : Int32)), .val (.ref s_Joined_State_COMMITTED)] [(.ref s_Joined_State_COMMITTED)])) _
    exact retOut X4 hx Bd.returns rfl (Or.inr (Or.inr (Or.inr (Or.inr ⟨rfl, rfl, rfl⟩)))) (hb hby d4_69) hr
  · show own_Q (some (.ref s_Joined_State_COMMITTED)) h0 n0 _ T4.heap _
    rw [e4]
    exact ⟨rfl, N4, rfl⟩
theorem d4_28 : decode prog_7_method_6_code 28 = .ok (.iconst 1, 1) := by decide +kernel
theorem d4_29 : decode prog_7_method_6_code 29 = .ok (.goto 4, 3) := by decide +kernel
theorem d4_38 : decode prog_7_method_6_code 38 = .ok (.aload_n 1, 1) := by decide +kernel
theorem d4_39 : decode prog_7_method_6_code 39 = .ok (.getstatic 73, 3) := by decide +kernel
theorem d4_42 : decode prog_7_method_6_code 42 = .ok (.if_acmp .ne 10, 3) := by decide +kernel
theorem d4_56 : decode prog_7_method_6_code 56 = .ok (.getstatic 31, 3) := by decide +kernel
theorem d4_59 : decode prog_7_method_6_code 59 = .ok (.astore_n 3, 1) := by decide +kernel
theorem d4_60 : decode prog_7_method_6_code 60 = .ok (.goto 8, 3) := by decide +kernel
set_option maxRecDepth 65536 in
set_option maxHeartbeats 40000000 in
theorem r_after_3_Outcome_ABORTED (l : Launch) (Z : State) (a0 : Array Value) (hw : ∀ d ∈ tables_1, d.before a0 Z = true) (ws : List Jvm.Cond) (s_PREPARED s_IN_DOUBT s_Outcome_COMMITTED s_HEURISTICALLY_ABORTED s_HEURISTICALLY_COMMITTED s_Joined_State_COMMITTED s_HEURISTIC_ABORT s_HEURISTIC_COMMIT s_COMMITTED_AGAINST_HEURISTIC s_HEURISTIC_MISMATCH s_COMMITTED_IN_ONE_PHASE s_TxnStatus_COMMITTED s_ABORTED_AGAINST_HEURISTIC s_Outcome_ABORTED s_PRE_ABORTED s_PRE_COMMITTED s_Joined_State_ABORTED s_TxnStatus_ABORTED : Addr) (h0 : Heap) (n0 : Nat) (Z0 : n0 ≤ h0.size) (G : own_Ctx Z h0 s_PREPARED s_IN_DOUBT s_Outcome_COMMITTED s_HEURISTICALLY_ABORTED s_HEURISTICALLY_COMMITTED s_Joined_State_COMMITTED s_HEURISTIC_ABORT s_HEURISTIC_COMMIT s_COMMITTED_AGAINST_HEURISTIC s_HEURISTIC_MISMATCH s_COMMITTED_IN_ONE_PHASE s_TxnStatus_COMMITTED s_ABORTED_AGAINST_HEURISTIC s_Outcome_ABORTED s_PRE_ABORTED s_PRE_COMMITTED s_Joined_State_ABORTED s_TxnStatus_ABORTED)   :
    MetFree l (⟨"com/example/unanimity/unanimity/core/Joined$State", "after", "(Lcom/example/unanimity/unanimity/core/Outcome;)Lcom/example/unanimity/unanimity/core/Joined$State;"⟩ : MethodName) (head1 (Jvm.Cond.code (⟨"com/example/unanimity/unanimity/core/Joined$State", "after", "(Lcom/example/unanimity/unanimity/core/Outcome;)Lcom/example/unanimity/unanimity/core/Joined$State;"⟩ : MethodName) prog_7_method_6_code 4 (some (.object "com/example/unanimity/unanimity/core/Joined$State")) :: ws) ({ frames := 0, cells := 0, slots := 0, locals := 0 } : Room)) (fun a U => a = #[(.ref s_HEURISTICALLY_COMMITTED), (.ref s_Outcome_ABORTED)] ∧ Z.Warmed39 U.vm ∧ U.heap = h0) (fun _ _ _ _ _ => True) (fun _ U o U' => ∃ v L, o = .returned v ∧ own_Q (some (.ref s_ABORTED_AGAINST_HEURISTIC)) h0 n0 v U'.heap L ∧ FrameEnd U o U' L ({ frames := 0, cells := 0, slots := 0, locals := 0 } : Room).cells ({ frames := 0, cells := 0, slots := 0, locals := 0 } : Room).slots) := by
  have G0 := G
  obtain ⟨S_PREPARED, E_PREPARED, O_PREPARED, S_IN_DOUBT, E_IN_DOUBT, O_IN_DOUBT, S_Outcome_COMMITTED, E_Outcome_COMMITTED, O_Outcome_COMMITTED, S_HEURISTICALLY_ABORTED, E_HEURISTICALLY_ABORTED, O_HEURISTICALLY_ABORTED, S_HEURISTICALLY_COMMITTED, E_HEURISTICALLY_COMMITTED, O_HEURISTICALLY_COMMITTED, S_Joined_State_COMMITTED, E_Joined_State_COMMITTED, S_HEURISTIC_ABORT, E_HEURISTIC_ABORT, O_HEURISTIC_ABORT, S_HEURISTIC_COMMIT, E_HEURISTIC_COMMIT, O_HEURISTIC_COMMIT, S_COMMITTED_AGAINST_HEURISTIC, E_COMMITTED_AGAINST_HEURISTIC, S_HEURISTIC_MISMATCH, E_HEURISTIC_MISMATCH, O_HEURISTIC_MISMATCH, S_COMMITTED_IN_ONE_PHASE, E_COMMITTED_IN_ONE_PHASE, S_TxnStatus_COMMITTED, E_TxnStatus_COMMITTED, O_TxnStatus_COMMITTED, S_ABORTED_AGAINST_HEURISTIC, E_ABORTED_AGAINST_HEURISTIC, S_Outcome_ABORTED, E_Outcome_ABORTED, O_Outcome_ABORTED, S_PRE_ABORTED, E_PRE_ABORTED, O_PRE_ABORTED, S_PRE_COMMITTED, E_PRE_COMMITTED, O_PRE_COMMITTED, S_Joined_State_ABORTED, E_Joined_State_ABORTED, S_TxnStatus_ABORTED, E_TxnStatus_ABORTED, O_TxnStatus_ABORTED, F_decision_PREPARED, F_status_PREPARED, F_decision_Joined_State_COMMITTED, F_decision_HEURISTICALLY_ABORTED, F_status_HEURISTICALLY_ABORTED, F_decision_COMMITTED_AGAINST_HEURISTIC, F_status_COMMITTED_AGAINST_HEURISTIC, F_decision_COMMITTED_IN_ONE_PHASE, F_status_COMMITTED_IN_ONE_PHASE, F_decision_ABORTED_AGAINST_HEURISTIC, F_status_ABORTED_AGAINST_HEURISTIC, F_decision_PRE_ABORTED, F_status_PRE_ABORTED, F_decision_HEURISTICALLY_COMMITTED, F_status_HEURISTICALLY_COMMITTED, F_decision_PRE_COMMITTED, F_status_PRE_COMMITTED, F_decision_Joined_State_ABORTED, F_status_Joined_State_COMMITTED, F_status_Joined_State_ABORTED⟩ := G
  refine MetFree.of_bodySF (plainFor_of_name pn_0) hisR ?_
  intro p e s m args below meth c s₁ Bd hml0 hP hK
  obtain ⟨rfl, hZ, hh⟩ := hP
  have hx := Bd.exec
  have hby := Bd.bytes
  have hml : c.maxLocals = 4 := hml0
  have hown : s.vm.findClass "com/example/unanimity/unanimity/core/Joined$State" = some m.cls := findClass_of_methodNamed Bd.named
  have hnm := (name_of_methodNamed Bd.named Bd.method).1
  have X0 : Stand p l e ({ frames := 0, cells := 0, slots := 0, locals := 0 } : Room) s m #[(.ref s_HEURISTICALLY_COMMITTED), (.ref s_Outcome_ABORTED)] below meth c s₁ [] 0 0 := Stand.of_body Bd
  have e0 : s₁.heap = h0 := by rw [← hh, Bd.state]; rfl
  have N0 := Fr.nil n0
  have pre0 : ∀ t, Steps p.tables e below (s₁.setTop (mkF m 0 #[.val (.ref s_HEURISTICALLY_COMMITTED), .val (.ref s_Outcome_ABORTED), .unset, .unset] [])) t → Steps p.tables e below (s₁.setTop (entryFrame m #[(.ref s_HEURISTICALLY_COMMITTED), (.ref s_Outcome_ABORTED)] 4)) t := fun t k => castTop (ef_4_3 m s_HEURISTICALLY_COMMITTED s_Outcome_ABORTED) k
  obtain ⟨T1, X1, e1, st1⟩ := getS2 X0 hx hZ hown (host := "") (Or.inl (hw _ (List.mem_of_getElem? (i := 33) rfl))) Via.refl e0 S_HEURISTICALLY_ABORTED (g := (mkF m 1 #[.val (.ref s_HEURISTICALLY_COMMITTED), .val (.ref s_Outcome_ABORTED), .unset, .unset] [(.ref s_HEURISTICALLY_COMMITTED)])) rfl (hb hby d4_1)
  obtain ⟨T2, X2, e2, st2⟩ := getS2 X1 hx hZ hown (host := "") (Or.inl (hw _ (List.mem_of_getElem? (i := 35) rfl))) Via.refl e1 S_HEURISTICALLY_COMMITTED (g := (mkF m 15 #[.val (.ref s_HEURISTICALLY_COMMITTED), .val (.ref s_Outcome_ABORTED), .unset, .unset] [(.ref s_HEURISTICALLY_COMMITTED)])) rfl (hb hby d4_15)
  obtain ⟨T3, X3, e3, st3⟩ := getS2 X2 hx hZ hown (host := "") (Or.inl (hw _ (List.mem_of_getElem? (i := 62) rfl))) Via.refl e2 S_Outcome_ABORTED (g := (mkF m 22 #[.val (.ref s_HEURISTICALLY_COMMITTED), .val (.ref s_Outcome_ABORTED), .unset, .unset] [(.ref s_Outcome_ABORTED)])) rfl (hb hby d4_22)
  obtain ⟨T4, X4, e4, st4⟩ := getS2 X3 hx hZ hown (host := "") (Or.inl (hw _ (List.mem_of_getElem? (i := 40) rfl))) Via.refl e3 S_Outcome_COMMITTED (g := (mkF m 39 #[.val (.ref s_HEURISTICALLY_COMMITTED), .val (.ref s_Outcome_ABORTED), .val (.int (1 : Int32)), .unset] [(.ref s_Outcome_ABORTED)])) rfl (hb hby d4_39)
  obtain ⟨T5, X5, e5, st5⟩ := getS2 X4 hx hZ hown (host := "") (Or.inl (hw _ (List.mem_of_getElem? (i := 71) rfl))) Via.refl e4 S_ABORTED_AGAINST_HEURISTIC (g := (mkF m 56 #[.val (.ref s_HEURISTICALLY_COMMITTED), .val (.ref s_Outcome_ABORTED), .val (.int (1 : Int32)), .unset] [])) rfl (hb hby d4_56)
  obtain ⟨fs, hr, hrun, hended, hW, hsame⟩ := X5.leave (v := some (.ref s_ABORTED_AGAINST_HEURISTIC)) (fun h => by rw [Bd.returns] at h; cases h)
  refine ⟨_, _, pre0 _ ?_, hrun, hended, _, _, rfl, ?_, ⟨_, rfl⟩, hW, hsame.mono (by decide) (by decide)⟩
  · show Steps p.tables e below (s₁.setTop (mkF m 0 #[.val (.ref s_HEURISTICALLY_COMMITTED), .val (.ref s_Outcome_ABORTED), .unset, .unset] [])) _
    refine XS.aloadN X0.here hx rfl (hb hby d4_0) rfl rfl ?_
    show Steps p.tables e below (s₁.setTop (mkF m 1 #[.val (.ref s_HEURISTICALLY_COMMITTED), .val (.ref s_Outcome_ABORTED), .unset, .unset] [(.ref s_HEURISTICALLY_COMMITTED)])) _
    refine st1 _ ?_
    show Steps p.tables e below (T1.setTop (mkF m 4 #[.val (.ref s_HEURISTICALLY_COMMITTED), .val (.ref s_Outcome_ABORTED), .unset, .unset] [(.ref s_HEURISTICALLY_ABORTED), (.ref s_HEURISTICALLY_COMMITTED)])) _
    refine Jvm.RoadKit.acmp (g := (mkF m 4 #[.val (.ref s_HEURISTICALLY_COMMITTED), .val (.ref s_Outcome_ABORTED), .unset, .unset] [(.ref s_HEURISTICALLY_ABORTED), (.ref s_HEURISTICALLY_COMMITTED)])) X1 hx rfl rfl rfl (pc0 := 4) (pc' := 14) (same := false) rfl (hb hby d4_4) rfl (decide_eq_false fun q => (Fld.ne O_HEURISTICALLY_COMMITTED O_HEURISTICALLY_ABORTED (fun q => absurd (Value.int.inj q) (by decide))) (Value.ref.inj q)) (by decide) (by decide) ?_
    show Steps p.tables e below (T1.setTop (mkF m 14 #[.val (.ref s_HEURISTICALLY_COMMITTED), .val (.ref s_Outcome_ABORTED), .unset, .unset] [])) _
    refine XS.aloadN X1.here hx rfl (hb hby d4_14) rfl rfl ?_
    show Steps p.tables e below (T1.setTop (mkF m 15 #[.val (.ref s_HEURISTICALLY_COMMITTED), .val (.ref s_Outcome_ABORTED), .unset, .unset] [(.ref s_HEURISTICALLY_COMMITTED)])) _
    refine st2 _ ?_
    show Steps p.tables e below (T2.setTop (mkF m 18 #[.val (.ref s_HEURISTICALLY_COMMITTED), .val (.ref s_Outcome_ABORTED), .unset, .unset] [(.ref s_HEURISTICALLY_COMMITTED), (.ref s_HEURISTICALLY_COMMITTED)])) _
    refine Jvm.RoadKit.acmp (g := (mkF m 18 #[.val (.ref s_HEURISTICALLY_COMMITTED), .val (.ref s_Outcome_ABORTED), .unset, .unset] [(.ref s_HEURISTICALLY_COMMITTED), (.ref s_HEURISTICALLY_COMMITTED)])) X2 hx rfl rfl rfl (pc0 := 18) (pc' := 21) (same := true) rfl (hb hby d4_18) rfl (decide_eq_true rfl) (by decide) (by decide) ?_
    show Steps p.tables e below (T2.setTop (mkF m 21 #[.val (.ref s_HEURISTICALLY_COMMITTED), .val (.ref s_Outcome_ABORTED), .unset, .unset] [])) _
    refine XS.aloadN X2.here hx rfl (hb hby d4_21) rfl rfl ?_
    show Steps p.tables e below (T2.setTop (mkF m 22 #[.val (.ref s_HEURISTICALLY_COMMITTED), .val (.ref s_Outcome_ABORTED), .unset, .unset] [(.ref s_Outcome_ABORTED)])) _
    refine st3 _ ?_
    show Steps p.tables e below (T3.setTop (mkF m 25 #[.val (.ref s_HEURISTICALLY_COMMITTED), .val (.ref s_Outcome_ABORTED), .unset, .unset] [(.ref s_Outcome_ABORTED), (.ref s_Outcome_ABORTED)])) _
    refine Jvm.RoadKit.acmp (g := (mkF m 25 #[.val (.ref s_HEURISTICALLY_COMMITTED), .val (.ref s_Outcome_ABORTED), .unset, .unset] [(.ref s_Outcome_ABORTED), (.ref s_Outcome_ABORTED)])) X3 hx rfl rfl rfl (pc0 := 25) (pc' := 28) (same := true) rfl (hb hby d4_25) rfl (decide_eq_true rfl) (by decide) (by decide) ?_
    show Steps p.tables e below (T3.setTop (mkF m 28 #[.val (.ref s_HEURISTICALLY_COMMITTED), .val (.ref s_Outcome_ABORTED), .unset, .unset] [])) _
    refine XS.iconst X3.here hx rfl (hb hby d4_28) ?_
    show Steps p.tables e below (T3.setTop (mkF m 29 #[.val (.ref s_HEURISTICALLY_COMMITTED), .val (.ref s_Outcome_ABORTED), .unset, .unset] [(.int (1 : Int32))])) _
    refine XS.goto X3.here hx rfl (pc0 := 29) (pc' := 33) rfl (hb hby d4_29) (by decide) (by decide) ?_
    show Steps p.tables e below (T3.setTop (mkF m 33 #[.val (.ref s_HEURISTICALLY_COMMITTED), .val (.ref s_Outcome_ABORTED), .unset, .unset] [(.int (1 : Int32))])) _
    refine XS.istoreN X3.here hx rfl (hb hby d4_33) rfl (l' := #[.val (.ref s_HEURISTICALLY_COMMITTED), .val (.ref s_Outcome_ABORTED), .val (.int (1 : Int32)), .unset]) rfl ?_
    show Steps p.tables e below (T3.setTop (mkF m 34 #[.val (.ref s_HEURISTICALLY_COMMITTED), .val (.ref s_Outcome_ABORTED), .val (.int (1 : Int32)), .unset] [])) _
    refine XS.iloadN X3.here hx rfl (hb hby d4_34) rfl ?_
    show Steps p.tables e below (T3.setTop (mkF m 35 #[.val (.ref s_HEURISTICALLY_COMMITTED), .val (.ref s_Outcome_ABORTED), .val (.int (1 : Int32)), .unset] [(.int (1 : Int32))])) _
    refine XS.ifNo X3.here hx rfl (hb hby d4_35) rfl ((if0 _ _).trans (feq (by decide : ¬ ((1 : Int32) = (0 : Int32)))).1) ?_
    show Steps p.tables e below (T3.setTop (mkF m 38 #[.val (.ref s_HEURISTICALLY_COMMITTED), .val (.ref s_Outcome_ABORTED), .val (.int (1 : Int32)), .unset] [])) _
    refine XS.aloadN X3.here hx rfl (hb hby d4_38) rfl rfl ?_
    show Steps p.tables e below (T3.setTop (mkF m 39 #[.val (.ref s_HEURISTICALLY_COMMITTED), .val (.ref s_Outcome_ABORTED), .val (.int (1 : Int32)), .unset] [(.ref s_Outcome_ABORTED)])) _
    refine st4 _ ?_
    show Steps p.tables e below (T4.setTop (mkF m 42 #[.val (.ref s_HEURISTICALLY_COMMITTED), .val (.ref s_Outcome_ABORTED), .val (.int (1 : Int32)), .unset] [(.ref s_Outcome_COMMITTED), (.ref s_Outcome_ABORTED)])) _
    refine Jvm.RoadKit.acmp (g := (mkF m 42 #[.val (.ref s_HEURISTICALLY_COMMITTED), .val (.ref s_Outcome_ABORTED), .val (.int (1 : Int32)), .unset] [(.ref s_Outcome_COMMITTED), (.ref s_Outcome_ABORTED)])) X4 hx rfl rfl rfl (pc0 := 42) (pc' := 52) (same := false) rfl (hb hby d4_42) rfl (decide_eq_false fun q => (Fld.ne O_Outcome_ABORTED O_Outcome_COMMITTED (fun q => absurd (Value.int.inj q) (by decide))) (Value.ref.inj q)) (by decide) (by decide) ?_
    show Steps p.tables e below (T4.setTop (mkF m 52 #[.val (.ref s_HEURISTICALLY_COMMITTED), .val (.ref s_Outcome_ABORTED), .val (.int (1 : Int32)), .unset] [])) _
    refine XS.iloadN X4.here hx rfl (hb hby d4_52) rfl ?_
    show Steps p.tables e below (T4.setTop (mkF m 53 #[.val (.ref s_HEURISTICALLY_COMMITTED), .val (.ref s_Outcome_ABORTED), .val (.int (1 : Int32)), .unset] [(.int (1 : Int32))])) _
    refine XS.ifNo X4.here hx rfl (hb hby d4_53) rfl ((if0 _ _).trans (feq (by decide : ¬ ((1 : Int32) = (0 : Int32)))).1) ?_
    show Steps p.tables e below (T4.setTop (mkF m 56 #[.val (.ref s_HEURISTICALLY_COMMITTED), .val (.ref s_Outcome_ABORTED), .val (.int (1 : Int32)), .unset] [])) _
    refine st5 _ ?_
    show Steps p.tables e below (T5.setTop (mkF m 59 #[.val (.ref s_HEURISTICALLY_COMMITTED), .val (.ref s_Outcome_ABORTED), .val (.int (1 : Int32)), .unset] [(.ref s_ABORTED_AGAINST_HEURISTIC)])) _
    refine XS.astoreN X5.here hx rfl (hb hby d4_59) rfl rfl (l' := #[.val (.ref s_HEURISTICALLY_COMMITTED), .val (.ref s_Outcome_ABORTED), .val (.int (1 : Int32)), .val (.ref s_ABORTED_AGAINST_HEURISTIC)]) rfl ?_
    show Steps p.tables e below (T5.setTop (mkF m 60 #[.val (.ref s_HEURISTICALLY_COMMITTED), .val (.ref s_Outcome_ABORTED), .val (.int (1 : Int32)), .val (.ref s_ABORTED_AGAINST_HEURISTIC)] [])) _
    refine XS.goto X5.here hx rfl (pc0 := 60) (pc' := 68) rfl (hb hby d4_60) (by decide) (by decide) ?_
    show Steps p.tables e below (T5.setTop (mkF m 68 #[.val (.ref s_HEURISTICALLY_COMMITTED), .val (.ref s_Outcome_ABORTED), .val (.int (1 : Int32)), .val (.ref s_ABORTED_AGAINST_HEURISTIC)] [])) _
    refine XS.aloadN X5.here hx rfl (hb hby d4_68) rfl rfl ?_
    show Steps p.tables e below (T5.setTop (mkF m 69 #[.val (.ref s_HEURISTICALLY_COMMITTED), .val (.ref s_Outcome_ABORTED), .val (.int (1 : Int32)), .val (.ref s_ABORTED_AGAINST_HEURISTIC)] [(.ref s_ABORTED_AGAINST_HEURISTIC)])) _
    exact retOut X5 hx Bd.returns rfl (Or.inr (Or.inr (Or.inr (Or.inr ⟨rfl, rfl, rfl⟩)))) (hb hby d4_69) hr
  · show own_Q (some (.ref s_ABORTED_AGAINST_HEURISTIC)) h0 n0 _ T5.heap _
    rw [e5]
    exact ⟨rfl, N0, rfl⟩
theorem d4_7 : decode prog_7_method_6_code 7 = .ok (.aload_n 1, 1) := by decide +kernel
theorem d4_8 : decode prog_7_method_6_code 8 = .ok (.getstatic 73, 3) := by decide +kernel
theorem d4_11 : decode prog_7_method_6_code 11 = .ok (.if_acmp .eq 17, 3) := by decide +kernel
theorem d4_45 : decode prog_7_method_6_code 45 = .ok (.getstatic 28, 3) := by decide +kernel
theorem d4_48 : decode prog_7_method_6_code 48 = .ok (.astore_n 3, 1) := by decide +kernel
theorem d4_49 : decode prog_7_method_6_code 49 = .ok (.goto 19, 3) := by decide +kernel
set_option maxRecDepth 65536 in
set_option maxHeartbeats 40000000 in
theorem r_after_4_Outcome_COMMITTED (l : Launch) (Z : State) (a0 : Array Value) (hw : ∀ d ∈ tables_1, d.before a0 Z = true) (ws : List Jvm.Cond) (s_PREPARED s_IN_DOUBT s_Outcome_COMMITTED s_HEURISTICALLY_ABORTED s_HEURISTICALLY_COMMITTED s_Joined_State_COMMITTED s_HEURISTIC_ABORT s_HEURISTIC_COMMIT s_COMMITTED_AGAINST_HEURISTIC s_HEURISTIC_MISMATCH s_COMMITTED_IN_ONE_PHASE s_TxnStatus_COMMITTED s_ABORTED_AGAINST_HEURISTIC s_Outcome_ABORTED s_PRE_ABORTED s_PRE_COMMITTED s_Joined_State_ABORTED s_TxnStatus_ABORTED : Addr) (h0 : Heap) (n0 : Nat) (Z0 : n0 ≤ h0.size) (G : own_Ctx Z h0 s_PREPARED s_IN_DOUBT s_Outcome_COMMITTED s_HEURISTICALLY_ABORTED s_HEURISTICALLY_COMMITTED s_Joined_State_COMMITTED s_HEURISTIC_ABORT s_HEURISTIC_COMMIT s_COMMITTED_AGAINST_HEURISTIC s_HEURISTIC_MISMATCH s_COMMITTED_IN_ONE_PHASE s_TxnStatus_COMMITTED s_ABORTED_AGAINST_HEURISTIC s_Outcome_ABORTED s_PRE_ABORTED s_PRE_COMMITTED s_Joined_State_ABORTED s_TxnStatus_ABORTED)   :
    MetFree l (⟨"com/example/unanimity/unanimity/core/Joined$State", "after", "(Lcom/example/unanimity/unanimity/core/Outcome;)Lcom/example/unanimity/unanimity/core/Joined$State;"⟩ : MethodName) (head1 (Jvm.Cond.code (⟨"com/example/unanimity/unanimity/core/Joined$State", "after", "(Lcom/example/unanimity/unanimity/core/Outcome;)Lcom/example/unanimity/unanimity/core/Joined$State;"⟩ : MethodName) prog_7_method_6_code 4 (some (.object "com/example/unanimity/unanimity/core/Joined$State")) :: ws) ({ frames := 0, cells := 0, slots := 0, locals := 0 } : Room)) (fun a U => a = #[(.ref s_HEURISTICALLY_ABORTED), (.ref s_Outcome_COMMITTED)] ∧ Z.Warmed39 U.vm ∧ U.heap = h0) (fun _ _ _ _ _ => True) (fun _ U o U' => ∃ v L, o = .returned v ∧ own_Q (some (.ref s_COMMITTED_AGAINST_HEURISTIC)) h0 n0 v U'.heap L ∧ FrameEnd U o U' L ({ frames := 0, cells := 0, slots := 0, locals := 0 } : Room).cells ({ frames := 0, cells := 0, slots := 0, locals := 0 } : Room).slots) := by
  have G0 := G
  obtain ⟨S_PREPARED, E_PREPARED, O_PREPARED, S_IN_DOUBT, E_IN_DOUBT, O_IN_DOUBT, S_Outcome_COMMITTED, E_Outcome_COMMITTED, O_Outcome_COMMITTED, S_HEURISTICALLY_ABORTED, E_HEURISTICALLY_ABORTED, O_HEURISTICALLY_ABORTED, S_HEURISTICALLY_COMMITTED, E_HEURISTICALLY_COMMITTED, O_HEURISTICALLY_COMMITTED, S_Joined_State_COMMITTED, E_Joined_State_COMMITTED, S_HEURISTIC_ABORT, E_HEURISTIC_ABORT, O_HEURISTIC_ABORT, S_HEURISTIC_COMMIT, E_HEURISTIC_COMMIT, O_HEURISTIC_COMMIT, S_COMMITTED_AGAINST_HEURISTIC, E_COMMITTED_AGAINST_HEURISTIC, S_HEURISTIC_MISMATCH, E_HEURISTIC_MISMATCH, O_HEURISTIC_MISMATCH, S_COMMITTED_IN_ONE_PHASE, E_COMMITTED_IN_ONE_PHASE, S_TxnStatus_COMMITTED, E_TxnStatus_COMMITTED, O_TxnStatus_COMMITTED, S_ABORTED_AGAINST_HEURISTIC, E_ABORTED_AGAINST_HEURISTIC, S_Outcome_ABORTED, E_Outcome_ABORTED, O_Outcome_ABORTED, S_PRE_ABORTED, E_PRE_ABORTED, O_PRE_ABORTED, S_PRE_COMMITTED, E_PRE_COMMITTED, O_PRE_COMMITTED, S_Joined_State_ABORTED, E_Joined_State_ABORTED, S_TxnStatus_ABORTED, E_TxnStatus_ABORTED, O_TxnStatus_ABORTED, F_decision_PREPARED, F_status_PREPARED, F_decision_Joined_State_COMMITTED, F_decision_HEURISTICALLY_ABORTED, F_status_HEURISTICALLY_ABORTED, F_decision_COMMITTED_AGAINST_HEURISTIC, F_status_COMMITTED_AGAINST_HEURISTIC, F_decision_COMMITTED_IN_ONE_PHASE, F_status_COMMITTED_IN_ONE_PHASE, F_decision_ABORTED_AGAINST_HEURISTIC, F_status_ABORTED_AGAINST_HEURISTIC, F_decision_PRE_ABORTED, F_status_PRE_ABORTED, F_decision_HEURISTICALLY_COMMITTED, F_status_HEURISTICALLY_COMMITTED, F_decision_PRE_COMMITTED, F_status_PRE_COMMITTED, F_decision_Joined_State_ABORTED, F_status_Joined_State_COMMITTED, F_status_Joined_State_ABORTED⟩ := G
  refine MetFree.of_bodySF (plainFor_of_name pn_0) hisR ?_
  intro p e s m args below meth c s₁ Bd hml0 hP hK
  obtain ⟨rfl, hZ, hh⟩ := hP
  have hx := Bd.exec
  have hby := Bd.bytes
  have hml : c.maxLocals = 4 := hml0
  have hown : s.vm.findClass "com/example/unanimity/unanimity/core/Joined$State" = some m.cls := findClass_of_methodNamed Bd.named
  have hnm := (name_of_methodNamed Bd.named Bd.method).1
  have X0 : Stand p l e ({ frames := 0, cells := 0, slots := 0, locals := 0 } : Room) s m #[(.ref s_HEURISTICALLY_ABORTED), (.ref s_Outcome_COMMITTED)] below meth c s₁ [] 0 0 := Stand.of_body Bd
  have e0 : s₁.heap = h0 := by rw [← hh, Bd.state]; rfl
  have N0 := Fr.nil n0
  have pre0 : ∀ t, Steps p.tables e below (s₁.setTop (mkF m 0 #[.val (.ref s_HEURISTICALLY_ABORTED), .val (.ref s_Outcome_COMMITTED), .unset, .unset] [])) t → Steps p.tables e below (s₁.setTop (entryFrame m #[(.ref s_HEURISTICALLY_ABORTED), (.ref s_Outcome_COMMITTED)] 4)) t := fun t k => castTop (ef_4_3 m s_HEURISTICALLY_ABORTED s_Outcome_COMMITTED) k
  obtain ⟨T1, X1, e1, st1⟩ := getS2 X0 hx hZ hown (host := "") (Or.inl (hw _ (List.mem_of_getElem? (i := 33) rfl))) Via.refl e0 S_HEURISTICALLY_ABORTED (g := (mkF m 1 #[.val (.ref s_HEURISTICALLY_ABORTED), .val (.ref s_Outcome_COMMITTED), .unset, .unset] [(.ref s_HEURISTICALLY_ABORTED)])) rfl (hb hby d4_1)
  obtain ⟨T2, X2, e2, st2⟩ := getS2 X1 hx hZ hown (host := "") (Or.inl (hw _ (List.mem_of_getElem? (i := 40) rfl))) Via.refl e1 S_Outcome_COMMITTED (g := (mkF m 8 #[.val (.ref s_HEURISTICALLY_ABORTED), .val (.ref s_Outcome_COMMITTED), .unset, .unset] [(.ref s_Outcome_COMMITTED)])) rfl (hb hby d4_8)
  obtain ⟨T3, X3, e3, st3⟩ := getS2 X2 hx hZ hown (host := "") (Or.inl (hw _ (List.mem_of_getElem? (i := 40) rfl))) Via.refl e2 S_Outcome_COMMITTED (g := (mkF m 39 #[.val (.ref s_HEURISTICALLY_ABORTED), .val (.ref s_Outcome_COMMITTED), .val (.int (1 : Int32)), .unset] [(.ref s_Outcome_COMMITTED)])) rfl (hb hby d4_39)
  obtain ⟨T4, X4, e4, st4⟩ := getS2 X3 hx hZ hown (host := "") (Or.inl (hw _ (List.mem_of_getElem? (i := 49) rfl))) Via.refl e3 S_COMMITTED_AGAINST_HEURISTIC (g := (mkF m 45 #[.val (.ref s_HEURISTICALLY_ABORTED), .val (.ref s_Outcome_COMMITTED), .val (.int (1 : Int32)), .unset] [])) rfl (hb hby d4_45)
  obtain ⟨fs, hr, hrun, hended, hW, hsame⟩ := X4.leave (v := some (.ref s_COMMITTED_AGAINST_HEURISTIC)) (fun h => by rw [Bd.returns] at h; cases h)
  refine ⟨_, _, pre0 _ ?_, hrun, hended, _, _, rfl, ?_, ⟨_, rfl⟩, hW, hsame.mono (by decide) (by decide)⟩
  · show Steps p.tables e below (s₁.setTop (mkF m 0 #[.val (.ref s_HEURISTICALLY_ABORTED), .val (.ref s_Outcome_COMMITTED), .unset, .unset] [])) _
    refine XS.aloadN X0.here hx rfl (hb hby d4_0) rfl rfl ?_
    show Steps p.tables e below (s₁.setTop (mkF m 1 #[.val (.ref s_HEURISTICALLY_ABORTED), .val (.ref s_Outcome_COMMITTED), .unset, .unset] [(.ref s_HEURISTICALLY_ABORTED)])) _
    refine st1 _ ?_
    show Steps p.tables e below (T1.setTop (mkF m 4 #[.val (.ref s_HEURISTICALLY_ABORTED), .val (.ref s_Outcome_COMMITTED), .unset, .unset] [(.ref s_HEURISTICALLY_ABORTED), (.ref s_HEURISTICALLY_ABORTED)])) _
    refine Jvm.RoadKit.acmp (g := (mkF m 4 #[.val (.ref s_HEURISTICALLY_ABORTED), .val (.ref s_Outcome_COMMITTED), .unset, .unset] [(.ref s_HEURISTICALLY_ABORTED), (.ref s_HEURISTICALLY_ABORTED)])) X1 hx rfl rfl rfl (pc0 := 4) (pc' := 7) (same := true) rfl (hb hby d4_4) rfl (decide_eq_true rfl) (by decide) (by decide) ?_
    show Steps p.tables e below (T1.setTop (mkF m 7 #[.val (.ref s_HEURISTICALLY_ABORTED), .val (.ref s_Outcome_COMMITTED), .unset, .unset] [])) _
    refine XS.aloadN X1.here hx rfl (hb hby d4_7) rfl rfl ?_
    show Steps p.tables e below (T1.setTop (mkF m 8 #[.val (.ref s_HEURISTICALLY_ABORTED), .val (.ref s_Outcome_COMMITTED), .unset, .unset] [(.ref s_Outcome_COMMITTED)])) _
    refine st2 _ ?_
    show Steps p.tables e below (T2.setTop (mkF m 11 #[.val (.ref s_HEURISTICALLY_ABORTED), .val (.ref s_Outcome_COMMITTED), .unset, .unset] [(.ref s_Outcome_COMMITTED), (.ref s_Outcome_COMMITTED)])) _
    refine Jvm.RoadKit.acmp (g := (mkF m 11 #[.val (.ref s_HEURISTICALLY_ABORTED), .val (.ref s_Outcome_COMMITTED), .unset, .unset] [(.ref s_Outcome_COMMITTED), (.ref s_Outcome_COMMITTED)])) X2 hx rfl rfl rfl (pc0 := 11) (pc' := 28) (same := true) rfl (hb hby d4_11) rfl (decide_eq_true rfl) (by decide) (by decide) ?_
    show Steps p.tables e below (T2.setTop (mkF m 28 #[.val (.ref s_HEURISTICALLY_ABORTED), .val (.ref s_Outcome_COMMITTED), .unset, .unset] [])) _
    refine XS.iconst X2.here hx rfl (hb hby d4_28) ?_
    show Steps p.tables e below (T2.setTop (mkF m 29 #[.val (.ref s_HEURISTICALLY_ABORTED), .val (.ref s_Outcome_COMMITTED), .unset, .unset] [(.int (1 : Int32))])) _
    refine XS.goto X2.here hx rfl (pc0 := 29) (pc' := 33) rfl (hb hby d4_29) (by decide) (by decide) ?_
    show Steps p.tables e below (T2.setTop (mkF m 33 #[.val (.ref s_HEURISTICALLY_ABORTED), .val (.ref s_Outcome_COMMITTED), .unset, .unset] [(.int (1 : Int32))])) _
    refine XS.istoreN X2.here hx rfl (hb hby d4_33) rfl (l' := #[.val (.ref s_HEURISTICALLY_ABORTED), .val (.ref s_Outcome_COMMITTED), .val (.int (1 : Int32)), .unset]) rfl ?_
    show Steps p.tables e below (T2.setTop (mkF m 34 #[.val (.ref s_HEURISTICALLY_ABORTED), .val (.ref s_Outcome_COMMITTED), .val (.int (1 : Int32)), .unset] [])) _
    refine XS.iloadN X2.here hx rfl (hb hby d4_34) rfl ?_
    show Steps p.tables e below (T2.setTop (mkF m 35 #[.val (.ref s_HEURISTICALLY_ABORTED), .val (.ref s_Outcome_COMMITTED), .val (.int (1 : Int32)), .unset] [(.int (1 : Int32))])) _
    refine XS.ifNo X2.here hx rfl (hb hby d4_35) rfl ((if0 _ _).trans (feq (by decide : ¬ ((1 : Int32) = (0 : Int32)))).1) ?_
    show Steps p.tables e below (T2.setTop (mkF m 38 #[.val (.ref s_HEURISTICALLY_ABORTED), .val (.ref s_Outcome_COMMITTED), .val (.int (1 : Int32)), .unset] [])) _
    refine XS.aloadN X2.here hx rfl (hb hby d4_38) rfl rfl ?_
    show Steps p.tables e below (T2.setTop (mkF m 39 #[.val (.ref s_HEURISTICALLY_ABORTED), .val (.ref s_Outcome_COMMITTED), .val (.int (1 : Int32)), .unset] [(.ref s_Outcome_COMMITTED)])) _
    refine st3 _ ?_
    show Steps p.tables e below (T3.setTop (mkF m 42 #[.val (.ref s_HEURISTICALLY_ABORTED), .val (.ref s_Outcome_COMMITTED), .val (.int (1 : Int32)), .unset] [(.ref s_Outcome_COMMITTED), (.ref s_Outcome_COMMITTED)])) _
    refine Jvm.RoadKit.acmp (g := (mkF m 42 #[.val (.ref s_HEURISTICALLY_ABORTED), .val (.ref s_Outcome_COMMITTED), .val (.int (1 : Int32)), .unset] [(.ref s_Outcome_COMMITTED), (.ref s_Outcome_COMMITTED)])) X3 hx rfl rfl rfl (pc0 := 42) (pc' := 45) (same := true) rfl (hb hby d4_42) rfl (decide_eq_true rfl) (by decide) (by decide) ?_
    show Steps p.tables e below (T3.setTop (mkF m 45 #[.val (.ref s_HEURISTICALLY_ABORTED), .val (.ref s_Outcome_COMMITTED), .val (.int (1 : Int32)), .unset] [])) _
    refine st4 _ ?_
    show Steps p.tables e below (T4.setTop (mkF m 48 #[.val (.ref s_HEURISTICALLY_ABORTED), .val (.ref s_Outcome_COMMITTED), .val (.int (1 : Int32)), .unset] [(.ref s_COMMITTED_AGAINST_HEURISTIC)])) _
    refine XS.astoreN X4.here hx rfl (hb hby d4_48) rfl rfl (l' := #[.val (.ref s_HEURISTICALLY_ABORTED), .val (.ref s_Outcome_COMMITTED), .val (.int (1 : Int32)), .val (.ref s_COMMITTED_AGAINST_HEURISTIC)]) rfl ?_
    show Steps p.tables e below (T4.setTop (mkF m 49 #[.val (.ref s_HEURISTICALLY_ABORTED), .val (.ref s_Outcome_COMMITTED), .val (.int (1 : Int32)), .val (.ref s_COMMITTED_AGAINST_HEURISTIC)] [])) _
    refine XS.goto X4.here hx rfl (pc0 := 49) (pc' := 68) rfl (hb hby d4_49) (by decide) (by decide) ?_
    show Steps p.tables e below (T4.setTop (mkF m 68 #[.val (.ref s_HEURISTICALLY_ABORTED), .val (.ref s_Outcome_COMMITTED), .val (.int (1 : Int32)), .val (.ref s_COMMITTED_AGAINST_HEURISTIC)] [])) _
    refine XS.aloadN X4.here hx rfl (hb hby d4_68) rfl rfl ?_
    show Steps p.tables e below (T4.setTop (mkF m 69 #[.val (.ref s_HEURISTICALLY_ABORTED), .val (.ref s_Outcome_COMMITTED), .val (.int (1 : Int32)), .val (.ref s_COMMITTED_AGAINST_HEURISTIC)] [(.ref s_COMMITTED_AGAINST_HEURISTIC)])) _
    exact retOut X4 hx Bd.returns rfl (Or.inr (Or.inr (Or.inr (Or.inr ⟨rfl, rfl, rfl⟩)))) (hb hby d4_69) hr
  · show own_Q (some (.ref s_COMMITTED_AGAINST_HEURISTIC)) h0 n0 _ T4.heap _
    rw [e4]
    exact ⟨rfl, N0, rfl⟩
set_option maxRecDepth 65536 in
set_option maxHeartbeats 40000000 in
theorem r_after_4_Outcome_ABORTED (l : Launch) (Z : State) (a0 : Array Value) (hw : ∀ d ∈ tables_1, d.before a0 Z = true) (ws : List Jvm.Cond) (s_PREPARED s_IN_DOUBT s_Outcome_COMMITTED s_HEURISTICALLY_ABORTED s_HEURISTICALLY_COMMITTED s_Joined_State_COMMITTED s_HEURISTIC_ABORT s_HEURISTIC_COMMIT s_COMMITTED_AGAINST_HEURISTIC s_HEURISTIC_MISMATCH s_COMMITTED_IN_ONE_PHASE s_TxnStatus_COMMITTED s_ABORTED_AGAINST_HEURISTIC s_Outcome_ABORTED s_PRE_ABORTED s_PRE_COMMITTED s_Joined_State_ABORTED s_TxnStatus_ABORTED : Addr) (h0 : Heap) (n0 : Nat) (Z0 : n0 ≤ h0.size) (G : own_Ctx Z h0 s_PREPARED s_IN_DOUBT s_Outcome_COMMITTED s_HEURISTICALLY_ABORTED s_HEURISTICALLY_COMMITTED s_Joined_State_COMMITTED s_HEURISTIC_ABORT s_HEURISTIC_COMMIT s_COMMITTED_AGAINST_HEURISTIC s_HEURISTIC_MISMATCH s_COMMITTED_IN_ONE_PHASE s_TxnStatus_COMMITTED s_ABORTED_AGAINST_HEURISTIC s_Outcome_ABORTED s_PRE_ABORTED s_PRE_COMMITTED s_Joined_State_ABORTED s_TxnStatus_ABORTED)   :
    MetFree l (⟨"com/example/unanimity/unanimity/core/Joined$State", "after", "(Lcom/example/unanimity/unanimity/core/Outcome;)Lcom/example/unanimity/unanimity/core/Joined$State;"⟩ : MethodName) (head1 (Jvm.Cond.code (⟨"com/example/unanimity/unanimity/core/Joined$State", "after", "(Lcom/example/unanimity/unanimity/core/Outcome;)Lcom/example/unanimity/unanimity/core/Joined$State;"⟩ : MethodName) prog_7_method_6_code 4 (some (.object "com/example/unanimity/unanimity/core/Joined$State")) :: ws) ({ frames := 1, cells := 0, slots := 0, locals := 12 } : Room)) (fun a U => a = #[(.ref s_HEURISTICALLY_ABORTED), (.ref s_Outcome_ABORTED)] ∧ Z.Warmed39 U.vm ∧ U.heap = h0) (fun _ _ _ _ _ => True) (fun _ U o U' => ∃ v L, o = .returned v ∧ own_Q (some (.ref s_Joined_State_ABORTED)) h0 n0 v U'.heap L ∧ FrameEnd U o U' L ({ frames := 1, cells := 0, slots := 0, locals := 12 } : Room).cells ({ frames := 1, cells := 0, slots := 0, locals := 12 } : Room).slots) := by
  have G0 := G
  obtain ⟨S_PREPARED, E_PREPARED, O_PREPARED, S_IN_DOUBT, E_IN_DOUBT, O_IN_DOUBT, S_Outcome_COMMITTED, E_Outcome_COMMITTED, O_Outcome_COMMITTED, S_HEURISTICALLY_ABORTED, E_HEURISTICALLY_ABORTED, O_HEURISTICALLY_ABORTED, S_HEURISTICALLY_COMMITTED, E_HEURISTICALLY_COMMITTED, O_HEURISTICALLY_COMMITTED, S_Joined_State_COMMITTED, E_Joined_State_COMMITTED, S_HEURISTIC_ABORT, E_HEURISTIC_ABORT, O_HEURISTIC_ABORT, S_HEURISTIC_COMMIT, E_HEURISTIC_COMMIT, O_HEURISTIC_COMMIT, S_COMMITTED_AGAINST_HEURISTIC, E_COMMITTED_AGAINST_HEURISTIC, S_HEURISTIC_MISMATCH, E_HEURISTIC_MISMATCH, O_HEURISTIC_MISMATCH, S_COMMITTED_IN_ONE_PHASE, E_COMMITTED_IN_ONE_PHASE, S_TxnStatus_COMMITTED, E_TxnStatus_COMMITTED, O_TxnStatus_COMMITTED, S_ABORTED_AGAINST_HEURISTIC, E_ABORTED_AGAINST_HEURISTIC, S_Outcome_ABORTED, E_Outcome_ABORTED, O_Outcome_ABORTED, S_PRE_ABORTED, E_PRE_ABORTED, O_PRE_ABORTED, S_PRE_COMMITTED, E_PRE_COMMITTED, O_PRE_COMMITTED, S_Joined_State_ABORTED, E_Joined_State_ABORTED, S_TxnStatus_ABORTED, E_TxnStatus_ABORTED, O_TxnStatus_ABORTED, F_decision_PREPARED, F_status_PREPARED, F_decision_Joined_State_COMMITTED, F_decision_HEURISTICALLY_ABORTED, F_status_HEURISTICALLY_ABORTED, F_decision_COMMITTED_AGAINST_HEURISTIC, F_status_COMMITTED_AGAINST_HEURISTIC, F_decision_COMMITTED_IN_ONE_PHASE, F_status_COMMITTED_IN_ONE_PHASE, F_decision_ABORTED_AGAINST_HEURISTIC, F_status_ABORTED_AGAINST_HEURISTIC, F_decision_PRE_ABORTED, F_status_PRE_ABORTED, F_decision_HEURISTICALLY_COMMITTED, F_status_HEURISTICALLY_COMMITTED, F_decision_PRE_COMMITTED, F_status_PRE_COMMITTED, F_decision_Joined_State_ABORTED, F_status_Joined_State_COMMITTED, F_status_Joined_State_ABORTED⟩ := G
  refine MetFree.of_bodySF (plainFor_of_name pn_0) hisR ?_
  intro p e s m args below meth c s₁ Bd hml0 hP hK
  obtain ⟨rfl, hZ, hh⟩ := hP
  have hx := Bd.exec
  have hby := Bd.bytes
  have hml : c.maxLocals = 4 := hml0
  have hown : s.vm.findClass "com/example/unanimity/unanimity/core/Joined$State" = some m.cls := findClass_of_methodNamed Bd.named
  have hnm := (name_of_methodNamed Bd.named Bd.method).1
  have X0 : Stand p l e ({ frames := 1, cells := 0, slots := 0, locals := 12 } : Room) s m #[(.ref s_HEURISTICALLY_ABORTED), (.ref s_Outcome_ABORTED)] below meth c s₁ [] 0 0 := Stand.of_body Bd
  have e0 : s₁.heap = h0 := by rw [← hh, Bd.state]; rfl
  have N0 := Fr.nil n0
  have pre0 : ∀ t, Steps p.tables e below (s₁.setTop (mkF m 0 #[.val (.ref s_HEURISTICALLY_ABORTED), .val (.ref s_Outcome_ABORTED), .unset, .unset] [])) t → Steps p.tables e below (s₁.setTop (entryFrame m #[(.ref s_HEURISTICALLY_ABORTED), (.ref s_Outcome_ABORTED)] 4)) t := fun t k => castTop (ef_4_3 m s_HEURISTICALLY_ABORTED s_Outcome_ABORTED) k
  obtain ⟨T1, X1, e1, st1⟩ := getS2 X0 hx hZ hown (host := "") (Or.inl (hw _ (List.mem_of_getElem? (i := 33) rfl))) Via.refl e0 S_HEURISTICALLY_ABORTED (g := (mkF m 1 #[.val (.ref s_HEURISTICALLY_ABORTED), .val (.ref s_Outcome_ABORTED), .unset, .unset] [(.ref s_HEURISTICALLY_ABORTED)])) rfl (hb hby d4_1)
  obtain ⟨T2, X2, e2, st2⟩ := getS2 X1 hx hZ hown (host := "") (Or.inl (hw _ (List.mem_of_getElem? (i := 40) rfl))) Via.refl e1 S_Outcome_COMMITTED (g := (mkF m 8 #[.val (.ref s_HEURISTICALLY_ABORTED), .val (.ref s_Outcome_ABORTED), .unset, .unset] [(.ref s_Outcome_ABORTED)])) rfl (hb hby d4_8)
  obtain ⟨T3, X3, e3, st3⟩ := getS2 X2 hx hZ hown (host := "") (Or.inl (hw _ (List.mem_of_getElem? (i := 35) rfl))) Via.refl e2 S_HEURISTICALLY_COMMITTED (g := (mkF m 15 #[.val (.ref s_HEURISTICALLY_ABORTED), .val (.ref s_Outcome_ABORTED), .unset, .unset] [(.ref s_HEURISTICALLY_ABORTED)])) rfl (hb hby d4_15)
  obtain ⟨_, _, ⟨T4, L4, k4, n4⟩, -, X4, ⟨Lc4, hQ4, l4, y4, z4⟩, st4⟩ := Jvm.LawKit.callS X3 hx (y := (⟨"com/example/unanimity/unanimity/core/Joined$State", "decided", "(Lcom/example/unanimity/unanimity/core/Outcome;)Lcom/example/unanimity/unanimity/core/Joined$State;"⟩ : MethodName)) hown (mvT hZ (hw _ (List.mem_of_getElem? (i := 37) rfl))) (mvT hZ (hw _ (List.mem_of_getElem? (i := 38) rfl))) (mvT hZ (hw _ (List.mem_of_getElem? (i := 6) rfl))) (mvT hZ (hw _ (List.mem_of_getElem? (i := 39) rfl))) (by decide) (backOf (W := 0) (r_dec_Outcome_ABORTED l Z a0 hw [] s_PREPARED s_IN_DOUBT s_Outcome_COMMITTED s_HEURISTICALLY_ABORTED s_HEURISTICALLY_COMMITTED s_Joined_State_COMMITTED s_HEURISTIC_ABORT s_HEURISTIC_COMMIT s_COMMITTED_AGAINST_HEURISTIC s_HEURISTIC_MISMATCH s_COMMITTED_IN_ONE_PHASE s_TxnStatus_COMMITTED s_ABORTED_AGAINST_HEURISTIC s_Outcome_ABORTED s_PRE_ABORTED s_PRE_COMMITTED s_Joined_State_ABORTED s_TxnStatus_ABORTED h0 n0 Z0 G0) hZ (hw _ (List.mem_of_getElem? (i := 39) rfl)) (hw _ (List.mem_of_getElem? (i := 6) rfl)) (by decide) (by decide)) (g := (mkF m 64 #[.val (.ref s_HEURISTICALLY_ABORTED), .val (.ref s_Outcome_ABORTED), .val (.int (0 : Int32)), .unset] [(.ref s_Outcome_ABORTED)])) rfl (by rw [hml]; rfl) (argsL := [(.ref s_Outcome_ABORTED)]) (rest := []) (lenOf pd_0 rfl) rfl (by show 2 * 0 + _ ≤ _; exact Nat.le_of_eq rfl) (hb hby d4_64) (fun _ _ => ⟨rfl, e3, (by decide : 0 + 0 ≤ _), (by decide : 0 + 0 ≤ _)⟩)
  dsimp only [Pt.U, Pt.locs, Pt.cells, Pt.slots] at X4 l4 y4 z4 st4 hQ4
  subst l4 y4 z4
  obtain ⟨rfl, N4q, e4⟩ := hQ4
  have N4 := Fr.app N0 N4q
  obtain ⟨fs, hr, hrun, hended, hW, hsame⟩ := X4.leave (v := some (.ref s_Joined_State_ABORTED)) (fun h => by rw [Bd.returns] at h; cases h)
  refine ⟨_, _, pre0 _ ?_, hrun, hended, _, _, rfl, ?_, ⟨_, rfl⟩, hW, hsame.mono (by decide) (by decide)⟩
  · show Steps p.tables e below (s₁.setTop (mkF m 0 #[.val (.ref s_HEURISTICALLY_ABORTED), .val (.ref s_Outcome_ABORTED), .unset, .unset] [])) _
    refine XS.aloadN X0.here hx rfl (hb hby d4_0) rfl rfl ?_
    show Steps p.tables e below (s₁.setTop (mkF m 1 #[.val (.ref s_HEURISTICALLY_ABORTED), .val (.ref s_Outcome_ABORTED), .unset, .unset] [(.ref s_HEURISTICALLY_ABORTED)])) _
    refine st1 _ ?_
    show Steps p.tables e below (T1.setTop (mkF m 4 #[.val (.ref s_HEURISTICALLY_ABORTED), .val (.ref s_Outcome_ABORTED), .unset, .unset] [(.ref s_HEURISTICALLY_ABORTED), (.ref s_HEURISTICALLY_ABORTED)])) _
    refine Jvm.RoadKit.acmp (g := (mkF m 4 #[.val (.ref s_HEURISTICALLY_ABORTED), .val (.ref s_Outcome_ABORTED), .unset, .unset] [(.ref s_HEURISTICALLY_ABORTED), (.ref s_HEURISTICALLY_ABORTED)])) X1 hx rfl rfl rfl (pc0 := 4) (pc' := 7) (same := true) rfl (hb hby d4_4) rfl (decide_eq_true rfl) (by decide) (by decide) ?_
    show Steps p.tables e below (T1.setTop (mkF m 7 #[.val (.ref s_HEURISTICALLY_ABORTED), .val (.ref s_Outcome_ABORTED), .unset, .unset] [])) _
    refine XS.aloadN X1.here hx rfl (hb hby d4_7) rfl rfl ?_
    show Steps p.tables e below (T1.setTop (mkF m 8 #[.val (.ref s_HEURISTICALLY_ABORTED), .val (.ref s_Outcome_ABORTED), .unset, .unset] [(.ref s_Outcome_ABORTED)])) _
    refine st2 _ ?_
    show Steps p.tables e below (T2.setTop (mkF m 11 #[.val (.ref s_HEURISTICALLY_ABORTED), .val (.ref s_Outcome_ABORTED), .unset, .unset] [(.ref s_Outcome_COMMITTED), (.ref s_Outcome_ABORTED)])) _
    refine Jvm.RoadKit.acmp (g := (mkF m 11 #[.val (.ref s_HEURISTICALLY_ABORTED), .val (.ref s_Outcome_ABORTED), .unset, .unset] [(.ref s_Outcome_COMMITTED), (.ref s_Outcome_ABORTED)])) X2 hx rfl rfl rfl (pc0 := 11) (pc' := 14) (same := false) rfl (hb hby d4_11) rfl (decide_eq_false fun q => (Fld.ne O_Outcome_ABORTED O_Outcome_COMMITTED (fun q => absurd (Value.int.inj q) (by decide))) (Value.ref.inj q)) (by decide) (by decide) ?_
    show Steps p.tables e below (T2.setTop (mkF m 14 #[.val (.ref s_HEURISTICALLY_ABORTED), .val (.ref s_Outcome_ABORTED), .unset, .unset] [])) _
    refine XS.aloadN X2.here hx rfl (hb hby d4_14) rfl rfl ?_
    show Steps p.tables e below (T2.setTop (mkF m 15 #[.val (.ref s_HEURISTICALLY_ABORTED), .val (.ref s_Outcome_ABORTED), .unset, .unset] [(.ref s_HEURISTICALLY_ABORTED)])) _
    refine st3 _ ?_
    show Steps p.tables e below (T3.setTop (mkF m 18 #[.val (.ref s_HEURISTICALLY_ABORTED), .val (.ref s_Outcome_ABORTED), .unset, .unset] [(.ref s_HEURISTICALLY_COMMITTED), (.ref s_HEURISTICALLY_ABORTED)])) _
    refine Jvm.RoadKit.acmp (g := (mkF m 18 #[.val (.ref s_HEURISTICALLY_ABORTED), .val (.ref s_Outcome_ABORTED), .unset, .unset] [(.ref s_HEURISTICALLY_COMMITTED), (.ref s_HEURISTICALLY_ABORTED)])) X3 hx rfl rfl rfl (pc0 := 18) (pc' := 32) (same := false) rfl (hb hby d4_18) rfl (decide_eq_false fun q => (Fld.ne O_HEURISTICALLY_ABORTED O_HEURISTICALLY_COMMITTED (fun q => absurd (Value.int.inj q) (by decide))) (Value.ref.inj q)) (by decide) (by decide) ?_
    show Steps p.tables e below (T3.setTop (mkF m 32 #[.val (.ref s_HEURISTICALLY_ABORTED), .val (.ref s_Outcome_ABORTED), .unset, .unset] [])) _
    refine XS.iconst X3.here hx rfl (hb hby d4_32) ?_
    show Steps p.tables e below (T3.setTop (mkF m 33 #[.val (.ref s_HEURISTICALLY_ABORTED), .val (.ref s_Outcome_ABORTED), .unset, .unset] [(.int (0 : Int32))])) _
    refine XS.istoreN X3.here hx rfl (hb hby d4_33) rfl (l' := #[.val (.ref s_HEURISTICALLY_ABORTED), .val (.ref s_Outcome_ABORTED), .val (.int (0 : Int32)), .unset]) rfl ?_
    show Steps p.tables e below (T3.setTop (mkF m 34 #[.val (.ref s_HEURISTICALLY_ABORTED), .val (.ref s_Outcome_ABORTED), .val (.int (0 : Int32)), .unset] [])) _
    refine XS.iloadN X3.here hx rfl (hb hby d4_34) rfl ?_
    show Steps p.tables e below (T3.setTop (mkF m 35 #[.val (.ref s_HEURISTICALLY_ABORTED), .val (.ref s_Outcome_ABORTED), .val (.int (0 : Int32)), .unset] [(.int (0 : Int32))])) _
    refine XS.ifYes X3.here hx rfl (pc0 := 35) (pc' := 52) rfl (hb hby d4_35) rfl ((if0 _ _).trans (teq (by decide : (0 : Int32) = (0 : Int32))).1) (by decide) (by decide) ?_
    show Steps p.tables e below (T3.setTop (mkF m 52 #[.val (.ref s_HEURISTICALLY_ABORTED), .val (.ref s_Outcome_ABORTED), .val (.int (0 : Int32)), .unset] [])) _
    refine XS.iloadN X3.here hx rfl (hb hby d4_52) rfl ?_
    show Steps p.tables e below (T3.setTop (mkF m 53 #[.val (.ref s_HEURISTICALLY_ABORTED), .val (.ref s_Outcome_ABORTED), .val (.int (0 : Int32)), .unset] [(.int (0 : Int32))])) _
    refine XS.ifYes X3.here hx rfl (pc0 := 53) (pc' := 63) rfl (hb hby d4_53) rfl ((if0 _ _).trans (teq (by decide : (0 : Int32) = (0 : Int32))).1) (by decide) (by decide) ?_
    show Steps p.tables e below (T3.setTop (mkF m 63 #[.val (.ref s_HEURISTICALLY_ABORTED), .val (.ref s_Outcome_ABORTED), .val (.int (0 : Int32)), .unset] [])) _
    refine XS.aloadN X3.here hx rfl (hb hby d4_63) rfl rfl ?_
    show Steps p.tables e below (T3.setTop (mkF m 64 #[.val (.ref s_HEURISTICALLY_ABORTED), .val (.ref s_Outcome_ABORTED), .val (.int (0 : Int32)), .unset] [(.ref s_Outcome_ABORTED)])) _
    refine st4 _ ?_
    show Steps p.tables e below (T4.setTop (mkF m 67 #[.val (.ref s_HEURISTICALLY_ABORTED), .val (.ref s_Outcome_ABORTED), .val (.int (0 : Int32)), .unset] [(.ref s_Joined_State_ABORTED)])) _
    refine XS.astoreN X4.here hx rfl (hb hby d4_67) rfl rfl (l' := #[.val (.ref s_HEURISTICALLY_ABORTED), .val (.ref s_Outcome_ABORTED), .val (.int (0 : Int32)), .val (.ref s_Joined_State_ABORTED)]) rfl ?_
    show Steps p.tables e below (T4.setTop (mkF m 68 #[.val (.ref s_HEURISTICALLY_ABORTED), .val (.ref s_Outcome_ABORTED), .val (.int (0 : Int32)), .val (.ref s_Joined_State_ABORTED)] [])) _
    refine XS.aloadN X4.here hx rfl (hb hby d4_68) rfl rfl ?_
    show Steps p.tables e below (T4.setTop (mkF m 69 #[.val (.ref s_HEURISTICALLY_ABORTED), .val (.ref s_Outcome_ABORTED), .val (.int (0 : Int32)), .val (.ref s_Joined_State_ABORTED)] [(.ref s_Joined_State_ABORTED)])) _
    exact retOut X4 hx Bd.returns rfl (Or.inr (Or.inr (Or.inr (Or.inr ⟨rfl, rfl, rfl⟩)))) (hb hby d4_69) hr
  · show own_Q (some (.ref s_Joined_State_ABORTED)) h0 n0 _ T4.heap _
    rw [e4]
    exact ⟨rfl, N4, rfl⟩
theorem d1_0 : decode method_2_code 0 = .ok (.iload_n 0, 1) := by decide +kernel
theorem d1_1 : decode method_2_code 1 = .ok (.ifCond .ne 7, 3) := by decide +kernel
theorem d1_4 : decode method_2_code 4 = .ok (.getstatic 7, 3) := by decide +kernel
theorem d1_7 : decode method_2_code 7 = .ok (.areturn, 1) := by decide +kernel
theorem ef_1_4 (m : MethodId) (x0 : Int32) : entryFrame m #[(.int x0)] 1 = mkF m 0 #[.val (.int x0)] [] := by first | (simp [entryFrame, mkF, argsToLocals, Value.category]; done) | rfl
theorem pn_1 : plainName "com/example/unanimity/unanimity/core/StateAwaitsDecisionPinLaw" = true := by first | (simp [plainName, overriddenIn]; done) | decide +kernel
set_option maxRecDepth 65536 in
set_option maxHeartbeats 40000000 in
theorem r_pick_0 (l : Launch) (Z : State) (a0 : Array Value) (hw : ∀ d ∈ tables_1, d.before a0 Z = true) (ws : List Jvm.Cond) (s_PREPARED s_IN_DOUBT s_Outcome_COMMITTED s_HEURISTICALLY_ABORTED s_HEURISTICALLY_COMMITTED s_Joined_State_COMMITTED s_HEURISTIC_ABORT s_HEURISTIC_COMMIT s_COMMITTED_AGAINST_HEURISTIC s_HEURISTIC_MISMATCH s_COMMITTED_IN_ONE_PHASE s_TxnStatus_COMMITTED s_ABORTED_AGAINST_HEURISTIC s_Outcome_ABORTED s_PRE_ABORTED s_PRE_COMMITTED s_Joined_State_ABORTED s_TxnStatus_ABORTED : Addr) (h0 : Heap) (n0 : Nat) (Z0 : n0 ≤ h0.size) (G : own_Ctx Z h0 s_PREPARED s_IN_DOUBT s_Outcome_COMMITTED s_HEURISTICALLY_ABORTED s_HEURISTICALLY_COMMITTED s_Joined_State_COMMITTED s_HEURISTIC_ABORT s_HEURISTIC_COMMIT s_COMMITTED_AGAINST_HEURISTIC s_HEURISTIC_MISMATCH s_COMMITTED_IN_ONE_PHASE s_TxnStatus_COMMITTED s_ABORTED_AGAINST_HEURISTIC s_Outcome_ABORTED s_PRE_ABORTED s_PRE_COMMITTED s_Joined_State_ABORTED s_TxnStatus_ABORTED)   :
    MetFree l (⟨"com/example/unanimity/unanimity/core/StateAwaitsDecisionPinLaw", "pick", "(I)Lcom/example/unanimity/unanimity/core/Joined$State;"⟩ : MethodName) (head1 (Jvm.Cond.code (⟨"com/example/unanimity/unanimity/core/StateAwaitsDecisionPinLaw", "pick", "(I)Lcom/example/unanimity/unanimity/core/Joined$State;"⟩ : MethodName) method_2_code 1 (some (.object "com/example/unanimity/unanimity/core/Joined$State")) :: ws) ({ frames := 0, cells := 0, slots := 0, locals := 0 } : Room)) (fun a U => a = #[(.int (0 : Int32))] ∧ Z.Warmed39 U.vm ∧ U.heap = h0) (fun _ _ _ _ _ => True) (fun _ U o U' => ∃ v L, o = .returned v ∧ own_Q (some (.ref s_PREPARED)) h0 n0 v U'.heap L ∧ FrameEnd U o U' L ({ frames := 0, cells := 0, slots := 0, locals := 0 } : Room).cells ({ frames := 0, cells := 0, slots := 0, locals := 0 } : Room).slots) := by
  have G0 := G
  obtain ⟨S_PREPARED, E_PREPARED, O_PREPARED, S_IN_DOUBT, E_IN_DOUBT, O_IN_DOUBT, S_Outcome_COMMITTED, E_Outcome_COMMITTED, O_Outcome_COMMITTED, S_HEURISTICALLY_ABORTED, E_HEURISTICALLY_ABORTED, O_HEURISTICALLY_ABORTED, S_HEURISTICALLY_COMMITTED, E_HEURISTICALLY_COMMITTED, O_HEURISTICALLY_COMMITTED, S_Joined_State_COMMITTED, E_Joined_State_COMMITTED, S_HEURISTIC_ABORT, E_HEURISTIC_ABORT, O_HEURISTIC_ABORT, S_HEURISTIC_COMMIT, E_HEURISTIC_COMMIT, O_HEURISTIC_COMMIT, S_COMMITTED_AGAINST_HEURISTIC, E_COMMITTED_AGAINST_HEURISTIC, S_HEURISTIC_MISMATCH, E_HEURISTIC_MISMATCH, O_HEURISTIC_MISMATCH, S_COMMITTED_IN_ONE_PHASE, E_COMMITTED_IN_ONE_PHASE, S_TxnStatus_COMMITTED, E_TxnStatus_COMMITTED, O_TxnStatus_COMMITTED, S_ABORTED_AGAINST_HEURISTIC, E_ABORTED_AGAINST_HEURISTIC, S_Outcome_ABORTED, E_Outcome_ABORTED, O_Outcome_ABORTED, S_PRE_ABORTED, E_PRE_ABORTED, O_PRE_ABORTED, S_PRE_COMMITTED, E_PRE_COMMITTED, O_PRE_COMMITTED, S_Joined_State_ABORTED, E_Joined_State_ABORTED, S_TxnStatus_ABORTED, E_TxnStatus_ABORTED, O_TxnStatus_ABORTED, F_decision_PREPARED, F_status_PREPARED, F_decision_Joined_State_COMMITTED, F_decision_HEURISTICALLY_ABORTED, F_status_HEURISTICALLY_ABORTED, F_decision_COMMITTED_AGAINST_HEURISTIC, F_status_COMMITTED_AGAINST_HEURISTIC, F_decision_COMMITTED_IN_ONE_PHASE, F_status_COMMITTED_IN_ONE_PHASE, F_decision_ABORTED_AGAINST_HEURISTIC, F_status_ABORTED_AGAINST_HEURISTIC, F_decision_PRE_ABORTED, F_status_PRE_ABORTED, F_decision_HEURISTICALLY_COMMITTED, F_status_HEURISTICALLY_COMMITTED, F_decision_PRE_COMMITTED, F_status_PRE_COMMITTED, F_decision_Joined_State_ABORTED, F_status_Joined_State_COMMITTED, F_status_Joined_State_ABORTED⟩ := G
  refine MetFree.of_bodySF (plainFor_of_name pn_1) hisR ?_
  intro p e s m args below meth c s₁ Bd hml0 hP hK
  obtain ⟨rfl, hZ, hh⟩ := hP
  have hx := Bd.exec
  have hby := Bd.bytes
  have hml : c.maxLocals = 1 := hml0
  have hown : s.vm.findClass "com/example/unanimity/unanimity/core/StateAwaitsDecisionPinLaw" = some m.cls := findClass_of_methodNamed Bd.named
  have hnm := (name_of_methodNamed Bd.named Bd.method).1
  have X0 : Stand p l e ({ frames := 0, cells := 0, slots := 0, locals := 0 } : Room) s m #[(.int (0 : Int32))] below meth c s₁ [] 0 0 := Stand.of_body Bd
  have e0 : s₁.heap = h0 := by rw [← hh, Bd.state]; rfl
  have N0 := Fr.nil n0
  have pre0 : ∀ t, Steps p.tables e below (s₁.setTop (mkF m 0 #[.val (.int (0 : Int32))] [])) t → Steps p.tables e below (s₁.setTop (entryFrame m #[(.int (0 : Int32))] 1)) t := fun t k => castTop (ef_1_4 m (0 : Int32)) k
  obtain ⟨T1, X1, e1, st1⟩ := getS2 X0 hx hZ hown (host := "") (Or.inl (hw _ (List.mem_of_getElem? (i := 5) rfl))) Via.refl e0 S_PREPARED (g := (mkF m 4 #[.val (.int (0 : Int32))] [])) rfl (hb hby d1_4)
  obtain ⟨fs, hr, hrun, hended, hW, hsame⟩ := X1.leave (v := some (.ref s_PREPARED)) (fun h => by rw [Bd.returns] at h; cases h)
  refine ⟨_, _, pre0 _ ?_, hrun, hended, _, _, rfl, ?_, ⟨_, rfl⟩, hW, hsame.mono (by decide) (by decide)⟩
  · show Steps p.tables e below (s₁.setTop (mkF m 0 #[.val (.int (0 : Int32))] [])) _
    refine XS.iloadN X0.here hx rfl (hb hby d1_0) rfl ?_
    show Steps p.tables e below (s₁.setTop (mkF m 1 #[.val (.int (0 : Int32))] [(.int (0 : Int32))])) _
    refine XS.ifNo X0.here hx rfl (hb hby d1_1) rfl ((if0 _ _).trans (teq (by decide : (0 : Int32) = (0 : Int32))).2) ?_
    show Steps p.tables e below (s₁.setTop (mkF m 4 #[.val (.int (0 : Int32))] [])) _
    refine st1 _ ?_
    show Steps p.tables e below (T1.setTop (mkF m 7 #[.val (.int (0 : Int32))] [(.ref s_PREPARED)])) _
    exact retOut X1 hx Bd.returns rfl (Or.inr (Or.inr (Or.inr (Or.inr ⟨rfl, rfl, rfl⟩)))) (hb hby d1_7) hr
  · show own_Q (some (.ref s_PREPARED)) h0 n0 _ T1.heap _
    rw [e1]
    exact ⟨rfl, N0, rfl⟩
theorem pd_1 : parseMethodDescriptor "(I)Lcom/example/unanimity/unanimity/core/Joined$State;" = some ⟨[.int], some (.object "com/example/unanimity/unanimity/core/Joined$State")⟩ := by decide +kernel
theorem pd_2 : parseMethodDescriptor "()Z" = some ⟨[], some .boolean⟩ := by decide +kernel
theorem ef_0_5 (m : MethodId) (x0 : Int32) (x1 : Int32) : entryFrame m #[(.int x0), (.int x1)] maxLocals = mkF m 0 #[.val (.int x0), .val (.int x1), .unset, .unset, .unset, .unset, .unset, .unset] [] := by first | (simp [entryFrame, mkF, argsToLocals, Value.category, maxLocals]; done) | rfl
set_option maxRecDepth 65536 in
set_option maxHeartbeats 40000000 in
theorem r_law_0_0 (l : Launch) (Z : State) (a0 : Array Value) (hw : ∀ d ∈ tables_1, d.before a0 Z = true) (ws : List Jvm.Cond) (s_PREPARED s_IN_DOUBT s_Outcome_COMMITTED s_HEURISTICALLY_ABORTED s_HEURISTICALLY_COMMITTED s_Joined_State_COMMITTED s_HEURISTIC_ABORT s_HEURISTIC_COMMIT s_COMMITTED_AGAINST_HEURISTIC s_HEURISTIC_MISMATCH s_COMMITTED_IN_ONE_PHASE s_TxnStatus_COMMITTED s_ABORTED_AGAINST_HEURISTIC s_Outcome_ABORTED s_PRE_ABORTED s_PRE_COMMITTED s_Joined_State_ABORTED s_TxnStatus_ABORTED : Addr) (h0 : Heap) (n0 : Nat) (Z0 : n0 ≤ h0.size) (G : own_Ctx Z h0 s_PREPARED s_IN_DOUBT s_Outcome_COMMITTED s_HEURISTICALLY_ABORTED s_HEURISTICALLY_COMMITTED s_Joined_State_COMMITTED s_HEURISTIC_ABORT s_HEURISTIC_COMMIT s_COMMITTED_AGAINST_HEURISTIC s_HEURISTIC_MISMATCH s_COMMITTED_IN_ONE_PHASE s_TxnStatus_COMMITTED s_ABORTED_AGAINST_HEURISTIC s_Outcome_ABORTED s_PRE_ABORTED s_PRE_COMMITTED s_Joined_State_ABORTED s_TxnStatus_ABORTED) (p1 p2 : Int32) (hk : (p1 &&& (2147483647 : Int32)) % (10 : Int32) = (0 : Int32)) (hf : p2 &&& (1 : Int32) = (0 : Int32)) :
    MetFree l x (head1 (Jvm.Cond.code x code maxLocals ret :: ws) room_1) (fun a U => a = #[(.int p1), (.int p2)] ∧ Z.Warmed39 U.vm ∧ U.heap = h0) (fun _ _ _ _ _ => True) (fun _ U o U' => ∃ v L, o = .returned v ∧ own_Q (some (.int (1 : Int32))) h0 n0 v U'.heap L ∧ FrameEnd U o U' L 0 0) := by
  have G0 := G
  obtain ⟨S_PREPARED, E_PREPARED, O_PREPARED, S_IN_DOUBT, E_IN_DOUBT, O_IN_DOUBT, S_Outcome_COMMITTED, E_Outcome_COMMITTED, O_Outcome_COMMITTED, S_HEURISTICALLY_ABORTED, E_HEURISTICALLY_ABORTED, O_HEURISTICALLY_ABORTED, S_HEURISTICALLY_COMMITTED, E_HEURISTICALLY_COMMITTED, O_HEURISTICALLY_COMMITTED, S_Joined_State_COMMITTED, E_Joined_State_COMMITTED, S_HEURISTIC_ABORT, E_HEURISTIC_ABORT, O_HEURISTIC_ABORT, S_HEURISTIC_COMMIT, E_HEURISTIC_COMMIT, O_HEURISTIC_COMMIT, S_COMMITTED_AGAINST_HEURISTIC, E_COMMITTED_AGAINST_HEURISTIC, S_HEURISTIC_MISMATCH, E_HEURISTIC_MISMATCH, O_HEURISTIC_MISMATCH, S_COMMITTED_IN_ONE_PHASE, E_COMMITTED_IN_ONE_PHASE, S_TxnStatus_COMMITTED, E_TxnStatus_COMMITTED, O_TxnStatus_COMMITTED, S_ABORTED_AGAINST_HEURISTIC, E_ABORTED_AGAINST_HEURISTIC, S_Outcome_ABORTED, E_Outcome_ABORTED, O_Outcome_ABORTED, S_PRE_ABORTED, E_PRE_ABORTED, O_PRE_ABORTED, S_PRE_COMMITTED, E_PRE_COMMITTED, O_PRE_COMMITTED, S_Joined_State_ABORTED, E_Joined_State_ABORTED, S_TxnStatus_ABORTED, E_TxnStatus_ABORTED, O_TxnStatus_ABORTED, F_decision_PREPARED, F_status_PREPARED, F_decision_Joined_State_COMMITTED, F_decision_HEURISTICALLY_ABORTED, F_status_HEURISTICALLY_ABORTED, F_decision_COMMITTED_AGAINST_HEURISTIC, F_status_COMMITTED_AGAINST_HEURISTIC, F_decision_COMMITTED_IN_ONE_PHASE, F_status_COMMITTED_IN_ONE_PHASE, F_decision_ABORTED_AGAINST_HEURISTIC, F_status_ABORTED_AGAINST_HEURISTIC, F_decision_PRE_ABORTED, F_status_PRE_ABORTED, F_decision_HEURISTICALLY_COMMITTED, F_status_HEURISTICALLY_COMMITTED, F_decision_PRE_COMMITTED, F_status_PRE_COMMITTED, F_decision_Joined_State_ABORTED, F_status_Joined_State_COMMITTED, F_status_Joined_State_ABORTED⟩ := G
  refine MetFree.of_bodySF (plainFor_of_name pn_1) hisR ?_
  intro p e s m args below meth c s₁ Bd hml0 hP hK
  obtain ⟨rfl, hZ, hh⟩ := hP
  have hx := Bd.exec
  have hby := Bd.bytes
  have hml : c.maxLocals = 8 := hml0
  have hown : s.vm.findClass "com/example/unanimity/unanimity/core/StateAwaitsDecisionPinLaw" = some m.cls := findClass_of_methodNamed Bd.named
  have hnm := (name_of_methodNamed Bd.named Bd.method).1
  have X0 : Stand p l e room_1 s m #[(.int p1), (.int p2)] below meth c s₁ [] 0 0 := Stand.of_body Bd
  have e0 : s₁.heap = h0 := by rw [← hh, Bd.state]; rfl
  have N0 := Fr.nil n0
  have pre0 : ∀ t, Steps p.tables e below (s₁.setTop (mkF m 0 #[.val (.int p1), .val (.int p2), .unset, .unset, .unset, .unset, .unset, .unset] [])) t → Steps p.tables e below (s₁.setTop (entryFrame m #[(.int p1), (.int p2)] maxLocals)) t := fun t k => castTop (ef_0_5 m p1 p2) k
  obtain ⟨_, _, ⟨T1, L1, k1, n1⟩, -, X1, ⟨Lc1, hQ1, l1, y1, z1⟩, st1⟩ := Jvm.LawKit.callS X0 hx (y := (⟨"com/example/unanimity/unanimity/core/StateAwaitsDecisionPinLaw", "pick", "(I)Lcom/example/unanimity/unanimity/core/Joined$State;"⟩ : MethodName)) hown (mvT hZ (hw _ (List.mem_of_getElem? (i := 1) rfl))) (mvT hZ (hw _ (List.mem_of_getElem? (i := 2) rfl))) (mvT hZ (hw _ (List.mem_of_getElem? (i := 3) rfl))) (mvT hZ (hw _ (List.mem_of_getElem? (i := 4) rfl))) (by decide) (backOf (W := 0) (r_pick_0 l Z a0 hw [] s_PREPARED s_IN_DOUBT s_Outcome_COMMITTED s_HEURISTICALLY_ABORTED s_HEURISTICALLY_COMMITTED s_Joined_State_COMMITTED s_HEURISTIC_ABORT s_HEURISTIC_COMMIT s_COMMITTED_AGAINST_HEURISTIC s_HEURISTIC_MISMATCH s_COMMITTED_IN_ONE_PHASE s_TxnStatus_COMMITTED s_ABORTED_AGAINST_HEURISTIC s_Outcome_ABORTED s_PRE_ABORTED s_PRE_COMMITTED s_Joined_State_ABORTED s_TxnStatus_ABORTED h0 n0 Z0 G0) hZ (hw _ (List.mem_of_getElem? (i := 4) rfl)) (hw _ (List.mem_of_getElem? (i := 3) rfl)) (by decide) (by decide)) (g := (mkF m 9 #[.val (.int p1), .val (.int p2), .val (.int (0 : Int32)), .unset, .unset, .unset, .unset, .unset] [(.int (0 : Int32))])) rfl (by rw [hml]; rfl) (argsL := [(.int (0 : Int32))]) (rest := []) (lenOf pd_1 rfl) rfl (by show 2 * 0 + _ ≤ _; exact Nat.le_of_eq rfl) (hb hby at_9) (fun _ _ => ⟨rfl, e0, (by decide : 0 + 0 ≤ _), (by decide : 0 + 0 ≤ _)⟩)
  dsimp only [Pt.U, Pt.locs, Pt.cells, Pt.slots] at X1 l1 y1 z1 st1 hQ1
  subst l1 y1 z1
  obtain ⟨rfl, N1q, e1⟩ := hQ1
  have N1 := Fr.app N0 N1q
  obtain ⟨cq2, kq2, q2a, q2b, q2c⟩ := isOf hZ e1 E_PREPARED
  obtain ⟨_, _, ⟨T2, L2, k2, n2⟩, -, X2, ⟨Lc2, hQ2, l2, y2, z2⟩, st2⟩ := X1.virtualBack hx (y := (⟨"com/example/unanimity/unanimity/core/Joined$State", "awaitsDecision", "()Z"⟩ : MethodName)) (z := (⟨"com/example/unanimity/unanimity/core/Joined$State", "awaitsDecision", "()Z"⟩ : MethodName)) hown (mvT hZ (hw _ (List.mem_of_getElem? (i := 8) rfl))) (mvT hZ (hw _ (List.mem_of_getElem? (i := 9) rfl))) (notFace_of_selects (args := #[]) (mvT hZ (hw _ (List.mem_of_getElem? (i := 11) rfl)))) (mvT hZ (hw _ (List.mem_of_getElem? (i := 11) rfl))) (mvT hZ (hw _ (List.mem_of_getElem? (i := 10) rfl))) (by decide) (backOf (W := 0) (r_aw_0 l Z a0 hw [] s_PREPARED s_IN_DOUBT s_Outcome_COMMITTED s_HEURISTICALLY_ABORTED s_HEURISTICALLY_COMMITTED s_Joined_State_COMMITTED s_HEURISTIC_ABORT s_HEURISTIC_COMMIT s_COMMITTED_AGAINST_HEURISTIC s_HEURISTIC_MISMATCH s_COMMITTED_IN_ONE_PHASE s_TxnStatus_COMMITTED s_ABORTED_AGAINST_HEURISTIC s_Outcome_ABORTED s_PRE_ABORTED s_PRE_COMMITTED s_Joined_State_ABORTED s_TxnStatus_ABORTED h0 n0 Z0 G0) hZ (hw _ (List.mem_of_getElem? (i := 12) rfl)) (hw _ (List.mem_of_getElem? (i := 6) rfl)) (by decide) (by decide)) q2a q2c (g := (mkF m 26 #[.val (.int p1), .val (.int p2), .val (.int (0 : Int32)), .val (.ref s_PREPARED), .val (.int (1 : Int32)), .unset, .unset, .unset] [(.ref s_PREPARED)])) rfl (by rw [hml]; rfl) (Steps.refl _) (argsL := []) (rest := []) (lenOf pd_2 rfl) rfl (by show 2 * 0 + _ ≤ _; exact Nat.le_of_eq rfl) (hb hby at_26) (fun _ _ => ⟨rfl, e1, (by decide : 0 + 0 ≤ _), (by decide : 0 + 0 ≤ _)⟩)
  dsimp only [Pt.U, Pt.locs, Pt.cells, Pt.slots] at X2 l2 y2 z2 st2 hQ2
  subst l2 y2 z2
  obtain ⟨rfl, N2q, e2⟩ := hQ2
  have N2 := Fr.app N1 N2q
  obtain ⟨cq3, kq3, q3a, q3b, q3c⟩ := isOf hZ e2 E_PREPARED
  obtain ⟨_, _, ⟨T3, L3, k3, n3⟩, -, X3, ⟨Lc3, hQ3, l3, y3, z3⟩, st3⟩ := X2.virtualBack hx (y := (⟨"com/example/unanimity/unanimity/core/Joined$State", "inDoubt", "()Z"⟩ : MethodName)) (z := (⟨"com/example/unanimity/unanimity/core/Joined$State", "inDoubt", "()Z"⟩ : MethodName)) hown (mvT hZ (hw _ (List.mem_of_getElem? (i := 15) rfl))) (mvT hZ (hw _ (List.mem_of_getElem? (i := 16) rfl))) (notFace_of_selects (args := #[]) (mvT hZ (hw _ (List.mem_of_getElem? (i := 18) rfl)))) (mvT hZ (hw _ (List.mem_of_getElem? (i := 18) rfl))) (mvT hZ (hw _ (List.mem_of_getElem? (i := 17) rfl))) (by decide) (backOf (W := 0) (r_in_0 l Z a0 hw [] s_PREPARED s_IN_DOUBT s_Outcome_COMMITTED s_HEURISTICALLY_ABORTED s_HEURISTICALLY_COMMITTED s_Joined_State_COMMITTED s_HEURISTIC_ABORT s_HEURISTIC_COMMIT s_COMMITTED_AGAINST_HEURISTIC s_HEURISTIC_MISMATCH s_COMMITTED_IN_ONE_PHASE s_TxnStatus_COMMITTED s_ABORTED_AGAINST_HEURISTIC s_Outcome_ABORTED s_PRE_ABORTED s_PRE_COMMITTED s_Joined_State_ABORTED s_TxnStatus_ABORTED h0 n0 Z0 G0) hZ (hw _ (List.mem_of_getElem? (i := 19) rfl)) (hw _ (List.mem_of_getElem? (i := 6) rfl)) (by decide) (by decide)) q3a q3c (g := (mkF m 41 #[.val (.int p1), .val (.int p2), .val (.int (0 : Int32)), .val (.ref s_PREPARED), .val (.int (1 : Int32)), .val (.int (1 : Int32)), .unset, .unset] [(.ref s_PREPARED)])) rfl (by rw [hml]; rfl) (Steps.refl _) (argsL := []) (rest := []) (lenOf pd_2 rfl) rfl (by show 2 * 0 + _ ≤ _; exact Nat.le_of_eq rfl) (hb hby at_41) (fun _ _ => ⟨rfl, e2, (by decide : 0 + 0 ≤ _), (by decide : 0 + 0 ≤ _)⟩)
  dsimp only [Pt.U, Pt.locs, Pt.cells, Pt.slots] at X3 l3 y3 z3 st3 hQ3
  subst l3 y3 z3
  obtain ⟨rfl, N3q, e3⟩ := hQ3
  have N3 := Fr.app N2 N3q
  obtain ⟨T4, X4, e4, st4⟩ := getS2 X3 hx hZ hown (host := "") (Or.inl (hw _ (List.mem_of_getElem? (i := 65) rfl))) Via.refl e3 S_Outcome_ABORTED (g := (mkF m 100 #[.val (.int p1), .val (.int p2), .val (.int (0 : Int32)), .val (.ref s_PREPARED), .val (.int (1 : Int32)), .val (.int (1 : Int32)), .val (.int (1 : Int32)), .unset] [])) rfl (hb hby at_100)
  obtain ⟨cq5, kq5, q5a, q5b, q5c⟩ := isOf hZ e4 E_PREPARED
  obtain ⟨_, _, ⟨T5, L5, k5, n5⟩, -, X5, ⟨Lc5, hQ5, l5, y5, z5⟩, st5⟩ := X4.virtualBack hx (y := (⟨"com/example/unanimity/unanimity/core/Joined$State", "after", "(Lcom/example/unanimity/unanimity/core/Outcome;)Lcom/example/unanimity/unanimity/core/Joined$State;"⟩ : MethodName)) (z := (⟨"com/example/unanimity/unanimity/core/Joined$State", "after", "(Lcom/example/unanimity/unanimity/core/Outcome;)Lcom/example/unanimity/unanimity/core/Joined$State;"⟩ : MethodName)) hown (mvT hZ (hw _ (List.mem_of_getElem? (i := 28) rfl))) (mvT hZ (hw _ (List.mem_of_getElem? (i := 29) rfl))) (notFace_of_selects (args := #[]) (mvT hZ (hw _ (List.mem_of_getElem? (i := 31) rfl)))) (mvT hZ (hw _ (List.mem_of_getElem? (i := 31) rfl))) (mvT hZ (hw _ (List.mem_of_getElem? (i := 30) rfl))) (by decide) (backOf (W := 0) (r_after_0_Outcome_ABORTED l Z a0 hw [] s_PREPARED s_IN_DOUBT s_Outcome_COMMITTED s_HEURISTICALLY_ABORTED s_HEURISTICALLY_COMMITTED s_Joined_State_COMMITTED s_HEURISTIC_ABORT s_HEURISTIC_COMMIT s_COMMITTED_AGAINST_HEURISTIC s_HEURISTIC_MISMATCH s_COMMITTED_IN_ONE_PHASE s_TxnStatus_COMMITTED s_ABORTED_AGAINST_HEURISTIC s_Outcome_ABORTED s_PRE_ABORTED s_PRE_COMMITTED s_Joined_State_ABORTED s_TxnStatus_ABORTED h0 n0 Z0 G0) hZ (hw _ (List.mem_of_getElem? (i := 32) rfl)) (hw _ (List.mem_of_getElem? (i := 6) rfl)) (by decide) (by decide)) q5a q5c (g := (mkF m 108 #[.val (.int p1), .val (.int p2), .val (.int (0 : Int32)), .val (.ref s_PREPARED), .val (.int (1 : Int32)), .val (.int (1 : Int32)), .val (.int (1 : Int32)), .val (.ref s_Outcome_ABORTED)] [(.ref s_Outcome_ABORTED), (.ref s_PREPARED)])) rfl (by rw [hml]; rfl) (Steps.refl _) (argsL := [(.ref s_Outcome_ABORTED)]) (rest := []) (lenOf pd_0 rfl) rfl (by show 2 * 0 + _ ≤ _; exact Nat.le_of_eq rfl) (hb hby at_108) (fun _ _ => ⟨rfl, e4, (by decide : 0 + 0 ≤ _), (by decide : 0 + 0 ≤ _)⟩)
  dsimp only [Pt.U, Pt.locs, Pt.cells, Pt.slots] at X5 l5 y5 z5 st5 hQ5
  subst l5 y5 z5
  obtain ⟨rfl, N5q, e5⟩ := hQ5
  have N5 := Fr.app N3 N5q
  obtain ⟨cq6, kq6, q6a, q6b, q6c⟩ := isOf hZ e5 E_Joined_State_ABORTED
  obtain ⟨_, _, ⟨T6, L6, k6, n6⟩, -, X6, ⟨Lc6, hQ6, l6, y6, z6⟩, st6⟩ := X5.virtualBack hx (y := (⟨"com/example/unanimity/unanimity/core/Joined$State", "awaitsDecision", "()Z"⟩ : MethodName)) (z := (⟨"com/example/unanimity/unanimity/core/Joined$State", "awaitsDecision", "()Z"⟩ : MethodName)) hown (mvT hZ (hw _ (List.mem_of_getElem? (i := 8) rfl))) (mvT hZ (hw _ (List.mem_of_getElem? (i := 9) rfl))) (notFace_of_selects (args := #[]) (mvT hZ (hw _ (List.mem_of_getElem? (i := 11) rfl)))) (mvT hZ (hw _ (List.mem_of_getElem? (i := 11) rfl))) (mvT hZ (hw _ (List.mem_of_getElem? (i := 10) rfl))) (by decide) (backOf (W := 0) (r_aw_7 l Z a0 hw [] s_PREPARED s_IN_DOUBT s_Outcome_COMMITTED s_HEURISTICALLY_ABORTED s_HEURISTICALLY_COMMITTED s_Joined_State_COMMITTED s_HEURISTIC_ABORT s_HEURISTIC_COMMIT s_COMMITTED_AGAINST_HEURISTIC s_HEURISTIC_MISMATCH s_COMMITTED_IN_ONE_PHASE s_TxnStatus_COMMITTED s_ABORTED_AGAINST_HEURISTIC s_Outcome_ABORTED s_PRE_ABORTED s_PRE_COMMITTED s_Joined_State_ABORTED s_TxnStatus_ABORTED h0 n0 Z0 G0) hZ (hw _ (List.mem_of_getElem? (i := 12) rfl)) (hw _ (List.mem_of_getElem? (i := 6) rfl)) (by decide) (by decide)) q6a q6c (g := (mkF m 111 #[.val (.int p1), .val (.int p2), .val (.int (0 : Int32)), .val (.ref s_PREPARED), .val (.int (1 : Int32)), .val (.int (1 : Int32)), .val (.int (1 : Int32)), .val (.ref s_Outcome_ABORTED)] [(.ref s_Joined_State_ABORTED)])) rfl (by rw [hml]; rfl) (Steps.refl _) (argsL := []) (rest := []) (lenOf pd_2 rfl) rfl (by show 2 * 0 + _ ≤ _; exact Nat.le_of_eq rfl) (hb hby at_111) (fun _ _ => ⟨rfl, e5, (by decide : 0 + 0 ≤ _), (by decide : 0 + 0 ≤ _)⟩)
  dsimp only [Pt.U, Pt.locs, Pt.cells, Pt.slots] at X6 l6 y6 z6 st6 hQ6
  subst l6 y6 z6
  obtain ⟨rfl, N6q, e6⟩ := hQ6
  have N6 := Fr.app N5 N6q
  obtain ⟨fs, hr, hrun, hended, hW, hsame⟩ := X6.leave (v := some (.int (1 : Int32))) (fun h => by rw [Bd.returns] at h; cases h)
  refine ⟨_, _, pre0 _ ?_, hrun, hended, _, _, rfl, ?_, ⟨_, rfl⟩, hW, hsame.mono (by decide) (by decide)⟩
  · show Steps p.tables e below (s₁.setTop (mkF m 0 #[.val (.int p1), .val (.int p2), .unset, .unset, .unset, .unset, .unset, .unset] [])) _
    refine XS.iloadN X0.here hx rfl (hb hby at_0) rfl ?_
    show Steps p.tables e below (s₁.setTop (mkF m 1 #[.val (.int p1), .val (.int p2), .unset, .unset, .unset, .unset, .unset, .unset] [(.int p1)])) _
    refine X0.ldcInt hx hown (mvT hZ (hw _ (List.mem_of_getElem? (i := 0) rfl))) (g := (mkF m 1 #[.val (.int p1), .val (.int p2), .unset, .unset, .unset, .unset, .unset, .unset] [(.int p1)])) rfl (hb hby at_1) _ ?_
    show Steps p.tables e below (s₁.setTop (mkF m 3 #[.val (.int p1), .val (.int p2), .unset, .unset, .unset, .unset, .unset, .unset] [(.int (2147483647 : Int32)), (.int p1)])) _
    refine XS.iand X0.here hx rfl (hb hby at_3) rfl ?_
    show Steps p.tables e below (s₁.setTop (mkF m 4 #[.val (.int p1), .val (.int p2), .unset, .unset, .unset, .unset, .unset, .unset] [(.int (p1 &&& (2147483647 : Int32)))])) _
    refine XS.bipush X0.here hx rfl (hb hby at_4) ?_
    show Steps p.tables e below (s₁.setTop (mkF m 6 #[.val (.int p1), .val (.int p2), .unset, .unset, .unset, .unset, .unset, .unset] [(.int (10 : Int32)), (.int (p1 &&& (2147483647 : Int32)))])) _
    refine iremM X0 hx rfl (hb hby at_6) rfl (by decide) ?_
    show Steps p.tables e below (s₁.setTop (mkF m 7 #[.val (.int p1), .val (.int p2), .unset, .unset, .unset, .unset, .unset, .unset] [(.int ((p1 &&& (2147483647 : Int32)) % (10 : Int32)))])) _
    rw [hk]
    show Steps p.tables e below (s₁.setTop (mkF m 7 #[.val (.int p1), .val (.int p2), .unset, .unset, .unset, .unset, .unset, .unset] [(.int (0 : Int32))])) _
    refine XS.istoreN X0.here hx rfl (hb hby at_7) rfl (l' := #[.val (.int p1), .val (.int p2), .val (.int (0 : Int32)), .unset, .unset, .unset, .unset, .unset]) rfl ?_
    show Steps p.tables e below (s₁.setTop (mkF m 8 #[.val (.int p1), .val (.int p2), .val (.int (0 : Int32)), .unset, .unset, .unset, .unset, .unset] [])) _
    refine XS.iloadN X0.here hx rfl (hb hby at_8) rfl ?_
    show Steps p.tables e below (s₁.setTop (mkF m 9 #[.val (.int p1), .val (.int p2), .val (.int (0 : Int32)), .unset, .unset, .unset, .unset, .unset] [(.int (0 : Int32))])) _
    refine st1 _ ?_
    show Steps p.tables e below (T1.setTop (mkF m 12 #[.val (.int p1), .val (.int p2), .val (.int (0 : Int32)), .unset, .unset, .unset, .unset, .unset] [(.ref s_PREPARED)])) _
    refine XS.astoreN X1.here hx rfl (hb hby at_12) rfl rfl (l' := #[.val (.int p1), .val (.int p2), .val (.int (0 : Int32)), .val (.ref s_PREPARED), .unset, .unset, .unset, .unset]) rfl ?_
    show Steps p.tables e below (T1.setTop (mkF m 13 #[.val (.int p1), .val (.int p2), .val (.int (0 : Int32)), .val (.ref s_PREPARED), .unset, .unset, .unset, .unset] [])) _
    refine XS.iloadN X1.here hx rfl (hb hby at_13) rfl ?_
    show Steps p.tables e below (T1.setTop (mkF m 14 #[.val (.int p1), .val (.int p2), .val (.int (0 : Int32)), .val (.ref s_PREPARED), .unset, .unset, .unset, .unset] [(.int (0 : Int32))])) _
    refine XS.iconst X1.here hx rfl (hb hby at_14) ?_
    show Steps p.tables e below (T1.setTop (mkF m 15 #[.val (.int p1), .val (.int p2), .val (.int (0 : Int32)), .val (.ref s_PREPARED), .unset, .unset, .unset, .unset] [(.int (5 : Int32)), (.int (0 : Int32))])) _
    refine XS.icmpNo X1.here hx rfl (hb hby at_15) rfl (tlt (by decide : (0 : Int32) < (5 : Int32))).2.1 ?_
    show Steps p.tables e below (T1.setTop (mkF m 18 #[.val (.int p1), .val (.int p2), .val (.int (0 : Int32)), .val (.ref s_PREPARED), .unset, .unset, .unset, .unset] [])) _
    refine XS.iconst X1.here hx rfl (hb hby at_18) ?_
    show Steps p.tables e below (T1.setTop (mkF m 19 #[.val (.int p1), .val (.int p2), .val (.int (0 : Int32)), .val (.ref s_PREPARED), .unset, .unset, .unset, .unset] [(.int (1 : Int32))])) _
    refine XS.goto X1.here hx rfl (pc0 := 19) (pc' := 23) rfl (hb hby at_19) (by decide) (by decide) ?_
    show Steps p.tables e below (T1.setTop (mkF m 23 #[.val (.int p1), .val (.int p2), .val (.int (0 : Int32)), .val (.ref s_PREPARED), .unset, .unset, .unset, .unset] [(.int (1 : Int32))])) _
    refine XS.istore X1.here hx rfl (hb hby at_23) rfl (l' := #[.val (.int p1), .val (.int p2), .val (.int (0 : Int32)), .val (.ref s_PREPARED), .val (.int (1 : Int32)), .unset, .unset, .unset]) rfl ?_
    show Steps p.tables e below (T1.setTop (mkF m 25 #[.val (.int p1), .val (.int p2), .val (.int (0 : Int32)), .val (.ref s_PREPARED), .val (.int (1 : Int32)), .unset, .unset, .unset] [])) _
    refine XS.aloadN X1.here hx rfl (hb hby at_25) rfl rfl ?_
    show Steps p.tables e below (T1.setTop (mkF m 26 #[.val (.int p1), .val (.int p2), .val (.int (0 : Int32)), .val (.ref s_PREPARED), .val (.int (1 : Int32)), .unset, .unset, .unset] [(.ref s_PREPARED)])) _
    refine st2.trans ?_
    show Steps p.tables e below (T2.setTop (mkF m 29 #[.val (.int p1), .val (.int p2), .val (.int (0 : Int32)), .val (.ref s_PREPARED), .val (.int (1 : Int32)), .unset, .unset, .unset] [(.int (1 : Int32))])) _
    refine XS.istore X2.here hx rfl (hb hby at_29) rfl (l' := #[.val (.int p1), .val (.int p2), .val (.int (0 : Int32)), .val (.ref s_PREPARED), .val (.int (1 : Int32)), .val (.int (1 : Int32)), .unset, .unset]) rfl ?_
    show Steps p.tables e below (T2.setTop (mkF m 31 #[.val (.int p1), .val (.int p2), .val (.int (0 : Int32)), .val (.ref s_PREPARED), .val (.int (1 : Int32)), .val (.int (1 : Int32)), .unset, .unset] [])) _
    refine XS.iload X2.here hx rfl (hb hby at_31) rfl ?_
    show Steps p.tables e below (T2.setTop (mkF m 33 #[.val (.int p1), .val (.int p2), .val (.int (0 : Int32)), .val (.ref s_PREPARED), .val (.int (1 : Int32)), .val (.int (1 : Int32)), .unset, .unset] [(.int (1 : Int32))])) _
    refine XS.iload X2.here hx rfl (hb hby at_33) rfl ?_
    show Steps p.tables e below (T2.setTop (mkF m 35 #[.val (.int p1), .val (.int p2), .val (.int (0 : Int32)), .val (.ref s_PREPARED), .val (.int (1 : Int32)), .val (.int (1 : Int32)), .unset, .unset] [(.int (1 : Int32)), (.int (1 : Int32))])) _
    refine XS.icmpYes X2.here hx rfl (pc0 := 35) (pc' := 40) rfl (hb hby at_35) rfl (teq (by decide : (1 : Int32) = (1 : Int32))).1 (by decide) (by decide) ?_
    show Steps p.tables e below (T2.setTop (mkF m 40 #[.val (.int p1), .val (.int p2), .val (.int (0 : Int32)), .val (.ref s_PREPARED), .val (.int (1 : Int32)), .val (.int (1 : Int32)), .unset, .unset] [])) _
    refine XS.aloadN X2.here hx rfl (hb hby at_40) rfl rfl ?_
    show Steps p.tables e below (T2.setTop (mkF m 41 #[.val (.int p1), .val (.int p2), .val (.int (0 : Int32)), .val (.ref s_PREPARED), .val (.int (1 : Int32)), .val (.int (1 : Int32)), .unset, .unset] [(.ref s_PREPARED)])) _
    refine st3.trans ?_
    show Steps p.tables e below (T3.setTop (mkF m 44 #[.val (.int p1), .val (.int p2), .val (.int (0 : Int32)), .val (.ref s_PREPARED), .val (.int (1 : Int32)), .val (.int (1 : Int32)), .unset, .unset] [(.int (1 : Int32))])) _
    refine XS.ifYes X3.here hx rfl (pc0 := 44) (pc' := 67) rfl (hb hby at_44) rfl ((if0 _ _).trans (feq (by decide : ¬ ((1 : Int32) = (0 : Int32)))).2) (by decide) (by decide) ?_
    show Steps p.tables e below (T3.setTop (mkF m 67 #[.val (.int p1), .val (.int p2), .val (.int (0 : Int32)), .val (.ref s_PREPARED), .val (.int (1 : Int32)), .val (.int (1 : Int32)), .unset, .unset] [])) _
    refine XS.iconst X3.here hx rfl (hb hby at_67) ?_
    show Steps p.tables e below (T3.setTop (mkF m 68 #[.val (.int p1), .val (.int p2), .val (.int (0 : Int32)), .val (.ref s_PREPARED), .val (.int (1 : Int32)), .val (.int (1 : Int32)), .unset, .unset] [(.int (1 : Int32))])) _
    refine XS.goto X3.here hx rfl (pc0 := 68) (pc' := 72) rfl (hb hby at_68) (by decide) (by decide) ?_
    show Steps p.tables e below (T3.setTop (mkF m 72 #[.val (.int p1), .val (.int p2), .val (.int (0 : Int32)), .val (.ref s_PREPARED), .val (.int (1 : Int32)), .val (.int (1 : Int32)), .unset, .unset] [(.int (1 : Int32))])) _
    refine XS.istore X3.here hx rfl (hb hby at_72) rfl (l' := #[.val (.int p1), .val (.int p2), .val (.int (0 : Int32)), .val (.ref s_PREPARED), .val (.int (1 : Int32)), .val (.int (1 : Int32)), .val (.int (1 : Int32)), .unset]) rfl ?_
    show Steps p.tables e below (T3.setTop (mkF m 74 #[.val (.int p1), .val (.int p2), .val (.int (0 : Int32)), .val (.ref s_PREPARED), .val (.int (1 : Int32)), .val (.int (1 : Int32)), .val (.int (1 : Int32)), .unset] [])) _
    refine XS.iload X3.here hx rfl (hb hby at_74) rfl ?_
    show Steps p.tables e below (T3.setTop (mkF m 76 #[.val (.int p1), .val (.int p2), .val (.int (0 : Int32)), .val (.ref s_PREPARED), .val (.int (1 : Int32)), .val (.int (1 : Int32)), .val (.int (1 : Int32)), .unset] [(.int (1 : Int32))])) _
    refine XS.iload X3.here hx rfl (hb hby at_76) rfl ?_
    show Steps p.tables e below (T3.setTop (mkF m 78 #[.val (.int p1), .val (.int p2), .val (.int (0 : Int32)), .val (.ref s_PREPARED), .val (.int (1 : Int32)), .val (.int (1 : Int32)), .val (.int (1 : Int32)), .unset] [(.int (1 : Int32)), (.int (1 : Int32))])) _
    refine XS.icmpYes X3.here hx rfl (pc0 := 78) (pc' := 83) rfl (hb hby at_78) rfl (teq (by decide : (1 : Int32) = (1 : Int32))).1 (by decide) (by decide) ?_
    show Steps p.tables e below (T3.setTop (mkF m 83 #[.val (.int p1), .val (.int p2), .val (.int (0 : Int32)), .val (.ref s_PREPARED), .val (.int (1 : Int32)), .val (.int (1 : Int32)), .val (.int (1 : Int32)), .unset] [])) _
    refine XS.iload X3.here hx rfl (hb hby at_83) rfl ?_
    show Steps p.tables e below (T3.setTop (mkF m 85 #[.val (.int p1), .val (.int p2), .val (.int (0 : Int32)), .val (.ref s_PREPARED), .val (.int (1 : Int32)), .val (.int (1 : Int32)), .val (.int (1 : Int32)), .unset] [(.int (1 : Int32))])) _
    refine XS.ifNo X3.here hx rfl (hb hby at_85) rfl ((if0 _ _).trans (feq (by decide : ¬ ((1 : Int32) = (0 : Int32)))).1) ?_
    show Steps p.tables e below (T3.setTop (mkF m 88 #[.val (.int p1), .val (.int p2), .val (.int (0 : Int32)), .val (.ref s_PREPARED), .val (.int (1 : Int32)), .val (.int (1 : Int32)), .val (.int (1 : Int32)), .unset] [])) _
    refine XS.iloadN X3.here hx rfl (hb hby at_88) rfl ?_
    show Steps p.tables e below (T3.setTop (mkF m 89 #[.val (.int p1), .val (.int p2), .val (.int (0 : Int32)), .val (.ref s_PREPARED), .val (.int (1 : Int32)), .val (.int (1 : Int32)), .val (.int (1 : Int32)), .unset] [(.int p2)])) _
    refine XS.iconst X3.here hx rfl (hb hby at_89) ?_
    show Steps p.tables e below (T3.setTop (mkF m 90 #[.val (.int p1), .val (.int p2), .val (.int (0 : Int32)), .val (.ref s_PREPARED), .val (.int (1 : Int32)), .val (.int (1 : Int32)), .val (.int (1 : Int32)), .unset] [(.int (1 : Int32)), (.int p2)])) _
    refine XS.iand X3.here hx rfl (hb hby at_90) rfl ?_
    show Steps p.tables e below (T3.setTop (mkF m 91 #[.val (.int p1), .val (.int p2), .val (.int (0 : Int32)), .val (.ref s_PREPARED), .val (.int (1 : Int32)), .val (.int (1 : Int32)), .val (.int (1 : Int32)), .unset] [(.int (p2 &&& (1 : Int32)))])) _
    rw [hf]
    show Steps p.tables e below (T3.setTop (mkF m 91 #[.val (.int p1), .val (.int p2), .val (.int (0 : Int32)), .val (.ref s_PREPARED), .val (.int (1 : Int32)), .val (.int (1 : Int32)), .val (.int (1 : Int32)), .unset] [(.int (0 : Int32))])) _
    refine XS.ifYes X3.here hx rfl (pc0 := 91) (pc' := 100) rfl (hb hby at_91) rfl ((if0 _ _).trans (teq (by decide : (0 : Int32) = (0 : Int32))).1) (by decide) (by decide) ?_
    show Steps p.tables e below (T3.setTop (mkF m 100 #[.val (.int p1), .val (.int p2), .val (.int (0 : Int32)), .val (.ref s_PREPARED), .val (.int (1 : Int32)), .val (.int (1 : Int32)), .val (.int (1 : Int32)), .unset] [])) _
    refine st4 _ ?_
    show Steps p.tables e below (T4.setTop (mkF m 103 #[.val (.int p1), .val (.int p2), .val (.int (0 : Int32)), .val (.ref s_PREPARED), .val (.int (1 : Int32)), .val (.int (1 : Int32)), .val (.int (1 : Int32)), .unset] [(.ref s_Outcome_ABORTED)])) _
    refine XS.astore X4.here hx rfl (hb hby at_103) rfl rfl (l' := #[.val (.int p1), .val (.int p2), .val (.int (0 : Int32)), .val (.ref s_PREPARED), .val (.int (1 : Int32)), .val (.int (1 : Int32)), .val (.int (1 : Int32)), .val (.ref s_Outcome_ABORTED)]) rfl ?_
    show Steps p.tables e below (T4.setTop (mkF m 105 #[.val (.int p1), .val (.int p2), .val (.int (0 : Int32)), .val (.ref s_PREPARED), .val (.int (1 : Int32)), .val (.int (1 : Int32)), .val (.int (1 : Int32)), .val (.ref s_Outcome_ABORTED)] [])) _
    refine XS.aloadN X4.here hx rfl (hb hby at_105) rfl rfl ?_
    show Steps p.tables e below (T4.setTop (mkF m 106 #[.val (.int p1), .val (.int p2), .val (.int (0 : Int32)), .val (.ref s_PREPARED), .val (.int (1 : Int32)), .val (.int (1 : Int32)), .val (.int (1 : Int32)), .val (.ref s_Outcome_ABORTED)] [(.ref s_PREPARED)])) _
    refine XS.aload X4.here hx rfl (hb hby at_106) rfl rfl ?_
    show Steps p.tables e below (T4.setTop (mkF m 108 #[.val (.int p1), .val (.int p2), .val (.int (0 : Int32)), .val (.ref s_PREPARED), .val (.int (1 : Int32)), .val (.int (1 : Int32)), .val (.int (1 : Int32)), .val (.ref s_Outcome_ABORTED)] [(.ref s_Outcome_ABORTED), (.ref s_PREPARED)])) _
    refine st5.trans ?_
    show Steps p.tables e below (T5.setTop (mkF m 111 #[.val (.int p1), .val (.int p2), .val (.int (0 : Int32)), .val (.ref s_PREPARED), .val (.int (1 : Int32)), .val (.int (1 : Int32)), .val (.int (1 : Int32)), .val (.ref s_Outcome_ABORTED)] [(.ref s_Joined_State_ABORTED)])) _
    refine st6.trans ?_
    show Steps p.tables e below (T6.setTop (mkF m 114 #[.val (.int p1), .val (.int p2), .val (.int (0 : Int32)), .val (.ref s_PREPARED), .val (.int (1 : Int32)), .val (.int (1 : Int32)), .val (.int (1 : Int32)), .val (.ref s_Outcome_ABORTED)] [(.int (0 : Int32))])) _
    refine XS.ifYes X6.here hx rfl (pc0 := 114) (pc' := 119) rfl (hb hby at_114) rfl ((if0 _ _).trans (teq (by decide : (0 : Int32) = (0 : Int32))).1) (by decide) (by decide) ?_
    show Steps p.tables e below (T6.setTop (mkF m 119 #[.val (.int p1), .val (.int p2), .val (.int (0 : Int32)), .val (.ref s_PREPARED), .val (.int (1 : Int32)), .val (.int (1 : Int32)), .val (.int (1 : Int32)), .val (.ref s_Outcome_ABORTED)] [])) _
    refine XS.iconst X6.here hx rfl (hb hby at_119) ?_
    show Steps p.tables e below (T6.setTop (mkF m 120 #[.val (.int p1), .val (.int p2), .val (.int (0 : Int32)), .val (.ref s_PREPARED), .val (.int (1 : Int32)), .val (.int (1 : Int32)), .val (.int (1 : Int32)), .val (.ref s_Outcome_ABORTED)] [(.int (1 : Int32))])) _
    exact retN X6 hx (t := .boolean) Bd.returns (by simp) (hb hby at_120) hr
  · show own_Q (some (.int (1 : Int32))) h0 n0 _ T6.heap _
    rw [e6]
    exact ⟨rfl, N6, rfl⟩
set_option maxRecDepth 65536 in
set_option maxHeartbeats 40000000 in
theorem r_law_0_1 (l : Launch) (Z : State) (a0 : Array Value) (hw : ∀ d ∈ tables_1, d.before a0 Z = true) (ws : List Jvm.Cond) (s_PREPARED s_IN_DOUBT s_Outcome_COMMITTED s_HEURISTICALLY_ABORTED s_HEURISTICALLY_COMMITTED s_Joined_State_COMMITTED s_HEURISTIC_ABORT s_HEURISTIC_COMMIT s_COMMITTED_AGAINST_HEURISTIC s_HEURISTIC_MISMATCH s_COMMITTED_IN_ONE_PHASE s_TxnStatus_COMMITTED s_ABORTED_AGAINST_HEURISTIC s_Outcome_ABORTED s_PRE_ABORTED s_PRE_COMMITTED s_Joined_State_ABORTED s_TxnStatus_ABORTED : Addr) (h0 : Heap) (n0 : Nat) (Z0 : n0 ≤ h0.size) (G : own_Ctx Z h0 s_PREPARED s_IN_DOUBT s_Outcome_COMMITTED s_HEURISTICALLY_ABORTED s_HEURISTICALLY_COMMITTED s_Joined_State_COMMITTED s_HEURISTIC_ABORT s_HEURISTIC_COMMIT s_COMMITTED_AGAINST_HEURISTIC s_HEURISTIC_MISMATCH s_COMMITTED_IN_ONE_PHASE s_TxnStatus_COMMITTED s_ABORTED_AGAINST_HEURISTIC s_Outcome_ABORTED s_PRE_ABORTED s_PRE_COMMITTED s_Joined_State_ABORTED s_TxnStatus_ABORTED) (p1 p2 : Int32) (hk : (p1 &&& (2147483647 : Int32)) % (10 : Int32) = (0 : Int32)) (hf : p2 &&& (1 : Int32) = (1 : Int32)) :
    MetFree l x (head1 (Jvm.Cond.code x code maxLocals ret :: ws) room_1) (fun a U => a = #[(.int p1), (.int p2)] ∧ Z.Warmed39 U.vm ∧ U.heap = h0) (fun _ _ _ _ _ => True) (fun _ U o U' => ∃ v L, o = .returned v ∧ own_Q (some (.int (1 : Int32))) h0 n0 v U'.heap L ∧ FrameEnd U o U' L 0 0) := by
  have G0 := G
  obtain ⟨S_PREPARED, E_PREPARED, O_PREPARED, S_IN_DOUBT, E_IN_DOUBT, O_IN_DOUBT, S_Outcome_COMMITTED, E_Outcome_COMMITTED, O_Outcome_COMMITTED, S_HEURISTICALLY_ABORTED, E_HEURISTICALLY_ABORTED, O_HEURISTICALLY_ABORTED, S_HEURISTICALLY_COMMITTED, E_HEURISTICALLY_COMMITTED, O_HEURISTICALLY_COMMITTED, S_Joined_State_COMMITTED, E_Joined_State_COMMITTED, S_HEURISTIC_ABORT, E_HEURISTIC_ABORT, O_HEURISTIC_ABORT, S_HEURISTIC_COMMIT, E_HEURISTIC_COMMIT, O_HEURISTIC_COMMIT, S_COMMITTED_AGAINST_HEURISTIC, E_COMMITTED_AGAINST_HEURISTIC, S_HEURISTIC_MISMATCH, E_HEURISTIC_MISMATCH, O_HEURISTIC_MISMATCH, S_COMMITTED_IN_ONE_PHASE, E_COMMITTED_IN_ONE_PHASE, S_TxnStatus_COMMITTED, E_TxnStatus_COMMITTED, O_TxnStatus_COMMITTED, S_ABORTED_AGAINST_HEURISTIC, E_ABORTED_AGAINST_HEURISTIC, S_Outcome_ABORTED, E_Outcome_ABORTED, O_Outcome_ABORTED, S_PRE_ABORTED, E_PRE_ABORTED, O_PRE_ABORTED, S_PRE_COMMITTED, E_PRE_COMMITTED, O_PRE_COMMITTED, S_Joined_State_ABORTED, E_Joined_State_ABORTED, S_TxnStatus_ABORTED, E_TxnStatus_ABORTED, O_TxnStatus_ABORTED, F_decision_PREPARED, F_status_PREPARED, F_decision_Joined_State_COMMITTED, F_decision_HEURISTICALLY_ABORTED, F_status_HEURISTICALLY_ABORTED, F_decision_COMMITTED_AGAINST_HEURISTIC, F_status_COMMITTED_AGAINST_HEURISTIC, F_decision_COMMITTED_IN_ONE_PHASE, F_status_COMMITTED_IN_ONE_PHASE, F_decision_ABORTED_AGAINST_HEURISTIC, F_status_ABORTED_AGAINST_HEURISTIC, F_decision_PRE_ABORTED, F_status_PRE_ABORTED, F_decision_HEURISTICALLY_COMMITTED, F_status_HEURISTICALLY_COMMITTED, F_decision_PRE_COMMITTED, F_status_PRE_COMMITTED, F_decision_Joined_State_ABORTED, F_status_Joined_State_COMMITTED, F_status_Joined_State_ABORTED⟩ := G
  refine MetFree.of_bodySF (plainFor_of_name pn_1) hisR ?_
  intro p e s m args below meth c s₁ Bd hml0 hP hK
  obtain ⟨rfl, hZ, hh⟩ := hP
  have hx := Bd.exec
  have hby := Bd.bytes
  have hml : c.maxLocals = 8 := hml0
  have hown : s.vm.findClass "com/example/unanimity/unanimity/core/StateAwaitsDecisionPinLaw" = some m.cls := findClass_of_methodNamed Bd.named
  have hnm := (name_of_methodNamed Bd.named Bd.method).1
  have X0 : Stand p l e room_1 s m #[(.int p1), (.int p2)] below meth c s₁ [] 0 0 := Stand.of_body Bd
  have e0 : s₁.heap = h0 := by rw [← hh, Bd.state]; rfl
  have N0 := Fr.nil n0
  have pre0 : ∀ t, Steps p.tables e below (s₁.setTop (mkF m 0 #[.val (.int p1), .val (.int p2), .unset, .unset, .unset, .unset, .unset, .unset] [])) t → Steps p.tables e below (s₁.setTop (entryFrame m #[(.int p1), (.int p2)] maxLocals)) t := fun t k => castTop (ef_0_5 m p1 p2) k
  obtain ⟨_, _, ⟨T1, L1, k1, n1⟩, -, X1, ⟨Lc1, hQ1, l1, y1, z1⟩, st1⟩ := Jvm.LawKit.callS X0 hx (y := (⟨"com/example/unanimity/unanimity/core/StateAwaitsDecisionPinLaw", "pick", "(I)Lcom/example/unanimity/unanimity/core/Joined$State;"⟩ : MethodName)) hown (mvT hZ (hw _ (List.mem_of_getElem? (i := 1) rfl))) (mvT hZ (hw _ (List.mem_of_getElem? (i := 2) rfl))) (mvT hZ (hw _ (List.mem_of_getElem? (i := 3) rfl))) (mvT hZ (hw _ (List.mem_of_getElem? (i := 4) rfl))) (by decide) (backOf (W := 0) (r_pick_0 l Z a0 hw [] s_PREPARED s_IN_DOUBT s_Outcome_COMMITTED s_HEURISTICALLY_ABORTED s_HEURISTICALLY_COMMITTED s_Joined_State_COMMITTED s_HEURISTIC_ABORT s_HEURISTIC_COMMIT s_COMMITTED_AGAINST_HEURISTIC s_HEURISTIC_MISMATCH s_COMMITTED_IN_ONE_PHASE s_TxnStatus_COMMITTED s_ABORTED_AGAINST_HEURISTIC s_Outcome_ABORTED s_PRE_ABORTED s_PRE_COMMITTED s_Joined_State_ABORTED s_TxnStatus_ABORTED h0 n0 Z0 G0) hZ (hw _ (List.mem_of_getElem? (i := 4) rfl)) (hw _ (List.mem_of_getElem? (i := 3) rfl)) (by decide) (by decide)) (g := (mkF m 9 #[.val (.int p1), .val (.int p2), .val (.int (0 : Int32)), .unset, .unset, .unset, .unset, .unset] [(.int (0 : Int32))])) rfl (by rw [hml]; rfl) (argsL := [(.int (0 : Int32))]) (rest := []) (lenOf pd_1 rfl) rfl (by show 2 * 0 + _ ≤ _; exact Nat.le_of_eq rfl) (hb hby at_9) (fun _ _ => ⟨rfl, e0, (by decide : 0 + 0 ≤ _), (by decide : 0 + 0 ≤ _)⟩)
  dsimp only [Pt.U, Pt.locs, Pt.cells, Pt.slots] at X1 l1 y1 z1 st1 hQ1
  subst l1 y1 z1
  obtain ⟨rfl, N1q, e1⟩ := hQ1
  have N1 := Fr.app N0 N1q
  obtain ⟨cq2, kq2, q2a, q2b, q2c⟩ := isOf hZ e1 E_PREPARED
  obtain ⟨_, _, ⟨T2, L2, k2, n2⟩, -, X2, ⟨Lc2, hQ2, l2, y2, z2⟩, st2⟩ := X1.virtualBack hx (y := (⟨"com/example/unanimity/unanimity/core/Joined$State", "awaitsDecision", "()Z"⟩ : MethodName)) (z := (⟨"com/example/unanimity/unanimity/core/Joined$State", "awaitsDecision", "()Z"⟩ : MethodName)) hown (mvT hZ (hw _ (List.mem_of_getElem? (i := 8) rfl))) (mvT hZ (hw _ (List.mem_of_getElem? (i := 9) rfl))) (notFace_of_selects (args := #[]) (mvT hZ (hw _ (List.mem_of_getElem? (i := 11) rfl)))) (mvT hZ (hw _ (List.mem_of_getElem? (i := 11) rfl))) (mvT hZ (hw _ (List.mem_of_getElem? (i := 10) rfl))) (by decide) (backOf (W := 0) (r_aw_0 l Z a0 hw [] s_PREPARED s_IN_DOUBT s_Outcome_COMMITTED s_HEURISTICALLY_ABORTED s_HEURISTICALLY_COMMITTED s_Joined_State_COMMITTED s_HEURISTIC_ABORT s_HEURISTIC_COMMIT s_COMMITTED_AGAINST_HEURISTIC s_HEURISTIC_MISMATCH s_COMMITTED_IN_ONE_PHASE s_TxnStatus_COMMITTED s_ABORTED_AGAINST_HEURISTIC s_Outcome_ABORTED s_PRE_ABORTED s_PRE_COMMITTED s_Joined_State_ABORTED s_TxnStatus_ABORTED h0 n0 Z0 G0) hZ (hw _ (List.mem_of_getElem? (i := 12) rfl)) (hw _ (List.mem_of_getElem? (i := 6) rfl)) (by decide) (by decide)) q2a q2c (g := (mkF m 26 #[.val (.int p1), .val (.int p2), .val (.int (0 : Int32)), .val (.ref s_PREPARED), .val (.int (1 : Int32)), .unset, .unset, .unset] [(.ref s_PREPARED)])) rfl (by rw [hml]; rfl) (Steps.refl _) (argsL := []) (rest := []) (lenOf pd_2 rfl) rfl (by show 2 * 0 + _ ≤ _; exact Nat.le_of_eq rfl) (hb hby at_26) (fun _ _ => ⟨rfl, e1, (by decide : 0 + 0 ≤ _), (by decide : 0 + 0 ≤ _)⟩)
  dsimp only [Pt.U, Pt.locs, Pt.cells, Pt.slots] at X2 l2 y2 z2 st2 hQ2
  subst l2 y2 z2
  obtain ⟨rfl, N2q, e2⟩ := hQ2
  have N2 := Fr.app N1 N2q
  obtain ⟨cq3, kq3, q3a, q3b, q3c⟩ := isOf hZ e2 E_PREPARED
  obtain ⟨_, _, ⟨T3, L3, k3, n3⟩, -, X3, ⟨Lc3, hQ3, l3, y3, z3⟩, st3⟩ := X2.virtualBack hx (y := (⟨"com/example/unanimity/unanimity/core/Joined$State", "inDoubt", "()Z"⟩ : MethodName)) (z := (⟨"com/example/unanimity/unanimity/core/Joined$State", "inDoubt", "()Z"⟩ : MethodName)) hown (mvT hZ (hw _ (List.mem_of_getElem? (i := 15) rfl))) (mvT hZ (hw _ (List.mem_of_getElem? (i := 16) rfl))) (notFace_of_selects (args := #[]) (mvT hZ (hw _ (List.mem_of_getElem? (i := 18) rfl)))) (mvT hZ (hw _ (List.mem_of_getElem? (i := 18) rfl))) (mvT hZ (hw _ (List.mem_of_getElem? (i := 17) rfl))) (by decide) (backOf (W := 0) (r_in_0 l Z a0 hw [] s_PREPARED s_IN_DOUBT s_Outcome_COMMITTED s_HEURISTICALLY_ABORTED s_HEURISTICALLY_COMMITTED s_Joined_State_COMMITTED s_HEURISTIC_ABORT s_HEURISTIC_COMMIT s_COMMITTED_AGAINST_HEURISTIC s_HEURISTIC_MISMATCH s_COMMITTED_IN_ONE_PHASE s_TxnStatus_COMMITTED s_ABORTED_AGAINST_HEURISTIC s_Outcome_ABORTED s_PRE_ABORTED s_PRE_COMMITTED s_Joined_State_ABORTED s_TxnStatus_ABORTED h0 n0 Z0 G0) hZ (hw _ (List.mem_of_getElem? (i := 19) rfl)) (hw _ (List.mem_of_getElem? (i := 6) rfl)) (by decide) (by decide)) q3a q3c (g := (mkF m 41 #[.val (.int p1), .val (.int p2), .val (.int (0 : Int32)), .val (.ref s_PREPARED), .val (.int (1 : Int32)), .val (.int (1 : Int32)), .unset, .unset] [(.ref s_PREPARED)])) rfl (by rw [hml]; rfl) (Steps.refl _) (argsL := []) (rest := []) (lenOf pd_2 rfl) rfl (by show 2 * 0 + _ ≤ _; exact Nat.le_of_eq rfl) (hb hby at_41) (fun _ _ => ⟨rfl, e2, (by decide : 0 + 0 ≤ _), (by decide : 0 + 0 ≤ _)⟩)
  dsimp only [Pt.U, Pt.locs, Pt.cells, Pt.slots] at X3 l3 y3 z3 st3 hQ3
  subst l3 y3 z3
  obtain ⟨rfl, N3q, e3⟩ := hQ3
  have N3 := Fr.app N2 N3q
  obtain ⟨T4, X4, e4, st4⟩ := getS2 X3 hx hZ hown (host := "") (Or.inl (hw _ (List.mem_of_getElem? (i := 25) rfl))) Via.refl e3 S_Outcome_COMMITTED (g := (mkF m 94 #[.val (.int p1), .val (.int p2), .val (.int (0 : Int32)), .val (.ref s_PREPARED), .val (.int (1 : Int32)), .val (.int (1 : Int32)), .val (.int (1 : Int32)), .unset] [])) rfl (hb hby at_94)
  obtain ⟨cq5, kq5, q5a, q5b, q5c⟩ := isOf hZ e4 E_PREPARED
  obtain ⟨_, _, ⟨T5, L5, k5, n5⟩, -, X5, ⟨Lc5, hQ5, l5, y5, z5⟩, st5⟩ := X4.virtualBack hx (y := (⟨"com/example/unanimity/unanimity/core/Joined$State", "after", "(Lcom/example/unanimity/unanimity/core/Outcome;)Lcom/example/unanimity/unanimity/core/Joined$State;"⟩ : MethodName)) (z := (⟨"com/example/unanimity/unanimity/core/Joined$State", "after", "(Lcom/example/unanimity/unanimity/core/Outcome;)Lcom/example/unanimity/unanimity/core/Joined$State;"⟩ : MethodName)) hown (mvT hZ (hw _ (List.mem_of_getElem? (i := 28) rfl))) (mvT hZ (hw _ (List.mem_of_getElem? (i := 29) rfl))) (notFace_of_selects (args := #[]) (mvT hZ (hw _ (List.mem_of_getElem? (i := 31) rfl)))) (mvT hZ (hw _ (List.mem_of_getElem? (i := 31) rfl))) (mvT hZ (hw _ (List.mem_of_getElem? (i := 30) rfl))) (by decide) (backOf (W := 0) (r_after_0_Outcome_COMMITTED l Z a0 hw [] s_PREPARED s_IN_DOUBT s_Outcome_COMMITTED s_HEURISTICALLY_ABORTED s_HEURISTICALLY_COMMITTED s_Joined_State_COMMITTED s_HEURISTIC_ABORT s_HEURISTIC_COMMIT s_COMMITTED_AGAINST_HEURISTIC s_HEURISTIC_MISMATCH s_COMMITTED_IN_ONE_PHASE s_TxnStatus_COMMITTED s_ABORTED_AGAINST_HEURISTIC s_Outcome_ABORTED s_PRE_ABORTED s_PRE_COMMITTED s_Joined_State_ABORTED s_TxnStatus_ABORTED h0 n0 Z0 G0) hZ (hw _ (List.mem_of_getElem? (i := 32) rfl)) (hw _ (List.mem_of_getElem? (i := 6) rfl)) (by decide) (by decide)) q5a q5c (g := (mkF m 108 #[.val (.int p1), .val (.int p2), .val (.int (0 : Int32)), .val (.ref s_PREPARED), .val (.int (1 : Int32)), .val (.int (1 : Int32)), .val (.int (1 : Int32)), .val (.ref s_Outcome_COMMITTED)] [(.ref s_Outcome_COMMITTED), (.ref s_PREPARED)])) rfl (by rw [hml]; rfl) (Steps.refl _) (argsL := [(.ref s_Outcome_COMMITTED)]) (rest := []) (lenOf pd_0 rfl) rfl (by show 2 * 0 + _ ≤ _; exact Nat.le_of_eq rfl) (hb hby at_108) (fun _ _ => ⟨rfl, e4, (by decide : 0 + 0 ≤ _), (by decide : 0 + 0 ≤ _)⟩)
  dsimp only [Pt.U, Pt.locs, Pt.cells, Pt.slots] at X5 l5 y5 z5 st5 hQ5
  subst l5 y5 z5
  obtain ⟨rfl, N5q, e5⟩ := hQ5
  have N5 := Fr.app N3 N5q
  obtain ⟨cq6, kq6, q6a, q6b, q6c⟩ := isOf hZ e5 E_Joined_State_COMMITTED
  obtain ⟨_, _, ⟨T6, L6, k6, n6⟩, -, X6, ⟨Lc6, hQ6, l6, y6, z6⟩, st6⟩ := X5.virtualBack hx (y := (⟨"com/example/unanimity/unanimity/core/Joined$State", "awaitsDecision", "()Z"⟩ : MethodName)) (z := (⟨"com/example/unanimity/unanimity/core/Joined$State", "awaitsDecision", "()Z"⟩ : MethodName)) hown (mvT hZ (hw _ (List.mem_of_getElem? (i := 8) rfl))) (mvT hZ (hw _ (List.mem_of_getElem? (i := 9) rfl))) (notFace_of_selects (args := #[]) (mvT hZ (hw _ (List.mem_of_getElem? (i := 11) rfl)))) (mvT hZ (hw _ (List.mem_of_getElem? (i := 11) rfl))) (mvT hZ (hw _ (List.mem_of_getElem? (i := 10) rfl))) (by decide) (backOf (W := 0) (r_aw_5 l Z a0 hw [] s_PREPARED s_IN_DOUBT s_Outcome_COMMITTED s_HEURISTICALLY_ABORTED s_HEURISTICALLY_COMMITTED s_Joined_State_COMMITTED s_HEURISTIC_ABORT s_HEURISTIC_COMMIT s_COMMITTED_AGAINST_HEURISTIC s_HEURISTIC_MISMATCH s_COMMITTED_IN_ONE_PHASE s_TxnStatus_COMMITTED s_ABORTED_AGAINST_HEURISTIC s_Outcome_ABORTED s_PRE_ABORTED s_PRE_COMMITTED s_Joined_State_ABORTED s_TxnStatus_ABORTED h0 n0 Z0 G0) hZ (hw _ (List.mem_of_getElem? (i := 12) rfl)) (hw _ (List.mem_of_getElem? (i := 6) rfl)) (by decide) (by decide)) q6a q6c (g := (mkF m 111 #[.val (.int p1), .val (.int p2), .val (.int (0 : Int32)), .val (.ref s_PREPARED), .val (.int (1 : Int32)), .val (.int (1 : Int32)), .val (.int (1 : Int32)), .val (.ref s_Outcome_COMMITTED)] [(.ref s_Joined_State_COMMITTED)])) rfl (by rw [hml]; rfl) (Steps.refl _) (argsL := []) (rest := []) (lenOf pd_2 rfl) rfl (by show 2 * 0 + _ ≤ _; exact Nat.le_of_eq rfl) (hb hby at_111) (fun _ _ => ⟨rfl, e5, (by decide : 0 + 0 ≤ _), (by decide : 0 + 0 ≤ _)⟩)
  dsimp only [Pt.U, Pt.locs, Pt.cells, Pt.slots] at X6 l6 y6 z6 st6 hQ6
  subst l6 y6 z6
  obtain ⟨rfl, N6q, e6⟩ := hQ6
  have N6 := Fr.app N5 N6q
  obtain ⟨fs, hr, hrun, hended, hW, hsame⟩ := X6.leave (v := some (.int (1 : Int32))) (fun h => by rw [Bd.returns] at h; cases h)
  refine ⟨_, _, pre0 _ ?_, hrun, hended, _, _, rfl, ?_, ⟨_, rfl⟩, hW, hsame.mono (by decide) (by decide)⟩
  · show Steps p.tables e below (s₁.setTop (mkF m 0 #[.val (.int p1), .val (.int p2), .unset, .unset, .unset, .unset, .unset, .unset] [])) _
    refine XS.iloadN X0.here hx rfl (hb hby at_0) rfl ?_
    show Steps p.tables e below (s₁.setTop (mkF m 1 #[.val (.int p1), .val (.int p2), .unset, .unset, .unset, .unset, .unset, .unset] [(.int p1)])) _
    refine X0.ldcInt hx hown (mvT hZ (hw _ (List.mem_of_getElem? (i := 0) rfl))) (g := (mkF m 1 #[.val (.int p1), .val (.int p2), .unset, .unset, .unset, .unset, .unset, .unset] [(.int p1)])) rfl (hb hby at_1) _ ?_
    show Steps p.tables e below (s₁.setTop (mkF m 3 #[.val (.int p1), .val (.int p2), .unset, .unset, .unset, .unset, .unset, .unset] [(.int (2147483647 : Int32)), (.int p1)])) _
    refine XS.iand X0.here hx rfl (hb hby at_3) rfl ?_
    show Steps p.tables e below (s₁.setTop (mkF m 4 #[.val (.int p1), .val (.int p2), .unset, .unset, .unset, .unset, .unset, .unset] [(.int (p1 &&& (2147483647 : Int32)))])) _
    refine XS.bipush X0.here hx rfl (hb hby at_4) ?_
    show Steps p.tables e below (s₁.setTop (mkF m 6 #[.val (.int p1), .val (.int p2), .unset, .unset, .unset, .unset, .unset, .unset] [(.int (10 : Int32)), (.int (p1 &&& (2147483647 : Int32)))])) _
    refine iremM X0 hx rfl (hb hby at_6) rfl (by decide) ?_
    show Steps p.tables e below (s₁.setTop (mkF m 7 #[.val (.int p1), .val (.int p2), .unset, .unset, .unset, .unset, .unset, .unset] [(.int ((p1 &&& (2147483647 : Int32)) % (10 : Int32)))])) _
    rw [hk]
    show Steps p.tables e below (s₁.setTop (mkF m 7 #[.val (.int p1), .val (.int p2), .unset, .unset, .unset, .unset, .unset, .unset] [(.int (0 : Int32))])) _
    refine XS.istoreN X0.here hx rfl (hb hby at_7) rfl (l' := #[.val (.int p1), .val (.int p2), .val (.int (0 : Int32)), .unset, .unset, .unset, .unset, .unset]) rfl ?_
    show Steps p.tables e below (s₁.setTop (mkF m 8 #[.val (.int p1), .val (.int p2), .val (.int (0 : Int32)), .unset, .unset, .unset, .unset, .unset] [])) _
    refine XS.iloadN X0.here hx rfl (hb hby at_8) rfl ?_
    show Steps p.tables e below (s₁.setTop (mkF m 9 #[.val (.int p1), .val (.int p2), .val (.int (0 : Int32)), .unset, .unset, .unset, .unset, .unset] [(.int (0 : Int32))])) _
    refine st1 _ ?_
    show Steps p.tables e below (T1.setTop (mkF m 12 #[.val (.int p1), .val (.int p2), .val (.int (0 : Int32)), .unset, .unset, .unset, .unset, .unset] [(.ref s_PREPARED)])) _
    refine XS.astoreN X1.here hx rfl (hb hby at_12) rfl rfl (l' := #[.val (.int p1), .val (.int p2), .val (.int (0 : Int32)), .val (.ref s_PREPARED), .unset, .unset, .unset, .unset]) rfl ?_
    show Steps p.tables e below (T1.setTop (mkF m 13 #[.val (.int p1), .val (.int p2), .val (.int (0 : Int32)), .val (.ref s_PREPARED), .unset, .unset, .unset, .unset] [])) _
    refine XS.iloadN X1.here hx rfl (hb hby at_13) rfl ?_
    show Steps p.tables e below (T1.setTop (mkF m 14 #[.val (.int p1), .val (.int p2), .val (.int (0 : Int32)), .val (.ref s_PREPARED), .unset, .unset, .unset, .unset] [(.int (0 : Int32))])) _
    refine XS.iconst X1.here hx rfl (hb hby at_14) ?_
    show Steps p.tables e below (T1.setTop (mkF m 15 #[.val (.int p1), .val (.int p2), .val (.int (0 : Int32)), .val (.ref s_PREPARED), .unset, .unset, .unset, .unset] [(.int (5 : Int32)), (.int (0 : Int32))])) _
    refine XS.icmpNo X1.here hx rfl (hb hby at_15) rfl (tlt (by decide : (0 : Int32) < (5 : Int32))).2.1 ?_
    show Steps p.tables e below (T1.setTop (mkF m 18 #[.val (.int p1), .val (.int p2), .val (.int (0 : Int32)), .val (.ref s_PREPARED), .unset, .unset, .unset, .unset] [])) _
    refine XS.iconst X1.here hx rfl (hb hby at_18) ?_
    show Steps p.tables e below (T1.setTop (mkF m 19 #[.val (.int p1), .val (.int p2), .val (.int (0 : Int32)), .val (.ref s_PREPARED), .unset, .unset, .unset, .unset] [(.int (1 : Int32))])) _
    refine XS.goto X1.here hx rfl (pc0 := 19) (pc' := 23) rfl (hb hby at_19) (by decide) (by decide) ?_
    show Steps p.tables e below (T1.setTop (mkF m 23 #[.val (.int p1), .val (.int p2), .val (.int (0 : Int32)), .val (.ref s_PREPARED), .unset, .unset, .unset, .unset] [(.int (1 : Int32))])) _
    refine XS.istore X1.here hx rfl (hb hby at_23) rfl (l' := #[.val (.int p1), .val (.int p2), .val (.int (0 : Int32)), .val (.ref s_PREPARED), .val (.int (1 : Int32)), .unset, .unset, .unset]) rfl ?_
    show Steps p.tables e below (T1.setTop (mkF m 25 #[.val (.int p1), .val (.int p2), .val (.int (0 : Int32)), .val (.ref s_PREPARED), .val (.int (1 : Int32)), .unset, .unset, .unset] [])) _
    refine XS.aloadN X1.here hx rfl (hb hby at_25) rfl rfl ?_
    show Steps p.tables e below (T1.setTop (mkF m 26 #[.val (.int p1), .val (.int p2), .val (.int (0 : Int32)), .val (.ref s_PREPARED), .val (.int (1 : Int32)), .unset, .unset, .unset] [(.ref s_PREPARED)])) _
    refine st2.trans ?_
    show Steps p.tables e below (T2.setTop (mkF m 29 #[.val (.int p1), .val (.int p2), .val (.int (0 : Int32)), .val (.ref s_PREPARED), .val (.int (1 : Int32)), .unset, .unset, .unset] [(.int (1 : Int32))])) _
    refine XS.istore X2.here hx rfl (hb hby at_29) rfl (l' := #[.val (.int p1), .val (.int p2), .val (.int (0 : Int32)), .val (.ref s_PREPARED), .val (.int (1 : Int32)), .val (.int (1 : Int32)), .unset, .unset]) rfl ?_
    show Steps p.tables e below (T2.setTop (mkF m 31 #[.val (.int p1), .val (.int p2), .val (.int (0 : Int32)), .val (.ref s_PREPARED), .val (.int (1 : Int32)), .val (.int (1 : Int32)), .unset, .unset] [])) _
    refine XS.iload X2.here hx rfl (hb hby at_31) rfl ?_
    show Steps p.tables e below (T2.setTop (mkF m 33 #[.val (.int p1), .val (.int p2), .val (.int (0 : Int32)), .val (.ref s_PREPARED), .val (.int (1 : Int32)), .val (.int (1 : Int32)), .unset, .unset] [(.int (1 : Int32))])) _
    refine XS.iload X2.here hx rfl (hb hby at_33) rfl ?_
    show Steps p.tables e below (T2.setTop (mkF m 35 #[.val (.int p1), .val (.int p2), .val (.int (0 : Int32)), .val (.ref s_PREPARED), .val (.int (1 : Int32)), .val (.int (1 : Int32)), .unset, .unset] [(.int (1 : Int32)), (.int (1 : Int32))])) _
    refine XS.icmpYes X2.here hx rfl (pc0 := 35) (pc' := 40) rfl (hb hby at_35) rfl (teq (by decide : (1 : Int32) = (1 : Int32))).1 (by decide) (by decide) ?_
    show Steps p.tables e below (T2.setTop (mkF m 40 #[.val (.int p1), .val (.int p2), .val (.int (0 : Int32)), .val (.ref s_PREPARED), .val (.int (1 : Int32)), .val (.int (1 : Int32)), .unset, .unset] [])) _
    refine XS.aloadN X2.here hx rfl (hb hby at_40) rfl rfl ?_
    show Steps p.tables e below (T2.setTop (mkF m 41 #[.val (.int p1), .val (.int p2), .val (.int (0 : Int32)), .val (.ref s_PREPARED), .val (.int (1 : Int32)), .val (.int (1 : Int32)), .unset, .unset] [(.ref s_PREPARED)])) _
    refine st3.trans ?_
    show Steps p.tables e below (T3.setTop (mkF m 44 #[.val (.int p1), .val (.int p2), .val (.int (0 : Int32)), .val (.ref s_PREPARED), .val (.int (1 : Int32)), .val (.int (1 : Int32)), .unset, .unset] [(.int (1 : Int32))])) _
    refine XS.ifYes X3.here hx rfl (pc0 := 44) (pc' := 67) rfl (hb hby at_44) rfl ((if0 _ _).trans (feq (by decide : ¬ ((1 : Int32) = (0 : Int32)))).2) (by decide) (by decide) ?_
    show Steps p.tables e below (T3.setTop (mkF m 67 #[.val (.int p1), .val (.int p2), .val (.int (0 : Int32)), .val (.ref s_PREPARED), .val (.int (1 : Int32)), .val (.int (1 : Int32)), .unset, .unset] [])) _
    refine XS.iconst X3.here hx rfl (hb hby at_67) ?_
    show Steps p.tables e below (T3.setTop (mkF m 68 #[.val (.int p1), .val (.int p2), .val (.int (0 : Int32)), .val (.ref s_PREPARED), .val (.int (1 : Int32)), .val (.int (1 : Int32)), .unset, .unset] [(.int (1 : Int32))])) _
    refine XS.goto X3.here hx rfl (pc0 := 68) (pc' := 72) rfl (hb hby at_68) (by decide) (by decide) ?_
    show Steps p.tables e below (T3.setTop (mkF m 72 #[.val (.int p1), .val (.int p2), .val (.int (0 : Int32)), .val (.ref s_PREPARED), .val (.int (1 : Int32)), .val (.int (1 : Int32)), .unset, .unset] [(.int (1 : Int32))])) _
    refine XS.istore X3.here hx rfl (hb hby at_72) rfl (l' := #[.val (.int p1), .val (.int p2), .val (.int (0 : Int32)), .val (.ref s_PREPARED), .val (.int (1 : Int32)), .val (.int (1 : Int32)), .val (.int (1 : Int32)), .unset]) rfl ?_
    show Steps p.tables e below (T3.setTop (mkF m 74 #[.val (.int p1), .val (.int p2), .val (.int (0 : Int32)), .val (.ref s_PREPARED), .val (.int (1 : Int32)), .val (.int (1 : Int32)), .val (.int (1 : Int32)), .unset] [])) _
    refine XS.iload X3.here hx rfl (hb hby at_74) rfl ?_
    show Steps p.tables e below (T3.setTop (mkF m 76 #[.val (.int p1), .val (.int p2), .val (.int (0 : Int32)), .val (.ref s_PREPARED), .val (.int (1 : Int32)), .val (.int (1 : Int32)), .val (.int (1 : Int32)), .unset] [(.int (1 : Int32))])) _
    refine XS.iload X3.here hx rfl (hb hby at_76) rfl ?_
    show Steps p.tables e below (T3.setTop (mkF m 78 #[.val (.int p1), .val (.int p2), .val (.int (0 : Int32)), .val (.ref s_PREPARED), .val (.int (1 : Int32)), .val (.int (1 : Int32)), .val (.int (1 : Int32)), .unset] [(.int (1 : Int32)), (.int (1 : Int32))])) _
    refine XS.icmpYes X3.here hx rfl (pc0 := 78) (pc' := 83) rfl (hb hby at_78) rfl (teq (by decide : (1 : Int32) = (1 : Int32))).1 (by decide) (by decide) ?_
    show Steps p.tables e below (T3.setTop (mkF m 83 #[.val (.int p1), .val (.int p2), .val (.int (0 : Int32)), .val (.ref s_PREPARED), .val (.int (1 : Int32)), .val (.int (1 : Int32)), .val (.int (1 : Int32)), .unset] [])) _
    refine XS.iload X3.here hx rfl (hb hby at_83) rfl ?_
    show Steps p.tables e below (T3.setTop (mkF m 85 #[.val (.int p1), .val (.int p2), .val (.int (0 : Int32)), .val (.ref s_PREPARED), .val (.int (1 : Int32)), .val (.int (1 : Int32)), .val (.int (1 : Int32)), .unset] [(.int (1 : Int32))])) _
    refine XS.ifNo X3.here hx rfl (hb hby at_85) rfl ((if0 _ _).trans (feq (by decide : ¬ ((1 : Int32) = (0 : Int32)))).1) ?_
    show Steps p.tables e below (T3.setTop (mkF m 88 #[.val (.int p1), .val (.int p2), .val (.int (0 : Int32)), .val (.ref s_PREPARED), .val (.int (1 : Int32)), .val (.int (1 : Int32)), .val (.int (1 : Int32)), .unset] [])) _
    refine XS.iloadN X3.here hx rfl (hb hby at_88) rfl ?_
    show Steps p.tables e below (T3.setTop (mkF m 89 #[.val (.int p1), .val (.int p2), .val (.int (0 : Int32)), .val (.ref s_PREPARED), .val (.int (1 : Int32)), .val (.int (1 : Int32)), .val (.int (1 : Int32)), .unset] [(.int p2)])) _
    refine XS.iconst X3.here hx rfl (hb hby at_89) ?_
    show Steps p.tables e below (T3.setTop (mkF m 90 #[.val (.int p1), .val (.int p2), .val (.int (0 : Int32)), .val (.ref s_PREPARED), .val (.int (1 : Int32)), .val (.int (1 : Int32)), .val (.int (1 : Int32)), .unset] [(.int (1 : Int32)), (.int p2)])) _
    refine XS.iand X3.here hx rfl (hb hby at_90) rfl ?_
    show Steps p.tables e below (T3.setTop (mkF m 91 #[.val (.int p1), .val (.int p2), .val (.int (0 : Int32)), .val (.ref s_PREPARED), .val (.int (1 : Int32)), .val (.int (1 : Int32)), .val (.int (1 : Int32)), .unset] [(.int (p2 &&& (1 : Int32)))])) _
    rw [hf]
    show Steps p.tables e below (T3.setTop (mkF m 91 #[.val (.int p1), .val (.int p2), .val (.int (0 : Int32)), .val (.ref s_PREPARED), .val (.int (1 : Int32)), .val (.int (1 : Int32)), .val (.int (1 : Int32)), .unset] [(.int (1 : Int32))])) _
    refine XS.ifNo X3.here hx rfl (hb hby at_91) rfl ((if0 _ _).trans (feq (by decide : ¬ ((1 : Int32) = (0 : Int32)))).1) ?_
    show Steps p.tables e below (T3.setTop (mkF m 94 #[.val (.int p1), .val (.int p2), .val (.int (0 : Int32)), .val (.ref s_PREPARED), .val (.int (1 : Int32)), .val (.int (1 : Int32)), .val (.int (1 : Int32)), .unset] [])) _
    refine st4 _ ?_
    show Steps p.tables e below (T4.setTop (mkF m 97 #[.val (.int p1), .val (.int p2), .val (.int (0 : Int32)), .val (.ref s_PREPARED), .val (.int (1 : Int32)), .val (.int (1 : Int32)), .val (.int (1 : Int32)), .unset] [(.ref s_Outcome_COMMITTED)])) _
    refine XS.goto X4.here hx rfl (pc0 := 97) (pc' := 103) rfl (hb hby at_97) (by decide) (by decide) ?_
    show Steps p.tables e below (T4.setTop (mkF m 103 #[.val (.int p1), .val (.int p2), .val (.int (0 : Int32)), .val (.ref s_PREPARED), .val (.int (1 : Int32)), .val (.int (1 : Int32)), .val (.int (1 : Int32)), .unset] [(.ref s_Outcome_COMMITTED)])) _
    refine XS.astore X4.here hx rfl (hb hby at_103) rfl rfl (l' := #[.val (.int p1), .val (.int p2), .val (.int (0 : Int32)), .val (.ref s_PREPARED), .val (.int (1 : Int32)), .val (.int (1 : Int32)), .val (.int (1 : Int32)), .val (.ref s_Outcome_COMMITTED)]) rfl ?_
    show Steps p.tables e below (T4.setTop (mkF m 105 #[.val (.int p1), .val (.int p2), .val (.int (0 : Int32)), .val (.ref s_PREPARED), .val (.int (1 : Int32)), .val (.int (1 : Int32)), .val (.int (1 : Int32)), .val (.ref s_Outcome_COMMITTED)] [])) _
    refine XS.aloadN X4.here hx rfl (hb hby at_105) rfl rfl ?_
    show Steps p.tables e below (T4.setTop (mkF m 106 #[.val (.int p1), .val (.int p2), .val (.int (0 : Int32)), .val (.ref s_PREPARED), .val (.int (1 : Int32)), .val (.int (1 : Int32)), .val (.int (1 : Int32)), .val (.ref s_Outcome_COMMITTED)] [(.ref s_PREPARED)])) _
    refine XS.aload X4.here hx rfl (hb hby at_106) rfl rfl ?_
    show Steps p.tables e below (T4.setTop (mkF m 108 #[.val (.int p1), .val (.int p2), .val (.int (0 : Int32)), .val (.ref s_PREPARED), .val (.int (1 : Int32)), .val (.int (1 : Int32)), .val (.int (1 : Int32)), .val (.ref s_Outcome_COMMITTED)] [(.ref s_Outcome_COMMITTED), (.ref s_PREPARED)])) _
    refine st5.trans ?_
    show Steps p.tables e below (T5.setTop (mkF m 111 #[.val (.int p1), .val (.int p2), .val (.int (0 : Int32)), .val (.ref s_PREPARED), .val (.int (1 : Int32)), .val (.int (1 : Int32)), .val (.int (1 : Int32)), .val (.ref s_Outcome_COMMITTED)] [(.ref s_Joined_State_COMMITTED)])) _
    refine st6.trans ?_
    show Steps p.tables e below (T6.setTop (mkF m 114 #[.val (.int p1), .val (.int p2), .val (.int (0 : Int32)), .val (.ref s_PREPARED), .val (.int (1 : Int32)), .val (.int (1 : Int32)), .val (.int (1 : Int32)), .val (.ref s_Outcome_COMMITTED)] [(.int (0 : Int32))])) _
    refine XS.ifYes X6.here hx rfl (pc0 := 114) (pc' := 119) rfl (hb hby at_114) rfl ((if0 _ _).trans (teq (by decide : (0 : Int32) = (0 : Int32))).1) (by decide) (by decide) ?_
    show Steps p.tables e below (T6.setTop (mkF m 119 #[.val (.int p1), .val (.int p2), .val (.int (0 : Int32)), .val (.ref s_PREPARED), .val (.int (1 : Int32)), .val (.int (1 : Int32)), .val (.int (1 : Int32)), .val (.ref s_Outcome_COMMITTED)] [])) _
    refine XS.iconst X6.here hx rfl (hb hby at_119) ?_
    show Steps p.tables e below (T6.setTop (mkF m 120 #[.val (.int p1), .val (.int p2), .val (.int (0 : Int32)), .val (.ref s_PREPARED), .val (.int (1 : Int32)), .val (.int (1 : Int32)), .val (.int (1 : Int32)), .val (.ref s_Outcome_COMMITTED)] [(.int (1 : Int32))])) _
    exact retN X6 hx (t := .boolean) Bd.returns (by simp) (hb hby at_120) hr
  · show own_Q (some (.int (1 : Int32))) h0 n0 _ T6.heap _
    rw [e6]
    exact ⟨rfl, N6, rfl⟩
theorem d1_8 : decode method_2_code 8 = .ok (.iload_n 0, 1) := by decide +kernel
theorem d1_9 : decode method_2_code 9 = .ok (.iconst 1, 1) := by decide +kernel
theorem d1_10 : decode method_2_code 10 = .ok (.if_icmp .ne 7, 3) := by decide +kernel
theorem d1_13 : decode method_2_code 13 = .ok (.getstatic 13, 3) := by decide +kernel
theorem d1_16 : decode method_2_code 16 = .ok (.areturn, 1) := by decide +kernel
set_option maxRecDepth 65536 in
set_option maxHeartbeats 40000000 in
theorem r_pick_1 (l : Launch) (Z : State) (a0 : Array Value) (hw : ∀ d ∈ tables_1, d.before a0 Z = true) (ws : List Jvm.Cond) (s_PREPARED s_IN_DOUBT s_Outcome_COMMITTED s_HEURISTICALLY_ABORTED s_HEURISTICALLY_COMMITTED s_Joined_State_COMMITTED s_HEURISTIC_ABORT s_HEURISTIC_COMMIT s_COMMITTED_AGAINST_HEURISTIC s_HEURISTIC_MISMATCH s_COMMITTED_IN_ONE_PHASE s_TxnStatus_COMMITTED s_ABORTED_AGAINST_HEURISTIC s_Outcome_ABORTED s_PRE_ABORTED s_PRE_COMMITTED s_Joined_State_ABORTED s_TxnStatus_ABORTED : Addr) (h0 : Heap) (n0 : Nat) (Z0 : n0 ≤ h0.size) (G : own_Ctx Z h0 s_PREPARED s_IN_DOUBT s_Outcome_COMMITTED s_HEURISTICALLY_ABORTED s_HEURISTICALLY_COMMITTED s_Joined_State_COMMITTED s_HEURISTIC_ABORT s_HEURISTIC_COMMIT s_COMMITTED_AGAINST_HEURISTIC s_HEURISTIC_MISMATCH s_COMMITTED_IN_ONE_PHASE s_TxnStatus_COMMITTED s_ABORTED_AGAINST_HEURISTIC s_Outcome_ABORTED s_PRE_ABORTED s_PRE_COMMITTED s_Joined_State_ABORTED s_TxnStatus_ABORTED)   :
    MetFree l (⟨"com/example/unanimity/unanimity/core/StateAwaitsDecisionPinLaw", "pick", "(I)Lcom/example/unanimity/unanimity/core/Joined$State;"⟩ : MethodName) (head1 (Jvm.Cond.code (⟨"com/example/unanimity/unanimity/core/StateAwaitsDecisionPinLaw", "pick", "(I)Lcom/example/unanimity/unanimity/core/Joined$State;"⟩ : MethodName) method_2_code 1 (some (.object "com/example/unanimity/unanimity/core/Joined$State")) :: ws) ({ frames := 0, cells := 0, slots := 0, locals := 0 } : Room)) (fun a U => a = #[(.int (1 : Int32))] ∧ Z.Warmed39 U.vm ∧ U.heap = h0) (fun _ _ _ _ _ => True) (fun _ U o U' => ∃ v L, o = .returned v ∧ own_Q (some (.ref s_PRE_COMMITTED)) h0 n0 v U'.heap L ∧ FrameEnd U o U' L ({ frames := 0, cells := 0, slots := 0, locals := 0 } : Room).cells ({ frames := 0, cells := 0, slots := 0, locals := 0 } : Room).slots) := by
  have G0 := G
  obtain ⟨S_PREPARED, E_PREPARED, O_PREPARED, S_IN_DOUBT, E_IN_DOUBT, O_IN_DOUBT, S_Outcome_COMMITTED, E_Outcome_COMMITTED, O_Outcome_COMMITTED, S_HEURISTICALLY_ABORTED, E_HEURISTICALLY_ABORTED, O_HEURISTICALLY_ABORTED, S_HEURISTICALLY_COMMITTED, E_HEURISTICALLY_COMMITTED, O_HEURISTICALLY_COMMITTED, S_Joined_State_COMMITTED, E_Joined_State_COMMITTED, S_HEURISTIC_ABORT, E_HEURISTIC_ABORT, O_HEURISTIC_ABORT, S_HEURISTIC_COMMIT, E_HEURISTIC_COMMIT, O_HEURISTIC_COMMIT, S_COMMITTED_AGAINST_HEURISTIC, E_COMMITTED_AGAINST_HEURISTIC, S_HEURISTIC_MISMATCH, E_HEURISTIC_MISMATCH, O_HEURISTIC_MISMATCH, S_COMMITTED_IN_ONE_PHASE, E_COMMITTED_IN_ONE_PHASE, S_TxnStatus_COMMITTED, E_TxnStatus_COMMITTED, O_TxnStatus_COMMITTED, S_ABORTED_AGAINST_HEURISTIC, E_ABORTED_AGAINST_HEURISTIC, S_Outcome_ABORTED, E_Outcome_ABORTED, O_Outcome_ABORTED, S_PRE_ABORTED, E_PRE_ABORTED, O_PRE_ABORTED, S_PRE_COMMITTED, E_PRE_COMMITTED, O_PRE_COMMITTED, S_Joined_State_ABORTED, E_Joined_State_ABORTED, S_TxnStatus_ABORTED, E_TxnStatus_ABORTED, O_TxnStatus_ABORTED, F_decision_PREPARED, F_status_PREPARED, F_decision_Joined_State_COMMITTED, F_decision_HEURISTICALLY_ABORTED, F_status_HEURISTICALLY_ABORTED, F_decision_COMMITTED_AGAINST_HEURISTIC, F_status_COMMITTED_AGAINST_HEURISTIC, F_decision_COMMITTED_IN_ONE_PHASE, F_status_COMMITTED_IN_ONE_PHASE, F_decision_ABORTED_AGAINST_HEURISTIC, F_status_ABORTED_AGAINST_HEURISTIC, F_decision_PRE_ABORTED, F_status_PRE_ABORTED, F_decision_HEURISTICALLY_COMMITTED, F_status_HEURISTICALLY_COMMITTED, F_decision_PRE_COMMITTED, F_status_PRE_COMMITTED, F_decision_Joined_State_ABORTED, F_status_Joined_State_COMMITTED, F_status_Joined_State_ABORTED⟩ := G
  refine MetFree.of_bodySF (plainFor_of_name pn_1) hisR ?_
  intro p e s m args below meth c s₁ Bd hml0 hP hK
  obtain ⟨rfl, hZ, hh⟩ := hP
  have hx := Bd.exec
  have hby := Bd.bytes
  have hml : c.maxLocals = 1 := hml0
  have hown : s.vm.findClass "com/example/unanimity/unanimity/core/StateAwaitsDecisionPinLaw" = some m.cls := findClass_of_methodNamed Bd.named
  have hnm := (name_of_methodNamed Bd.named Bd.method).1
  have X0 : Stand p l e ({ frames := 0, cells := 0, slots := 0, locals := 0 } : Room) s m #[(.int (1 : Int32))] below meth c s₁ [] 0 0 := Stand.of_body Bd
  have e0 : s₁.heap = h0 := by rw [← hh, Bd.state]; rfl
  have N0 := Fr.nil n0
  have pre0 : ∀ t, Steps p.tables e below (s₁.setTop (mkF m 0 #[.val (.int (1 : Int32))] [])) t → Steps p.tables e below (s₁.setTop (entryFrame m #[(.int (1 : Int32))] 1)) t := fun t k => castTop (ef_1_4 m (1 : Int32)) k
  obtain ⟨T1, X1, e1, st1⟩ := getS2 X0 hx hZ hown (host := "") (Or.inl (hw _ (List.mem_of_getElem? (i := 63) rfl))) Via.refl e0 S_PRE_COMMITTED (g := (mkF m 13 #[.val (.int (1 : Int32))] [])) rfl (hb hby d1_13)
  obtain ⟨fs, hr, hrun, hended, hW, hsame⟩ := X1.leave (v := some (.ref s_PRE_COMMITTED)) (fun h => by rw [Bd.returns] at h; cases h)
  refine ⟨_, _, pre0 _ ?_, hrun, hended, _, _, rfl, ?_, ⟨_, rfl⟩, hW, hsame.mono (by decide) (by decide)⟩
  · show Steps p.tables e below (s₁.setTop (mkF m 0 #[.val (.int (1 : Int32))] [])) _
    refine XS.iloadN X0.here hx rfl (hb hby d1_0) rfl ?_
    show Steps p.tables e below (s₁.setTop (mkF m 1 #[.val (.int (1 : Int32))] [(.int (1 : Int32))])) _
    refine XS.ifYes X0.here hx rfl (pc0 := 1) (pc' := 8) rfl (hb hby d1_1) rfl ((if0 _ _).trans (feq (by decide : ¬ ((1 : Int32) = (0 : Int32)))).2) (by decide) (by decide) ?_
    show Steps p.tables e below (s₁.setTop (mkF m 8 #[.val (.int (1 : Int32))] [])) _
    refine XS.iloadN X0.here hx rfl (hb hby d1_8) rfl ?_
    show Steps p.tables e below (s₁.setTop (mkF m 9 #[.val (.int (1 : Int32))] [(.int (1 : Int32))])) _
    refine XS.iconst X0.here hx rfl (hb hby d1_9) ?_
    show Steps p.tables e below (s₁.setTop (mkF m 10 #[.val (.int (1 : Int32))] [(.int (1 : Int32)), (.int (1 : Int32))])) _
    refine XS.icmpNo X0.here hx rfl (hb hby d1_10) rfl (teq (by decide : (1 : Int32) = (1 : Int32))).2 ?_
    show Steps p.tables e below (s₁.setTop (mkF m 13 #[.val (.int (1 : Int32))] [])) _
    refine st1 _ ?_
    show Steps p.tables e below (T1.setTop (mkF m 16 #[.val (.int (1 : Int32))] [(.ref s_PRE_COMMITTED)])) _
    exact retOut X1 hx Bd.returns rfl (Or.inr (Or.inr (Or.inr (Or.inr ⟨rfl, rfl, rfl⟩)))) (hb hby d1_16) hr
  · show own_Q (some (.ref s_PRE_COMMITTED)) h0 n0 _ T1.heap _
    rw [e1]
    exact ⟨rfl, N0, rfl⟩
set_option maxRecDepth 65536 in
set_option maxHeartbeats 40000000 in
theorem r_law_1_0 (l : Launch) (Z : State) (a0 : Array Value) (hw : ∀ d ∈ tables_1, d.before a0 Z = true) (ws : List Jvm.Cond) (s_PREPARED s_IN_DOUBT s_Outcome_COMMITTED s_HEURISTICALLY_ABORTED s_HEURISTICALLY_COMMITTED s_Joined_State_COMMITTED s_HEURISTIC_ABORT s_HEURISTIC_COMMIT s_COMMITTED_AGAINST_HEURISTIC s_HEURISTIC_MISMATCH s_COMMITTED_IN_ONE_PHASE s_TxnStatus_COMMITTED s_ABORTED_AGAINST_HEURISTIC s_Outcome_ABORTED s_PRE_ABORTED s_PRE_COMMITTED s_Joined_State_ABORTED s_TxnStatus_ABORTED : Addr) (h0 : Heap) (n0 : Nat) (Z0 : n0 ≤ h0.size) (G : own_Ctx Z h0 s_PREPARED s_IN_DOUBT s_Outcome_COMMITTED s_HEURISTICALLY_ABORTED s_HEURISTICALLY_COMMITTED s_Joined_State_COMMITTED s_HEURISTIC_ABORT s_HEURISTIC_COMMIT s_COMMITTED_AGAINST_HEURISTIC s_HEURISTIC_MISMATCH s_COMMITTED_IN_ONE_PHASE s_TxnStatus_COMMITTED s_ABORTED_AGAINST_HEURISTIC s_Outcome_ABORTED s_PRE_ABORTED s_PRE_COMMITTED s_Joined_State_ABORTED s_TxnStatus_ABORTED) (p1 p2 : Int32) (hk : (p1 &&& (2147483647 : Int32)) % (10 : Int32) = (1 : Int32)) (hf : p2 &&& (1 : Int32) = (0 : Int32)) :
    MetFree l x (head1 (Jvm.Cond.code x code maxLocals ret :: ws) room_1) (fun a U => a = #[(.int p1), (.int p2)] ∧ Z.Warmed39 U.vm ∧ U.heap = h0) (fun _ _ _ _ _ => True) (fun _ U o U' => ∃ v L, o = .returned v ∧ own_Q (some (.int (1 : Int32))) h0 n0 v U'.heap L ∧ FrameEnd U o U' L 0 0) := by
  have G0 := G
  obtain ⟨S_PREPARED, E_PREPARED, O_PREPARED, S_IN_DOUBT, E_IN_DOUBT, O_IN_DOUBT, S_Outcome_COMMITTED, E_Outcome_COMMITTED, O_Outcome_COMMITTED, S_HEURISTICALLY_ABORTED, E_HEURISTICALLY_ABORTED, O_HEURISTICALLY_ABORTED, S_HEURISTICALLY_COMMITTED, E_HEURISTICALLY_COMMITTED, O_HEURISTICALLY_COMMITTED, S_Joined_State_COMMITTED, E_Joined_State_COMMITTED, S_HEURISTIC_ABORT, E_HEURISTIC_ABORT, O_HEURISTIC_ABORT, S_HEURISTIC_COMMIT, E_HEURISTIC_COMMIT, O_HEURISTIC_COMMIT, S_COMMITTED_AGAINST_HEURISTIC, E_COMMITTED_AGAINST_HEURISTIC, S_HEURISTIC_MISMATCH, E_HEURISTIC_MISMATCH, O_HEURISTIC_MISMATCH, S_COMMITTED_IN_ONE_PHASE, E_COMMITTED_IN_ONE_PHASE, S_TxnStatus_COMMITTED, E_TxnStatus_COMMITTED, O_TxnStatus_COMMITTED, S_ABORTED_AGAINST_HEURISTIC, E_ABORTED_AGAINST_HEURISTIC, S_Outcome_ABORTED, E_Outcome_ABORTED, O_Outcome_ABORTED, S_PRE_ABORTED, E_PRE_ABORTED, O_PRE_ABORTED, S_PRE_COMMITTED, E_PRE_COMMITTED, O_PRE_COMMITTED, S_Joined_State_ABORTED, E_Joined_State_ABORTED, S_TxnStatus_ABORTED, E_TxnStatus_ABORTED, O_TxnStatus_ABORTED, F_decision_PREPARED, F_status_PREPARED, F_decision_Joined_State_COMMITTED, F_decision_HEURISTICALLY_ABORTED, F_status_HEURISTICALLY_ABORTED, F_decision_COMMITTED_AGAINST_HEURISTIC, F_status_COMMITTED_AGAINST_HEURISTIC, F_decision_COMMITTED_IN_ONE_PHASE, F_status_COMMITTED_IN_ONE_PHASE, F_decision_ABORTED_AGAINST_HEURISTIC, F_status_ABORTED_AGAINST_HEURISTIC, F_decision_PRE_ABORTED, F_status_PRE_ABORTED, F_decision_HEURISTICALLY_COMMITTED, F_status_HEURISTICALLY_COMMITTED, F_decision_PRE_COMMITTED, F_status_PRE_COMMITTED, F_decision_Joined_State_ABORTED, F_status_Joined_State_COMMITTED, F_status_Joined_State_ABORTED⟩ := G
  refine MetFree.of_bodySF (plainFor_of_name pn_1) hisR ?_
  intro p e s m args below meth c s₁ Bd hml0 hP hK
  obtain ⟨rfl, hZ, hh⟩ := hP
  have hx := Bd.exec
  have hby := Bd.bytes
  have hml : c.maxLocals = 8 := hml0
  have hown : s.vm.findClass "com/example/unanimity/unanimity/core/StateAwaitsDecisionPinLaw" = some m.cls := findClass_of_methodNamed Bd.named
  have hnm := (name_of_methodNamed Bd.named Bd.method).1
  have X0 : Stand p l e room_1 s m #[(.int p1), (.int p2)] below meth c s₁ [] 0 0 := Stand.of_body Bd
  have e0 : s₁.heap = h0 := by rw [← hh, Bd.state]; rfl
  have N0 := Fr.nil n0
  have pre0 : ∀ t, Steps p.tables e below (s₁.setTop (mkF m 0 #[.val (.int p1), .val (.int p2), .unset, .unset, .unset, .unset, .unset, .unset] [])) t → Steps p.tables e below (s₁.setTop (entryFrame m #[(.int p1), (.int p2)] maxLocals)) t := fun t k => castTop (ef_0_5 m p1 p2) k
  obtain ⟨_, _, ⟨T1, L1, k1, n1⟩, -, X1, ⟨Lc1, hQ1, l1, y1, z1⟩, st1⟩ := Jvm.LawKit.callS X0 hx (y := (⟨"com/example/unanimity/unanimity/core/StateAwaitsDecisionPinLaw", "pick", "(I)Lcom/example/unanimity/unanimity/core/Joined$State;"⟩ : MethodName)) hown (mvT hZ (hw _ (List.mem_of_getElem? (i := 1) rfl))) (mvT hZ (hw _ (List.mem_of_getElem? (i := 2) rfl))) (mvT hZ (hw _ (List.mem_of_getElem? (i := 3) rfl))) (mvT hZ (hw _ (List.mem_of_getElem? (i := 4) rfl))) (by decide) (backOf (W := 0) (r_pick_1 l Z a0 hw [] s_PREPARED s_IN_DOUBT s_Outcome_COMMITTED s_HEURISTICALLY_ABORTED s_HEURISTICALLY_COMMITTED s_Joined_State_COMMITTED s_HEURISTIC_ABORT s_HEURISTIC_COMMIT s_COMMITTED_AGAINST_HEURISTIC s_HEURISTIC_MISMATCH s_COMMITTED_IN_ONE_PHASE s_TxnStatus_COMMITTED s_ABORTED_AGAINST_HEURISTIC s_Outcome_ABORTED s_PRE_ABORTED s_PRE_COMMITTED s_Joined_State_ABORTED s_TxnStatus_ABORTED h0 n0 Z0 G0) hZ (hw _ (List.mem_of_getElem? (i := 4) rfl)) (hw _ (List.mem_of_getElem? (i := 3) rfl)) (by decide) (by decide)) (g := (mkF m 9 #[.val (.int p1), .val (.int p2), .val (.int (1 : Int32)), .unset, .unset, .unset, .unset, .unset] [(.int (1 : Int32))])) rfl (by rw [hml]; rfl) (argsL := [(.int (1 : Int32))]) (rest := []) (lenOf pd_1 rfl) rfl (by show 2 * 0 + _ ≤ _; exact Nat.le_of_eq rfl) (hb hby at_9) (fun _ _ => ⟨rfl, e0, (by decide : 0 + 0 ≤ _), (by decide : 0 + 0 ≤ _)⟩)
  dsimp only [Pt.U, Pt.locs, Pt.cells, Pt.slots] at X1 l1 y1 z1 st1 hQ1
  subst l1 y1 z1
  obtain ⟨rfl, N1q, e1⟩ := hQ1
  have N1 := Fr.app N0 N1q
  obtain ⟨cq2, kq2, q2a, q2b, q2c⟩ := isOf hZ e1 E_PRE_COMMITTED
  obtain ⟨_, _, ⟨T2, L2, k2, n2⟩, -, X2, ⟨Lc2, hQ2, l2, y2, z2⟩, st2⟩ := X1.virtualBack hx (y := (⟨"com/example/unanimity/unanimity/core/Joined$State", "awaitsDecision", "()Z"⟩ : MethodName)) (z := (⟨"com/example/unanimity/unanimity/core/Joined$State", "awaitsDecision", "()Z"⟩ : MethodName)) hown (mvT hZ (hw _ (List.mem_of_getElem? (i := 8) rfl))) (mvT hZ (hw _ (List.mem_of_getElem? (i := 9) rfl))) (notFace_of_selects (args := #[]) (mvT hZ (hw _ (List.mem_of_getElem? (i := 11) rfl)))) (mvT hZ (hw _ (List.mem_of_getElem? (i := 11) rfl))) (mvT hZ (hw _ (List.mem_of_getElem? (i := 10) rfl))) (by decide) (backOf (W := 0) (r_aw_1 l Z a0 hw [] s_PREPARED s_IN_DOUBT s_Outcome_COMMITTED s_HEURISTICALLY_ABORTED s_HEURISTICALLY_COMMITTED s_Joined_State_COMMITTED s_HEURISTIC_ABORT s_HEURISTIC_COMMIT s_COMMITTED_AGAINST_HEURISTIC s_HEURISTIC_MISMATCH s_COMMITTED_IN_ONE_PHASE s_TxnStatus_COMMITTED s_ABORTED_AGAINST_HEURISTIC s_Outcome_ABORTED s_PRE_ABORTED s_PRE_COMMITTED s_Joined_State_ABORTED s_TxnStatus_ABORTED h0 n0 Z0 G0) hZ (hw _ (List.mem_of_getElem? (i := 12) rfl)) (hw _ (List.mem_of_getElem? (i := 6) rfl)) (by decide) (by decide)) q2a q2c (g := (mkF m 26 #[.val (.int p1), .val (.int p2), .val (.int (1 : Int32)), .val (.ref s_PRE_COMMITTED), .val (.int (1 : Int32)), .unset, .unset, .unset] [(.ref s_PRE_COMMITTED)])) rfl (by rw [hml]; rfl) (Steps.refl _) (argsL := []) (rest := []) (lenOf pd_2 rfl) rfl (by show 2 * 0 + _ ≤ _; exact Nat.le_of_eq rfl) (hb hby at_26) (fun _ _ => ⟨rfl, e1, (by decide : 0 + 0 ≤ _), (by decide : 0 + 0 ≤ _)⟩)
  dsimp only [Pt.U, Pt.locs, Pt.cells, Pt.slots] at X2 l2 y2 z2 st2 hQ2
  subst l2 y2 z2
  obtain ⟨rfl, N2q, e2⟩ := hQ2
  have N2 := Fr.app N1 N2q
  obtain ⟨cq3, kq3, q3a, q3b, q3c⟩ := isOf hZ e2 E_PRE_COMMITTED
  obtain ⟨_, _, ⟨T3, L3, k3, n3⟩, -, X3, ⟨Lc3, hQ3, l3, y3, z3⟩, st3⟩ := X2.virtualBack hx (y := (⟨"com/example/unanimity/unanimity/core/Joined$State", "inDoubt", "()Z"⟩ : MethodName)) (z := (⟨"com/example/unanimity/unanimity/core/Joined$State", "inDoubt", "()Z"⟩ : MethodName)) hown (mvT hZ (hw _ (List.mem_of_getElem? (i := 15) rfl))) (mvT hZ (hw _ (List.mem_of_getElem? (i := 16) rfl))) (notFace_of_selects (args := #[]) (mvT hZ (hw _ (List.mem_of_getElem? (i := 18) rfl)))) (mvT hZ (hw _ (List.mem_of_getElem? (i := 18) rfl))) (mvT hZ (hw _ (List.mem_of_getElem? (i := 17) rfl))) (by decide) (backOf (W := 0) (r_in_1 l Z a0 hw [] s_PREPARED s_IN_DOUBT s_Outcome_COMMITTED s_HEURISTICALLY_ABORTED s_HEURISTICALLY_COMMITTED s_Joined_State_COMMITTED s_HEURISTIC_ABORT s_HEURISTIC_COMMIT s_COMMITTED_AGAINST_HEURISTIC s_HEURISTIC_MISMATCH s_COMMITTED_IN_ONE_PHASE s_TxnStatus_COMMITTED s_ABORTED_AGAINST_HEURISTIC s_Outcome_ABORTED s_PRE_ABORTED s_PRE_COMMITTED s_Joined_State_ABORTED s_TxnStatus_ABORTED h0 n0 Z0 G0) hZ (hw _ (List.mem_of_getElem? (i := 19) rfl)) (hw _ (List.mem_of_getElem? (i := 6) rfl)) (by decide) (by decide)) q3a q3c (g := (mkF m 41 #[.val (.int p1), .val (.int p2), .val (.int (1 : Int32)), .val (.ref s_PRE_COMMITTED), .val (.int (1 : Int32)), .val (.int (1 : Int32)), .unset, .unset] [(.ref s_PRE_COMMITTED)])) rfl (by rw [hml]; rfl) (Steps.refl _) (argsL := []) (rest := []) (lenOf pd_2 rfl) rfl (by show 2 * 0 + _ ≤ _; exact Nat.le_of_eq rfl) (hb hby at_41) (fun _ _ => ⟨rfl, e2, (by decide : 0 + 0 ≤ _), (by decide : 0 + 0 ≤ _)⟩)
  dsimp only [Pt.U, Pt.locs, Pt.cells, Pt.slots] at X3 l3 y3 z3 st3 hQ3
  subst l3 y3 z3
  obtain ⟨rfl, N3q, e3⟩ := hQ3
  have N3 := Fr.app N2 N3q
  obtain ⟨T4, X4, e4, st4⟩ := getS2 X3 hx hZ hown (host := "") (Or.inl (hw _ (List.mem_of_getElem? (i := 65) rfl))) Via.refl e3 S_Outcome_ABORTED (g := (mkF m 100 #[.val (.int p1), .val (.int p2), .val (.int (1 : Int32)), .val (.ref s_PRE_COMMITTED), .val (.int (1 : Int32)), .val (.int (1 : Int32)), .val (.int (1 : Int32)), .unset] [])) rfl (hb hby at_100)
  obtain ⟨cq5, kq5, q5a, q5b, q5c⟩ := isOf hZ e4 E_PRE_COMMITTED
  obtain ⟨_, _, ⟨T5, L5, k5, n5⟩, -, X5, ⟨Lc5, hQ5, l5, y5, z5⟩, st5⟩ := X4.virtualBack hx (y := (⟨"com/example/unanimity/unanimity/core/Joined$State", "after", "(Lcom/example/unanimity/unanimity/core/Outcome;)Lcom/example/unanimity/unanimity/core/Joined$State;"⟩ : MethodName)) (z := (⟨"com/example/unanimity/unanimity/core/Joined$State", "after", "(Lcom/example/unanimity/unanimity/core/Outcome;)Lcom/example/unanimity/unanimity/core/Joined$State;"⟩ : MethodName)) hown (mvT hZ (hw _ (List.mem_of_getElem? (i := 28) rfl))) (mvT hZ (hw _ (List.mem_of_getElem? (i := 29) rfl))) (notFace_of_selects (args := #[]) (mvT hZ (hw _ (List.mem_of_getElem? (i := 31) rfl)))) (mvT hZ (hw _ (List.mem_of_getElem? (i := 31) rfl))) (mvT hZ (hw _ (List.mem_of_getElem? (i := 30) rfl))) (by decide) (backOf (W := 0) (r_after_1_Outcome_ABORTED l Z a0 hw [] s_PREPARED s_IN_DOUBT s_Outcome_COMMITTED s_HEURISTICALLY_ABORTED s_HEURISTICALLY_COMMITTED s_Joined_State_COMMITTED s_HEURISTIC_ABORT s_HEURISTIC_COMMIT s_COMMITTED_AGAINST_HEURISTIC s_HEURISTIC_MISMATCH s_COMMITTED_IN_ONE_PHASE s_TxnStatus_COMMITTED s_ABORTED_AGAINST_HEURISTIC s_Outcome_ABORTED s_PRE_ABORTED s_PRE_COMMITTED s_Joined_State_ABORTED s_TxnStatus_ABORTED h0 n0 Z0 G0) hZ (hw _ (List.mem_of_getElem? (i := 32) rfl)) (hw _ (List.mem_of_getElem? (i := 6) rfl)) (by decide) (by decide)) q5a q5c (g := (mkF m 108 #[.val (.int p1), .val (.int p2), .val (.int (1 : Int32)), .val (.ref s_PRE_COMMITTED), .val (.int (1 : Int32)), .val (.int (1 : Int32)), .val (.int (1 : Int32)), .val (.ref s_Outcome_ABORTED)] [(.ref s_Outcome_ABORTED), (.ref s_PRE_COMMITTED)])) rfl (by rw [hml]; rfl) (Steps.refl _) (argsL := [(.ref s_Outcome_ABORTED)]) (rest := []) (lenOf pd_0 rfl) rfl (by show 2 * 0 + _ ≤ _; exact Nat.le_of_eq rfl) (hb hby at_108) (fun _ _ => ⟨rfl, e4, (by decide : 0 + 0 ≤ _), (by decide : 0 + 0 ≤ _)⟩)
  dsimp only [Pt.U, Pt.locs, Pt.cells, Pt.slots] at X5 l5 y5 z5 st5 hQ5
  subst l5 y5 z5
  obtain ⟨rfl, N5q, e5⟩ := hQ5
  have N5 := Fr.app N3 N5q
  obtain ⟨cq6, kq6, q6a, q6b, q6c⟩ := isOf hZ e5 E_Joined_State_ABORTED
  obtain ⟨_, _, ⟨T6, L6, k6, n6⟩, -, X6, ⟨Lc6, hQ6, l6, y6, z6⟩, st6⟩ := X5.virtualBack hx (y := (⟨"com/example/unanimity/unanimity/core/Joined$State", "awaitsDecision", "()Z"⟩ : MethodName)) (z := (⟨"com/example/unanimity/unanimity/core/Joined$State", "awaitsDecision", "()Z"⟩ : MethodName)) hown (mvT hZ (hw _ (List.mem_of_getElem? (i := 8) rfl))) (mvT hZ (hw _ (List.mem_of_getElem? (i := 9) rfl))) (notFace_of_selects (args := #[]) (mvT hZ (hw _ (List.mem_of_getElem? (i := 11) rfl)))) (mvT hZ (hw _ (List.mem_of_getElem? (i := 11) rfl))) (mvT hZ (hw _ (List.mem_of_getElem? (i := 10) rfl))) (by decide) (backOf (W := 0) (r_aw_7 l Z a0 hw [] s_PREPARED s_IN_DOUBT s_Outcome_COMMITTED s_HEURISTICALLY_ABORTED s_HEURISTICALLY_COMMITTED s_Joined_State_COMMITTED s_HEURISTIC_ABORT s_HEURISTIC_COMMIT s_COMMITTED_AGAINST_HEURISTIC s_HEURISTIC_MISMATCH s_COMMITTED_IN_ONE_PHASE s_TxnStatus_COMMITTED s_ABORTED_AGAINST_HEURISTIC s_Outcome_ABORTED s_PRE_ABORTED s_PRE_COMMITTED s_Joined_State_ABORTED s_TxnStatus_ABORTED h0 n0 Z0 G0) hZ (hw _ (List.mem_of_getElem? (i := 12) rfl)) (hw _ (List.mem_of_getElem? (i := 6) rfl)) (by decide) (by decide)) q6a q6c (g := (mkF m 111 #[.val (.int p1), .val (.int p2), .val (.int (1 : Int32)), .val (.ref s_PRE_COMMITTED), .val (.int (1 : Int32)), .val (.int (1 : Int32)), .val (.int (1 : Int32)), .val (.ref s_Outcome_ABORTED)] [(.ref s_Joined_State_ABORTED)])) rfl (by rw [hml]; rfl) (Steps.refl _) (argsL := []) (rest := []) (lenOf pd_2 rfl) rfl (by show 2 * 0 + _ ≤ _; exact Nat.le_of_eq rfl) (hb hby at_111) (fun _ _ => ⟨rfl, e5, (by decide : 0 + 0 ≤ _), (by decide : 0 + 0 ≤ _)⟩)
  dsimp only [Pt.U, Pt.locs, Pt.cells, Pt.slots] at X6 l6 y6 z6 st6 hQ6
  subst l6 y6 z6
  obtain ⟨rfl, N6q, e6⟩ := hQ6
  have N6 := Fr.app N5 N6q
  obtain ⟨fs, hr, hrun, hended, hW, hsame⟩ := X6.leave (v := some (.int (1 : Int32))) (fun h => by rw [Bd.returns] at h; cases h)
  refine ⟨_, _, pre0 _ ?_, hrun, hended, _, _, rfl, ?_, ⟨_, rfl⟩, hW, hsame.mono (by decide) (by decide)⟩
  · show Steps p.tables e below (s₁.setTop (mkF m 0 #[.val (.int p1), .val (.int p2), .unset, .unset, .unset, .unset, .unset, .unset] [])) _
    refine XS.iloadN X0.here hx rfl (hb hby at_0) rfl ?_
    show Steps p.tables e below (s₁.setTop (mkF m 1 #[.val (.int p1), .val (.int p2), .unset, .unset, .unset, .unset, .unset, .unset] [(.int p1)])) _
    refine X0.ldcInt hx hown (mvT hZ (hw _ (List.mem_of_getElem? (i := 0) rfl))) (g := (mkF m 1 #[.val (.int p1), .val (.int p2), .unset, .unset, .unset, .unset, .unset, .unset] [(.int p1)])) rfl (hb hby at_1) _ ?_
    show Steps p.tables e below (s₁.setTop (mkF m 3 #[.val (.int p1), .val (.int p2), .unset, .unset, .unset, .unset, .unset, .unset] [(.int (2147483647 : Int32)), (.int p1)])) _
    refine XS.iand X0.here hx rfl (hb hby at_3) rfl ?_
    show Steps p.tables e below (s₁.setTop (mkF m 4 #[.val (.int p1), .val (.int p2), .unset, .unset, .unset, .unset, .unset, .unset] [(.int (p1 &&& (2147483647 : Int32)))])) _
    refine XS.bipush X0.here hx rfl (hb hby at_4) ?_
    show Steps p.tables e below (s₁.setTop (mkF m 6 #[.val (.int p1), .val (.int p2), .unset, .unset, .unset, .unset, .unset, .unset] [(.int (10 : Int32)), (.int (p1 &&& (2147483647 : Int32)))])) _
    refine iremM X0 hx rfl (hb hby at_6) rfl (by decide) ?_
    show Steps p.tables e below (s₁.setTop (mkF m 7 #[.val (.int p1), .val (.int p2), .unset, .unset, .unset, .unset, .unset, .unset] [(.int ((p1 &&& (2147483647 : Int32)) % (10 : Int32)))])) _
    rw [hk]
    show Steps p.tables e below (s₁.setTop (mkF m 7 #[.val (.int p1), .val (.int p2), .unset, .unset, .unset, .unset, .unset, .unset] [(.int (1 : Int32))])) _
    refine XS.istoreN X0.here hx rfl (hb hby at_7) rfl (l' := #[.val (.int p1), .val (.int p2), .val (.int (1 : Int32)), .unset, .unset, .unset, .unset, .unset]) rfl ?_
    show Steps p.tables e below (s₁.setTop (mkF m 8 #[.val (.int p1), .val (.int p2), .val (.int (1 : Int32)), .unset, .unset, .unset, .unset, .unset] [])) _
    refine XS.iloadN X0.here hx rfl (hb hby at_8) rfl ?_
    show Steps p.tables e below (s₁.setTop (mkF m 9 #[.val (.int p1), .val (.int p2), .val (.int (1 : Int32)), .unset, .unset, .unset, .unset, .unset] [(.int (1 : Int32))])) _
    refine st1 _ ?_
    show Steps p.tables e below (T1.setTop (mkF m 12 #[.val (.int p1), .val (.int p2), .val (.int (1 : Int32)), .unset, .unset, .unset, .unset, .unset] [(.ref s_PRE_COMMITTED)])) _
    refine XS.astoreN X1.here hx rfl (hb hby at_12) rfl rfl (l' := #[.val (.int p1), .val (.int p2), .val (.int (1 : Int32)), .val (.ref s_PRE_COMMITTED), .unset, .unset, .unset, .unset]) rfl ?_
    show Steps p.tables e below (T1.setTop (mkF m 13 #[.val (.int p1), .val (.int p2), .val (.int (1 : Int32)), .val (.ref s_PRE_COMMITTED), .unset, .unset, .unset, .unset] [])) _
    refine XS.iloadN X1.here hx rfl (hb hby at_13) rfl ?_
    show Steps p.tables e below (T1.setTop (mkF m 14 #[.val (.int p1), .val (.int p2), .val (.int (1 : Int32)), .val (.ref s_PRE_COMMITTED), .unset, .unset, .unset, .unset] [(.int (1 : Int32))])) _
    refine XS.iconst X1.here hx rfl (hb hby at_14) ?_
    show Steps p.tables e below (T1.setTop (mkF m 15 #[.val (.int p1), .val (.int p2), .val (.int (1 : Int32)), .val (.ref s_PRE_COMMITTED), .unset, .unset, .unset, .unset] [(.int (5 : Int32)), (.int (1 : Int32))])) _
    refine XS.icmpNo X1.here hx rfl (hb hby at_15) rfl (tlt (by decide : (1 : Int32) < (5 : Int32))).2.1 ?_
    show Steps p.tables e below (T1.setTop (mkF m 18 #[.val (.int p1), .val (.int p2), .val (.int (1 : Int32)), .val (.ref s_PRE_COMMITTED), .unset, .unset, .unset, .unset] [])) _
    refine XS.iconst X1.here hx rfl (hb hby at_18) ?_
    show Steps p.tables e below (T1.setTop (mkF m 19 #[.val (.int p1), .val (.int p2), .val (.int (1 : Int32)), .val (.ref s_PRE_COMMITTED), .unset, .unset, .unset, .unset] [(.int (1 : Int32))])) _
    refine XS.goto X1.here hx rfl (pc0 := 19) (pc' := 23) rfl (hb hby at_19) (by decide) (by decide) ?_
    show Steps p.tables e below (T1.setTop (mkF m 23 #[.val (.int p1), .val (.int p2), .val (.int (1 : Int32)), .val (.ref s_PRE_COMMITTED), .unset, .unset, .unset, .unset] [(.int (1 : Int32))])) _
    refine XS.istore X1.here hx rfl (hb hby at_23) rfl (l' := #[.val (.int p1), .val (.int p2), .val (.int (1 : Int32)), .val (.ref s_PRE_COMMITTED), .val (.int (1 : Int32)), .unset, .unset, .unset]) rfl ?_
    show Steps p.tables e below (T1.setTop (mkF m 25 #[.val (.int p1), .val (.int p2), .val (.int (1 : Int32)), .val (.ref s_PRE_COMMITTED), .val (.int (1 : Int32)), .unset, .unset, .unset] [])) _
    refine XS.aloadN X1.here hx rfl (hb hby at_25) rfl rfl ?_
    show Steps p.tables e below (T1.setTop (mkF m 26 #[.val (.int p1), .val (.int p2), .val (.int (1 : Int32)), .val (.ref s_PRE_COMMITTED), .val (.int (1 : Int32)), .unset, .unset, .unset] [(.ref s_PRE_COMMITTED)])) _
    refine st2.trans ?_
    show Steps p.tables e below (T2.setTop (mkF m 29 #[.val (.int p1), .val (.int p2), .val (.int (1 : Int32)), .val (.ref s_PRE_COMMITTED), .val (.int (1 : Int32)), .unset, .unset, .unset] [(.int (1 : Int32))])) _
    refine XS.istore X2.here hx rfl (hb hby at_29) rfl (l' := #[.val (.int p1), .val (.int p2), .val (.int (1 : Int32)), .val (.ref s_PRE_COMMITTED), .val (.int (1 : Int32)), .val (.int (1 : Int32)), .unset, .unset]) rfl ?_
    show Steps p.tables e below (T2.setTop (mkF m 31 #[.val (.int p1), .val (.int p2), .val (.int (1 : Int32)), .val (.ref s_PRE_COMMITTED), .val (.int (1 : Int32)), .val (.int (1 : Int32)), .unset, .unset] [])) _
    refine XS.iload X2.here hx rfl (hb hby at_31) rfl ?_
    show Steps p.tables e below (T2.setTop (mkF m 33 #[.val (.int p1), .val (.int p2), .val (.int (1 : Int32)), .val (.ref s_PRE_COMMITTED), .val (.int (1 : Int32)), .val (.int (1 : Int32)), .unset, .unset] [(.int (1 : Int32))])) _
    refine XS.iload X2.here hx rfl (hb hby at_33) rfl ?_
    show Steps p.tables e below (T2.setTop (mkF m 35 #[.val (.int p1), .val (.int p2), .val (.int (1 : Int32)), .val (.ref s_PRE_COMMITTED), .val (.int (1 : Int32)), .val (.int (1 : Int32)), .unset, .unset] [(.int (1 : Int32)), (.int (1 : Int32))])) _
    refine XS.icmpYes X2.here hx rfl (pc0 := 35) (pc' := 40) rfl (hb hby at_35) rfl (teq (by decide : (1 : Int32) = (1 : Int32))).1 (by decide) (by decide) ?_
    show Steps p.tables e below (T2.setTop (mkF m 40 #[.val (.int p1), .val (.int p2), .val (.int (1 : Int32)), .val (.ref s_PRE_COMMITTED), .val (.int (1 : Int32)), .val (.int (1 : Int32)), .unset, .unset] [])) _
    refine XS.aloadN X2.here hx rfl (hb hby at_40) rfl rfl ?_
    show Steps p.tables e below (T2.setTop (mkF m 41 #[.val (.int p1), .val (.int p2), .val (.int (1 : Int32)), .val (.ref s_PRE_COMMITTED), .val (.int (1 : Int32)), .val (.int (1 : Int32)), .unset, .unset] [(.ref s_PRE_COMMITTED)])) _
    refine st3.trans ?_
    show Steps p.tables e below (T3.setTop (mkF m 44 #[.val (.int p1), .val (.int p2), .val (.int (1 : Int32)), .val (.ref s_PRE_COMMITTED), .val (.int (1 : Int32)), .val (.int (1 : Int32)), .unset, .unset] [(.int (1 : Int32))])) _
    refine XS.ifYes X3.here hx rfl (pc0 := 44) (pc' := 67) rfl (hb hby at_44) rfl ((if0 _ _).trans (feq (by decide : ¬ ((1 : Int32) = (0 : Int32)))).2) (by decide) (by decide) ?_
    show Steps p.tables e below (T3.setTop (mkF m 67 #[.val (.int p1), .val (.int p2), .val (.int (1 : Int32)), .val (.ref s_PRE_COMMITTED), .val (.int (1 : Int32)), .val (.int (1 : Int32)), .unset, .unset] [])) _
    refine XS.iconst X3.here hx rfl (hb hby at_67) ?_
    show Steps p.tables e below (T3.setTop (mkF m 68 #[.val (.int p1), .val (.int p2), .val (.int (1 : Int32)), .val (.ref s_PRE_COMMITTED), .val (.int (1 : Int32)), .val (.int (1 : Int32)), .unset, .unset] [(.int (1 : Int32))])) _
    refine XS.goto X3.here hx rfl (pc0 := 68) (pc' := 72) rfl (hb hby at_68) (by decide) (by decide) ?_
    show Steps p.tables e below (T3.setTop (mkF m 72 #[.val (.int p1), .val (.int p2), .val (.int (1 : Int32)), .val (.ref s_PRE_COMMITTED), .val (.int (1 : Int32)), .val (.int (1 : Int32)), .unset, .unset] [(.int (1 : Int32))])) _
    refine XS.istore X3.here hx rfl (hb hby at_72) rfl (l' := #[.val (.int p1), .val (.int p2), .val (.int (1 : Int32)), .val (.ref s_PRE_COMMITTED), .val (.int (1 : Int32)), .val (.int (1 : Int32)), .val (.int (1 : Int32)), .unset]) rfl ?_
    show Steps p.tables e below (T3.setTop (mkF m 74 #[.val (.int p1), .val (.int p2), .val (.int (1 : Int32)), .val (.ref s_PRE_COMMITTED), .val (.int (1 : Int32)), .val (.int (1 : Int32)), .val (.int (1 : Int32)), .unset] [])) _
    refine XS.iload X3.here hx rfl (hb hby at_74) rfl ?_
    show Steps p.tables e below (T3.setTop (mkF m 76 #[.val (.int p1), .val (.int p2), .val (.int (1 : Int32)), .val (.ref s_PRE_COMMITTED), .val (.int (1 : Int32)), .val (.int (1 : Int32)), .val (.int (1 : Int32)), .unset] [(.int (1 : Int32))])) _
    refine XS.iload X3.here hx rfl (hb hby at_76) rfl ?_
    show Steps p.tables e below (T3.setTop (mkF m 78 #[.val (.int p1), .val (.int p2), .val (.int (1 : Int32)), .val (.ref s_PRE_COMMITTED), .val (.int (1 : Int32)), .val (.int (1 : Int32)), .val (.int (1 : Int32)), .unset] [(.int (1 : Int32)), (.int (1 : Int32))])) _
    refine XS.icmpYes X3.here hx rfl (pc0 := 78) (pc' := 83) rfl (hb hby at_78) rfl (teq (by decide : (1 : Int32) = (1 : Int32))).1 (by decide) (by decide) ?_
    show Steps p.tables e below (T3.setTop (mkF m 83 #[.val (.int p1), .val (.int p2), .val (.int (1 : Int32)), .val (.ref s_PRE_COMMITTED), .val (.int (1 : Int32)), .val (.int (1 : Int32)), .val (.int (1 : Int32)), .unset] [])) _
    refine XS.iload X3.here hx rfl (hb hby at_83) rfl ?_
    show Steps p.tables e below (T3.setTop (mkF m 85 #[.val (.int p1), .val (.int p2), .val (.int (1 : Int32)), .val (.ref s_PRE_COMMITTED), .val (.int (1 : Int32)), .val (.int (1 : Int32)), .val (.int (1 : Int32)), .unset] [(.int (1 : Int32))])) _
    refine XS.ifNo X3.here hx rfl (hb hby at_85) rfl ((if0 _ _).trans (feq (by decide : ¬ ((1 : Int32) = (0 : Int32)))).1) ?_
    show Steps p.tables e below (T3.setTop (mkF m 88 #[.val (.int p1), .val (.int p2), .val (.int (1 : Int32)), .val (.ref s_PRE_COMMITTED), .val (.int (1 : Int32)), .val (.int (1 : Int32)), .val (.int (1 : Int32)), .unset] [])) _
    refine XS.iloadN X3.here hx rfl (hb hby at_88) rfl ?_
    show Steps p.tables e below (T3.setTop (mkF m 89 #[.val (.int p1), .val (.int p2), .val (.int (1 : Int32)), .val (.ref s_PRE_COMMITTED), .val (.int (1 : Int32)), .val (.int (1 : Int32)), .val (.int (1 : Int32)), .unset] [(.int p2)])) _
    refine XS.iconst X3.here hx rfl (hb hby at_89) ?_
    show Steps p.tables e below (T3.setTop (mkF m 90 #[.val (.int p1), .val (.int p2), .val (.int (1 : Int32)), .val (.ref s_PRE_COMMITTED), .val (.int (1 : Int32)), .val (.int (1 : Int32)), .val (.int (1 : Int32)), .unset] [(.int (1 : Int32)), (.int p2)])) _
    refine XS.iand X3.here hx rfl (hb hby at_90) rfl ?_
    show Steps p.tables e below (T3.setTop (mkF m 91 #[.val (.int p1), .val (.int p2), .val (.int (1 : Int32)), .val (.ref s_PRE_COMMITTED), .val (.int (1 : Int32)), .val (.int (1 : Int32)), .val (.int (1 : Int32)), .unset] [(.int (p2 &&& (1 : Int32)))])) _
    rw [hf]
    show Steps p.tables e below (T3.setTop (mkF m 91 #[.val (.int p1), .val (.int p2), .val (.int (1 : Int32)), .val (.ref s_PRE_COMMITTED), .val (.int (1 : Int32)), .val (.int (1 : Int32)), .val (.int (1 : Int32)), .unset] [(.int (0 : Int32))])) _
    refine XS.ifYes X3.here hx rfl (pc0 := 91) (pc' := 100) rfl (hb hby at_91) rfl ((if0 _ _).trans (teq (by decide : (0 : Int32) = (0 : Int32))).1) (by decide) (by decide) ?_
    show Steps p.tables e below (T3.setTop (mkF m 100 #[.val (.int p1), .val (.int p2), .val (.int (1 : Int32)), .val (.ref s_PRE_COMMITTED), .val (.int (1 : Int32)), .val (.int (1 : Int32)), .val (.int (1 : Int32)), .unset] [])) _
    refine st4 _ ?_
    show Steps p.tables e below (T4.setTop (mkF m 103 #[.val (.int p1), .val (.int p2), .val (.int (1 : Int32)), .val (.ref s_PRE_COMMITTED), .val (.int (1 : Int32)), .val (.int (1 : Int32)), .val (.int (1 : Int32)), .unset] [(.ref s_Outcome_ABORTED)])) _
    refine XS.astore X4.here hx rfl (hb hby at_103) rfl rfl (l' := #[.val (.int p1), .val (.int p2), .val (.int (1 : Int32)), .val (.ref s_PRE_COMMITTED), .val (.int (1 : Int32)), .val (.int (1 : Int32)), .val (.int (1 : Int32)), .val (.ref s_Outcome_ABORTED)]) rfl ?_
    show Steps p.tables e below (T4.setTop (mkF m 105 #[.val (.int p1), .val (.int p2), .val (.int (1 : Int32)), .val (.ref s_PRE_COMMITTED), .val (.int (1 : Int32)), .val (.int (1 : Int32)), .val (.int (1 : Int32)), .val (.ref s_Outcome_ABORTED)] [])) _
    refine XS.aloadN X4.here hx rfl (hb hby at_105) rfl rfl ?_
    show Steps p.tables e below (T4.setTop (mkF m 106 #[.val (.int p1), .val (.int p2), .val (.int (1 : Int32)), .val (.ref s_PRE_COMMITTED), .val (.int (1 : Int32)), .val (.int (1 : Int32)), .val (.int (1 : Int32)), .val (.ref s_Outcome_ABORTED)] [(.ref s_PRE_COMMITTED)])) _
    refine XS.aload X4.here hx rfl (hb hby at_106) rfl rfl ?_
    show Steps p.tables e below (T4.setTop (mkF m 108 #[.val (.int p1), .val (.int p2), .val (.int (1 : Int32)), .val (.ref s_PRE_COMMITTED), .val (.int (1 : Int32)), .val (.int (1 : Int32)), .val (.int (1 : Int32)), .val (.ref s_Outcome_ABORTED)] [(.ref s_Outcome_ABORTED), (.ref s_PRE_COMMITTED)])) _
    refine st5.trans ?_
    show Steps p.tables e below (T5.setTop (mkF m 111 #[.val (.int p1), .val (.int p2), .val (.int (1 : Int32)), .val (.ref s_PRE_COMMITTED), .val (.int (1 : Int32)), .val (.int (1 : Int32)), .val (.int (1 : Int32)), .val (.ref s_Outcome_ABORTED)] [(.ref s_Joined_State_ABORTED)])) _
    refine st6.trans ?_
    show Steps p.tables e below (T6.setTop (mkF m 114 #[.val (.int p1), .val (.int p2), .val (.int (1 : Int32)), .val (.ref s_PRE_COMMITTED), .val (.int (1 : Int32)), .val (.int (1 : Int32)), .val (.int (1 : Int32)), .val (.ref s_Outcome_ABORTED)] [(.int (0 : Int32))])) _
    refine XS.ifYes X6.here hx rfl (pc0 := 114) (pc' := 119) rfl (hb hby at_114) rfl ((if0 _ _).trans (teq (by decide : (0 : Int32) = (0 : Int32))).1) (by decide) (by decide) ?_
    show Steps p.tables e below (T6.setTop (mkF m 119 #[.val (.int p1), .val (.int p2), .val (.int (1 : Int32)), .val (.ref s_PRE_COMMITTED), .val (.int (1 : Int32)), .val (.int (1 : Int32)), .val (.int (1 : Int32)), .val (.ref s_Outcome_ABORTED)] [])) _
    refine XS.iconst X6.here hx rfl (hb hby at_119) ?_
    show Steps p.tables e below (T6.setTop (mkF m 120 #[.val (.int p1), .val (.int p2), .val (.int (1 : Int32)), .val (.ref s_PRE_COMMITTED), .val (.int (1 : Int32)), .val (.int (1 : Int32)), .val (.int (1 : Int32)), .val (.ref s_Outcome_ABORTED)] [(.int (1 : Int32))])) _
    exact retN X6 hx (t := .boolean) Bd.returns (by simp) (hb hby at_120) hr
  · show own_Q (some (.int (1 : Int32))) h0 n0 _ T6.heap _
    rw [e6]
    exact ⟨rfl, N6, rfl⟩
set_option maxRecDepth 65536 in
set_option maxHeartbeats 40000000 in
theorem r_law_1_1 (l : Launch) (Z : State) (a0 : Array Value) (hw : ∀ d ∈ tables_1, d.before a0 Z = true) (ws : List Jvm.Cond) (s_PREPARED s_IN_DOUBT s_Outcome_COMMITTED s_HEURISTICALLY_ABORTED s_HEURISTICALLY_COMMITTED s_Joined_State_COMMITTED s_HEURISTIC_ABORT s_HEURISTIC_COMMIT s_COMMITTED_AGAINST_HEURISTIC s_HEURISTIC_MISMATCH s_COMMITTED_IN_ONE_PHASE s_TxnStatus_COMMITTED s_ABORTED_AGAINST_HEURISTIC s_Outcome_ABORTED s_PRE_ABORTED s_PRE_COMMITTED s_Joined_State_ABORTED s_TxnStatus_ABORTED : Addr) (h0 : Heap) (n0 : Nat) (Z0 : n0 ≤ h0.size) (G : own_Ctx Z h0 s_PREPARED s_IN_DOUBT s_Outcome_COMMITTED s_HEURISTICALLY_ABORTED s_HEURISTICALLY_COMMITTED s_Joined_State_COMMITTED s_HEURISTIC_ABORT s_HEURISTIC_COMMIT s_COMMITTED_AGAINST_HEURISTIC s_HEURISTIC_MISMATCH s_COMMITTED_IN_ONE_PHASE s_TxnStatus_COMMITTED s_ABORTED_AGAINST_HEURISTIC s_Outcome_ABORTED s_PRE_ABORTED s_PRE_COMMITTED s_Joined_State_ABORTED s_TxnStatus_ABORTED) (p1 p2 : Int32) (hk : (p1 &&& (2147483647 : Int32)) % (10 : Int32) = (1 : Int32)) (hf : p2 &&& (1 : Int32) = (1 : Int32)) :
    MetFree l x (head1 (Jvm.Cond.code x code maxLocals ret :: ws) room_1) (fun a U => a = #[(.int p1), (.int p2)] ∧ Z.Warmed39 U.vm ∧ U.heap = h0) (fun _ _ _ _ _ => True) (fun _ U o U' => ∃ v L, o = .returned v ∧ own_Q (some (.int (1 : Int32))) h0 n0 v U'.heap L ∧ FrameEnd U o U' L 0 0) := by
  have G0 := G
  obtain ⟨S_PREPARED, E_PREPARED, O_PREPARED, S_IN_DOUBT, E_IN_DOUBT, O_IN_DOUBT, S_Outcome_COMMITTED, E_Outcome_COMMITTED, O_Outcome_COMMITTED, S_HEURISTICALLY_ABORTED, E_HEURISTICALLY_ABORTED, O_HEURISTICALLY_ABORTED, S_HEURISTICALLY_COMMITTED, E_HEURISTICALLY_COMMITTED, O_HEURISTICALLY_COMMITTED, S_Joined_State_COMMITTED, E_Joined_State_COMMITTED, S_HEURISTIC_ABORT, E_HEURISTIC_ABORT, O_HEURISTIC_ABORT, S_HEURISTIC_COMMIT, E_HEURISTIC_COMMIT, O_HEURISTIC_COMMIT, S_COMMITTED_AGAINST_HEURISTIC, E_COMMITTED_AGAINST_HEURISTIC, S_HEURISTIC_MISMATCH, E_HEURISTIC_MISMATCH, O_HEURISTIC_MISMATCH, S_COMMITTED_IN_ONE_PHASE, E_COMMITTED_IN_ONE_PHASE, S_TxnStatus_COMMITTED, E_TxnStatus_COMMITTED, O_TxnStatus_COMMITTED, S_ABORTED_AGAINST_HEURISTIC, E_ABORTED_AGAINST_HEURISTIC, S_Outcome_ABORTED, E_Outcome_ABORTED, O_Outcome_ABORTED, S_PRE_ABORTED, E_PRE_ABORTED, O_PRE_ABORTED, S_PRE_COMMITTED, E_PRE_COMMITTED, O_PRE_COMMITTED, S_Joined_State_ABORTED, E_Joined_State_ABORTED, S_TxnStatus_ABORTED, E_TxnStatus_ABORTED, O_TxnStatus_ABORTED, F_decision_PREPARED, F_status_PREPARED, F_decision_Joined_State_COMMITTED, F_decision_HEURISTICALLY_ABORTED, F_status_HEURISTICALLY_ABORTED, F_decision_COMMITTED_AGAINST_HEURISTIC, F_status_COMMITTED_AGAINST_HEURISTIC, F_decision_COMMITTED_IN_ONE_PHASE, F_status_COMMITTED_IN_ONE_PHASE, F_decision_ABORTED_AGAINST_HEURISTIC, F_status_ABORTED_AGAINST_HEURISTIC, F_decision_PRE_ABORTED, F_status_PRE_ABORTED, F_decision_HEURISTICALLY_COMMITTED, F_status_HEURISTICALLY_COMMITTED, F_decision_PRE_COMMITTED, F_status_PRE_COMMITTED, F_decision_Joined_State_ABORTED, F_status_Joined_State_COMMITTED, F_status_Joined_State_ABORTED⟩ := G
  refine MetFree.of_bodySF (plainFor_of_name pn_1) hisR ?_
  intro p e s m args below meth c s₁ Bd hml0 hP hK
  obtain ⟨rfl, hZ, hh⟩ := hP
  have hx := Bd.exec
  have hby := Bd.bytes
  have hml : c.maxLocals = 8 := hml0
  have hown : s.vm.findClass "com/example/unanimity/unanimity/core/StateAwaitsDecisionPinLaw" = some m.cls := findClass_of_methodNamed Bd.named
  have hnm := (name_of_methodNamed Bd.named Bd.method).1
  have X0 : Stand p l e room_1 s m #[(.int p1), (.int p2)] below meth c s₁ [] 0 0 := Stand.of_body Bd
  have e0 : s₁.heap = h0 := by rw [← hh, Bd.state]; rfl
  have N0 := Fr.nil n0
  have pre0 : ∀ t, Steps p.tables e below (s₁.setTop (mkF m 0 #[.val (.int p1), .val (.int p2), .unset, .unset, .unset, .unset, .unset, .unset] [])) t → Steps p.tables e below (s₁.setTop (entryFrame m #[(.int p1), (.int p2)] maxLocals)) t := fun t k => castTop (ef_0_5 m p1 p2) k
  obtain ⟨_, _, ⟨T1, L1, k1, n1⟩, -, X1, ⟨Lc1, hQ1, l1, y1, z1⟩, st1⟩ := Jvm.LawKit.callS X0 hx (y := (⟨"com/example/unanimity/unanimity/core/StateAwaitsDecisionPinLaw", "pick", "(I)Lcom/example/unanimity/unanimity/core/Joined$State;"⟩ : MethodName)) hown (mvT hZ (hw _ (List.mem_of_getElem? (i := 1) rfl))) (mvT hZ (hw _ (List.mem_of_getElem? (i := 2) rfl))) (mvT hZ (hw _ (List.mem_of_getElem? (i := 3) rfl))) (mvT hZ (hw _ (List.mem_of_getElem? (i := 4) rfl))) (by decide) (backOf (W := 0) (r_pick_1 l Z a0 hw [] s_PREPARED s_IN_DOUBT s_Outcome_COMMITTED s_HEURISTICALLY_ABORTED s_HEURISTICALLY_COMMITTED s_Joined_State_COMMITTED s_HEURISTIC_ABORT s_HEURISTIC_COMMIT s_COMMITTED_AGAINST_HEURISTIC s_HEURISTIC_MISMATCH s_COMMITTED_IN_ONE_PHASE s_TxnStatus_COMMITTED s_ABORTED_AGAINST_HEURISTIC s_Outcome_ABORTED s_PRE_ABORTED s_PRE_COMMITTED s_Joined_State_ABORTED s_TxnStatus_ABORTED h0 n0 Z0 G0) hZ (hw _ (List.mem_of_getElem? (i := 4) rfl)) (hw _ (List.mem_of_getElem? (i := 3) rfl)) (by decide) (by decide)) (g := (mkF m 9 #[.val (.int p1), .val (.int p2), .val (.int (1 : Int32)), .unset, .unset, .unset, .unset, .unset] [(.int (1 : Int32))])) rfl (by rw [hml]; rfl) (argsL := [(.int (1 : Int32))]) (rest := []) (lenOf pd_1 rfl) rfl (by show 2 * 0 + _ ≤ _; exact Nat.le_of_eq rfl) (hb hby at_9) (fun _ _ => ⟨rfl, e0, (by decide : 0 + 0 ≤ _), (by decide : 0 + 0 ≤ _)⟩)
  dsimp only [Pt.U, Pt.locs, Pt.cells, Pt.slots] at X1 l1 y1 z1 st1 hQ1
  subst l1 y1 z1
  obtain ⟨rfl, N1q, e1⟩ := hQ1
  have N1 := Fr.app N0 N1q
  obtain ⟨cq2, kq2, q2a, q2b, q2c⟩ := isOf hZ e1 E_PRE_COMMITTED
  obtain ⟨_, _, ⟨T2, L2, k2, n2⟩, -, X2, ⟨Lc2, hQ2, l2, y2, z2⟩, st2⟩ := X1.virtualBack hx (y := (⟨"com/example/unanimity/unanimity/core/Joined$State", "awaitsDecision", "()Z"⟩ : MethodName)) (z := (⟨"com/example/unanimity/unanimity/core/Joined$State", "awaitsDecision", "()Z"⟩ : MethodName)) hown (mvT hZ (hw _ (List.mem_of_getElem? (i := 8) rfl))) (mvT hZ (hw _ (List.mem_of_getElem? (i := 9) rfl))) (notFace_of_selects (args := #[]) (mvT hZ (hw _ (List.mem_of_getElem? (i := 11) rfl)))) (mvT hZ (hw _ (List.mem_of_getElem? (i := 11) rfl))) (mvT hZ (hw _ (List.mem_of_getElem? (i := 10) rfl))) (by decide) (backOf (W := 0) (r_aw_1 l Z a0 hw [] s_PREPARED s_IN_DOUBT s_Outcome_COMMITTED s_HEURISTICALLY_ABORTED s_HEURISTICALLY_COMMITTED s_Joined_State_COMMITTED s_HEURISTIC_ABORT s_HEURISTIC_COMMIT s_COMMITTED_AGAINST_HEURISTIC s_HEURISTIC_MISMATCH s_COMMITTED_IN_ONE_PHASE s_TxnStatus_COMMITTED s_ABORTED_AGAINST_HEURISTIC s_Outcome_ABORTED s_PRE_ABORTED s_PRE_COMMITTED s_Joined_State_ABORTED s_TxnStatus_ABORTED h0 n0 Z0 G0) hZ (hw _ (List.mem_of_getElem? (i := 12) rfl)) (hw _ (List.mem_of_getElem? (i := 6) rfl)) (by decide) (by decide)) q2a q2c (g := (mkF m 26 #[.val (.int p1), .val (.int p2), .val (.int (1 : Int32)), .val (.ref s_PRE_COMMITTED), .val (.int (1 : Int32)), .unset, .unset, .unset] [(.ref s_PRE_COMMITTED)])) rfl (by rw [hml]; rfl) (Steps.refl _) (argsL := []) (rest := []) (lenOf pd_2 rfl) rfl (by show 2 * 0 + _ ≤ _; exact Nat.le_of_eq rfl) (hb hby at_26) (fun _ _ => ⟨rfl, e1, (by decide : 0 + 0 ≤ _), (by decide : 0 + 0 ≤ _)⟩)
  dsimp only [Pt.U, Pt.locs, Pt.cells, Pt.slots] at X2 l2 y2 z2 st2 hQ2
  subst l2 y2 z2
  obtain ⟨rfl, N2q, e2⟩ := hQ2
  have N2 := Fr.app N1 N2q
  obtain ⟨cq3, kq3, q3a, q3b, q3c⟩ := isOf hZ e2 E_PRE_COMMITTED
  obtain ⟨_, _, ⟨T3, L3, k3, n3⟩, -, X3, ⟨Lc3, hQ3, l3, y3, z3⟩, st3⟩ := X2.virtualBack hx (y := (⟨"com/example/unanimity/unanimity/core/Joined$State", "inDoubt", "()Z"⟩ : MethodName)) (z := (⟨"com/example/unanimity/unanimity/core/Joined$State", "inDoubt", "()Z"⟩ : MethodName)) hown (mvT hZ (hw _ (List.mem_of_getElem? (i := 15) rfl))) (mvT hZ (hw _ (List.mem_of_getElem? (i := 16) rfl))) (notFace_of_selects (args := #[]) (mvT hZ (hw _ (List.mem_of_getElem? (i := 18) rfl)))) (mvT hZ (hw _ (List.mem_of_getElem? (i := 18) rfl))) (mvT hZ (hw _ (List.mem_of_getElem? (i := 17) rfl))) (by decide) (backOf (W := 0) (r_in_1 l Z a0 hw [] s_PREPARED s_IN_DOUBT s_Outcome_COMMITTED s_HEURISTICALLY_ABORTED s_HEURISTICALLY_COMMITTED s_Joined_State_COMMITTED s_HEURISTIC_ABORT s_HEURISTIC_COMMIT s_COMMITTED_AGAINST_HEURISTIC s_HEURISTIC_MISMATCH s_COMMITTED_IN_ONE_PHASE s_TxnStatus_COMMITTED s_ABORTED_AGAINST_HEURISTIC s_Outcome_ABORTED s_PRE_ABORTED s_PRE_COMMITTED s_Joined_State_ABORTED s_TxnStatus_ABORTED h0 n0 Z0 G0) hZ (hw _ (List.mem_of_getElem? (i := 19) rfl)) (hw _ (List.mem_of_getElem? (i := 6) rfl)) (by decide) (by decide)) q3a q3c (g := (mkF m 41 #[.val (.int p1), .val (.int p2), .val (.int (1 : Int32)), .val (.ref s_PRE_COMMITTED), .val (.int (1 : Int32)), .val (.int (1 : Int32)), .unset, .unset] [(.ref s_PRE_COMMITTED)])) rfl (by rw [hml]; rfl) (Steps.refl _) (argsL := []) (rest := []) (lenOf pd_2 rfl) rfl (by show 2 * 0 + _ ≤ _; exact Nat.le_of_eq rfl) (hb hby at_41) (fun _ _ => ⟨rfl, e2, (by decide : 0 + 0 ≤ _), (by decide : 0 + 0 ≤ _)⟩)
  dsimp only [Pt.U, Pt.locs, Pt.cells, Pt.slots] at X3 l3 y3 z3 st3 hQ3
  subst l3 y3 z3
  obtain ⟨rfl, N3q, e3⟩ := hQ3
  have N3 := Fr.app N2 N3q
  obtain ⟨T4, X4, e4, st4⟩ := getS2 X3 hx hZ hown (host := "") (Or.inl (hw _ (List.mem_of_getElem? (i := 25) rfl))) Via.refl e3 S_Outcome_COMMITTED (g := (mkF m 94 #[.val (.int p1), .val (.int p2), .val (.int (1 : Int32)), .val (.ref s_PRE_COMMITTED), .val (.int (1 : Int32)), .val (.int (1 : Int32)), .val (.int (1 : Int32)), .unset] [])) rfl (hb hby at_94)
  obtain ⟨cq5, kq5, q5a, q5b, q5c⟩ := isOf hZ e4 E_PRE_COMMITTED
  obtain ⟨_, _, ⟨T5, L5, k5, n5⟩, -, X5, ⟨Lc5, hQ5, l5, y5, z5⟩, st5⟩ := X4.virtualBack hx (y := (⟨"com/example/unanimity/unanimity/core/Joined$State", "after", "(Lcom/example/unanimity/unanimity/core/Outcome;)Lcom/example/unanimity/unanimity/core/Joined$State;"⟩ : MethodName)) (z := (⟨"com/example/unanimity/unanimity/core/Joined$State", "after", "(Lcom/example/unanimity/unanimity/core/Outcome;)Lcom/example/unanimity/unanimity/core/Joined$State;"⟩ : MethodName)) hown (mvT hZ (hw _ (List.mem_of_getElem? (i := 28) rfl))) (mvT hZ (hw _ (List.mem_of_getElem? (i := 29) rfl))) (notFace_of_selects (args := #[]) (mvT hZ (hw _ (List.mem_of_getElem? (i := 31) rfl)))) (mvT hZ (hw _ (List.mem_of_getElem? (i := 31) rfl))) (mvT hZ (hw _ (List.mem_of_getElem? (i := 30) rfl))) (by decide) (backOf (W := 0) (r_after_1_Outcome_COMMITTED l Z a0 hw [] s_PREPARED s_IN_DOUBT s_Outcome_COMMITTED s_HEURISTICALLY_ABORTED s_HEURISTICALLY_COMMITTED s_Joined_State_COMMITTED s_HEURISTIC_ABORT s_HEURISTIC_COMMIT s_COMMITTED_AGAINST_HEURISTIC s_HEURISTIC_MISMATCH s_COMMITTED_IN_ONE_PHASE s_TxnStatus_COMMITTED s_ABORTED_AGAINST_HEURISTIC s_Outcome_ABORTED s_PRE_ABORTED s_PRE_COMMITTED s_Joined_State_ABORTED s_TxnStatus_ABORTED h0 n0 Z0 G0) hZ (hw _ (List.mem_of_getElem? (i := 32) rfl)) (hw _ (List.mem_of_getElem? (i := 6) rfl)) (by decide) (by decide)) q5a q5c (g := (mkF m 108 #[.val (.int p1), .val (.int p2), .val (.int (1 : Int32)), .val (.ref s_PRE_COMMITTED), .val (.int (1 : Int32)), .val (.int (1 : Int32)), .val (.int (1 : Int32)), .val (.ref s_Outcome_COMMITTED)] [(.ref s_Outcome_COMMITTED), (.ref s_PRE_COMMITTED)])) rfl (by rw [hml]; rfl) (Steps.refl _) (argsL := [(.ref s_Outcome_COMMITTED)]) (rest := []) (lenOf pd_0 rfl) rfl (by show 2 * 0 + _ ≤ _; exact Nat.le_of_eq rfl) (hb hby at_108) (fun _ _ => ⟨rfl, e4, (by decide : 0 + 0 ≤ _), (by decide : 0 + 0 ≤ _)⟩)
  dsimp only [Pt.U, Pt.locs, Pt.cells, Pt.slots] at X5 l5 y5 z5 st5 hQ5
  subst l5 y5 z5
  obtain ⟨rfl, N5q, e5⟩ := hQ5
  have N5 := Fr.app N3 N5q
  obtain ⟨cq6, kq6, q6a, q6b, q6c⟩ := isOf hZ e5 E_Joined_State_COMMITTED
  obtain ⟨_, _, ⟨T6, L6, k6, n6⟩, -, X6, ⟨Lc6, hQ6, l6, y6, z6⟩, st6⟩ := X5.virtualBack hx (y := (⟨"com/example/unanimity/unanimity/core/Joined$State", "awaitsDecision", "()Z"⟩ : MethodName)) (z := (⟨"com/example/unanimity/unanimity/core/Joined$State", "awaitsDecision", "()Z"⟩ : MethodName)) hown (mvT hZ (hw _ (List.mem_of_getElem? (i := 8) rfl))) (mvT hZ (hw _ (List.mem_of_getElem? (i := 9) rfl))) (notFace_of_selects (args := #[]) (mvT hZ (hw _ (List.mem_of_getElem? (i := 11) rfl)))) (mvT hZ (hw _ (List.mem_of_getElem? (i := 11) rfl))) (mvT hZ (hw _ (List.mem_of_getElem? (i := 10) rfl))) (by decide) (backOf (W := 0) (r_aw_5 l Z a0 hw [] s_PREPARED s_IN_DOUBT s_Outcome_COMMITTED s_HEURISTICALLY_ABORTED s_HEURISTICALLY_COMMITTED s_Joined_State_COMMITTED s_HEURISTIC_ABORT s_HEURISTIC_COMMIT s_COMMITTED_AGAINST_HEURISTIC s_HEURISTIC_MISMATCH s_COMMITTED_IN_ONE_PHASE s_TxnStatus_COMMITTED s_ABORTED_AGAINST_HEURISTIC s_Outcome_ABORTED s_PRE_ABORTED s_PRE_COMMITTED s_Joined_State_ABORTED s_TxnStatus_ABORTED h0 n0 Z0 G0) hZ (hw _ (List.mem_of_getElem? (i := 12) rfl)) (hw _ (List.mem_of_getElem? (i := 6) rfl)) (by decide) (by decide)) q6a q6c (g := (mkF m 111 #[.val (.int p1), .val (.int p2), .val (.int (1 : Int32)), .val (.ref s_PRE_COMMITTED), .val (.int (1 : Int32)), .val (.int (1 : Int32)), .val (.int (1 : Int32)), .val (.ref s_Outcome_COMMITTED)] [(.ref s_Joined_State_COMMITTED)])) rfl (by rw [hml]; rfl) (Steps.refl _) (argsL := []) (rest := []) (lenOf pd_2 rfl) rfl (by show 2 * 0 + _ ≤ _; exact Nat.le_of_eq rfl) (hb hby at_111) (fun _ _ => ⟨rfl, e5, (by decide : 0 + 0 ≤ _), (by decide : 0 + 0 ≤ _)⟩)
  dsimp only [Pt.U, Pt.locs, Pt.cells, Pt.slots] at X6 l6 y6 z6 st6 hQ6
  subst l6 y6 z6
  obtain ⟨rfl, N6q, e6⟩ := hQ6
  have N6 := Fr.app N5 N6q
  obtain ⟨fs, hr, hrun, hended, hW, hsame⟩ := X6.leave (v := some (.int (1 : Int32))) (fun h => by rw [Bd.returns] at h; cases h)
  refine ⟨_, _, pre0 _ ?_, hrun, hended, _, _, rfl, ?_, ⟨_, rfl⟩, hW, hsame.mono (by decide) (by decide)⟩
  · show Steps p.tables e below (s₁.setTop (mkF m 0 #[.val (.int p1), .val (.int p2), .unset, .unset, .unset, .unset, .unset, .unset] [])) _
    refine XS.iloadN X0.here hx rfl (hb hby at_0) rfl ?_
    show Steps p.tables e below (s₁.setTop (mkF m 1 #[.val (.int p1), .val (.int p2), .unset, .unset, .unset, .unset, .unset, .unset] [(.int p1)])) _
    refine X0.ldcInt hx hown (mvT hZ (hw _ (List.mem_of_getElem? (i := 0) rfl))) (g := (mkF m 1 #[.val (.int p1), .val (.int p2), .unset, .unset, .unset, .unset, .unset, .unset] [(.int p1)])) rfl (hb hby at_1) _ ?_
    show Steps p.tables e below (s₁.setTop (mkF m 3 #[.val (.int p1), .val (.int p2), .unset, .unset, .unset, .unset, .unset, .unset] [(.int (2147483647 : Int32)), (.int p1)])) _
    refine XS.iand X0.here hx rfl (hb hby at_3) rfl ?_
    show Steps p.tables e below (s₁.setTop (mkF m 4 #[.val (.int p1), .val (.int p2), .unset, .unset, .unset, .unset, .unset, .unset] [(.int (p1 &&& (2147483647 : Int32)))])) _
    refine XS.bipush X0.here hx rfl (hb hby at_4) ?_
    show Steps p.tables e below (s₁.setTop (mkF m 6 #[.val (.int p1), .val (.int p2), .unset, .unset, .unset, .unset, .unset, .unset] [(.int (10 : Int32)), (.int (p1 &&& (2147483647 : Int32)))])) _
    refine iremM X0 hx rfl (hb hby at_6) rfl (by decide) ?_
    show Steps p.tables e below (s₁.setTop (mkF m 7 #[.val (.int p1), .val (.int p2), .unset, .unset, .unset, .unset, .unset, .unset] [(.int ((p1 &&& (2147483647 : Int32)) % (10 : Int32)))])) _
    rw [hk]
    show Steps p.tables e below (s₁.setTop (mkF m 7 #[.val (.int p1), .val (.int p2), .unset, .unset, .unset, .unset, .unset, .unset] [(.int (1 : Int32))])) _
    refine XS.istoreN X0.here hx rfl (hb hby at_7) rfl (l' := #[.val (.int p1), .val (.int p2), .val (.int (1 : Int32)), .unset, .unset, .unset, .unset, .unset]) rfl ?_
    show Steps p.tables e below (s₁.setTop (mkF m 8 #[.val (.int p1), .val (.int p2), .val (.int (1 : Int32)), .unset, .unset, .unset, .unset, .unset] [])) _
    refine XS.iloadN X0.here hx rfl (hb hby at_8) rfl ?_
    show Steps p.tables e below (s₁.setTop (mkF m 9 #[.val (.int p1), .val (.int p2), .val (.int (1 : Int32)), .unset, .unset, .unset, .unset, .unset] [(.int (1 : Int32))])) _
    refine st1 _ ?_
    show Steps p.tables e below (T1.setTop (mkF m 12 #[.val (.int p1), .val (.int p2), .val (.int (1 : Int32)), .unset, .unset, .unset, .unset, .unset] [(.ref s_PRE_COMMITTED)])) _
    refine XS.astoreN X1.here hx rfl (hb hby at_12) rfl rfl (l' := #[.val (.int p1), .val (.int p2), .val (.int (1 : Int32)), .val (.ref s_PRE_COMMITTED), .unset, .unset, .unset, .unset]) rfl ?_
    show Steps p.tables e below (T1.setTop (mkF m 13 #[.val (.int p1), .val (.int p2), .val (.int (1 : Int32)), .val (.ref s_PRE_COMMITTED), .unset, .unset, .unset, .unset] [])) _
    refine XS.iloadN X1.here hx rfl (hb hby at_13) rfl ?_
    show Steps p.tables e below (T1.setTop (mkF m 14 #[.val (.int p1), .val (.int p2), .val (.int (1 : Int32)), .val (.ref s_PRE_COMMITTED), .unset, .unset, .unset, .unset] [(.int (1 : Int32))])) _
    refine XS.iconst X1.here hx rfl (hb hby at_14) ?_
    show Steps p.tables e below (T1.setTop (mkF m 15 #[.val (.int p1), .val (.int p2), .val (.int (1 : Int32)), .val (.ref s_PRE_COMMITTED), .unset, .unset, .unset, .unset] [(.int (5 : Int32)), (.int (1 : Int32))])) _
    refine XS.icmpNo X1.here hx rfl (hb hby at_15) rfl (tlt (by decide : (1 : Int32) < (5 : Int32))).2.1 ?_
    show Steps p.tables e below (T1.setTop (mkF m 18 #[.val (.int p1), .val (.int p2), .val (.int (1 : Int32)), .val (.ref s_PRE_COMMITTED), .unset, .unset, .unset, .unset] [])) _
    refine XS.iconst X1.here hx rfl (hb hby at_18) ?_
    show Steps p.tables e below (T1.setTop (mkF m 19 #[.val (.int p1), .val (.int p2), .val (.int (1 : Int32)), .val (.ref s_PRE_COMMITTED), .unset, .unset, .unset, .unset] [(.int (1 : Int32))])) _
    refine XS.goto X1.here hx rfl (pc0 := 19) (pc' := 23) rfl (hb hby at_19) (by decide) (by decide) ?_
    show Steps p.tables e below (T1.setTop (mkF m 23 #[.val (.int p1), .val (.int p2), .val (.int (1 : Int32)), .val (.ref s_PRE_COMMITTED), .unset, .unset, .unset, .unset] [(.int (1 : Int32))])) _
    refine XS.istore X1.here hx rfl (hb hby at_23) rfl (l' := #[.val (.int p1), .val (.int p2), .val (.int (1 : Int32)), .val (.ref s_PRE_COMMITTED), .val (.int (1 : Int32)), .unset, .unset, .unset]) rfl ?_
    show Steps p.tables e below (T1.setTop (mkF m 25 #[.val (.int p1), .val (.int p2), .val (.int (1 : Int32)), .val (.ref s_PRE_COMMITTED), .val (.int (1 : Int32)), .unset, .unset, .unset] [])) _
    refine XS.aloadN X1.here hx rfl (hb hby at_25) rfl rfl ?_
    show Steps p.tables e below (T1.setTop (mkF m 26 #[.val (.int p1), .val (.int p2), .val (.int (1 : Int32)), .val (.ref s_PRE_COMMITTED), .val (.int (1 : Int32)), .unset, .unset, .unset] [(.ref s_PRE_COMMITTED)])) _
    refine st2.trans ?_
    show Steps p.tables e below (T2.setTop (mkF m 29 #[.val (.int p1), .val (.int p2), .val (.int (1 : Int32)), .val (.ref s_PRE_COMMITTED), .val (.int (1 : Int32)), .unset, .unset, .unset] [(.int (1 : Int32))])) _
    refine XS.istore X2.here hx rfl (hb hby at_29) rfl (l' := #[.val (.int p1), .val (.int p2), .val (.int (1 : Int32)), .val (.ref s_PRE_COMMITTED), .val (.int (1 : Int32)), .val (.int (1 : Int32)), .unset, .unset]) rfl ?_
    show Steps p.tables e below (T2.setTop (mkF m 31 #[.val (.int p1), .val (.int p2), .val (.int (1 : Int32)), .val (.ref s_PRE_COMMITTED), .val (.int (1 : Int32)), .val (.int (1 : Int32)), .unset, .unset] [])) _
    refine XS.iload X2.here hx rfl (hb hby at_31) rfl ?_
    show Steps p.tables e below (T2.setTop (mkF m 33 #[.val (.int p1), .val (.int p2), .val (.int (1 : Int32)), .val (.ref s_PRE_COMMITTED), .val (.int (1 : Int32)), .val (.int (1 : Int32)), .unset, .unset] [(.int (1 : Int32))])) _
    refine XS.iload X2.here hx rfl (hb hby at_33) rfl ?_
    show Steps p.tables e below (T2.setTop (mkF m 35 #[.val (.int p1), .val (.int p2), .val (.int (1 : Int32)), .val (.ref s_PRE_COMMITTED), .val (.int (1 : Int32)), .val (.int (1 : Int32)), .unset, .unset] [(.int (1 : Int32)), (.int (1 : Int32))])) _
    refine XS.icmpYes X2.here hx rfl (pc0 := 35) (pc' := 40) rfl (hb hby at_35) rfl (teq (by decide : (1 : Int32) = (1 : Int32))).1 (by decide) (by decide) ?_
    show Steps p.tables e below (T2.setTop (mkF m 40 #[.val (.int p1), .val (.int p2), .val (.int (1 : Int32)), .val (.ref s_PRE_COMMITTED), .val (.int (1 : Int32)), .val (.int (1 : Int32)), .unset, .unset] [])) _
    refine XS.aloadN X2.here hx rfl (hb hby at_40) rfl rfl ?_
    show Steps p.tables e below (T2.setTop (mkF m 41 #[.val (.int p1), .val (.int p2), .val (.int (1 : Int32)), .val (.ref s_PRE_COMMITTED), .val (.int (1 : Int32)), .val (.int (1 : Int32)), .unset, .unset] [(.ref s_PRE_COMMITTED)])) _
    refine st3.trans ?_
    show Steps p.tables e below (T3.setTop (mkF m 44 #[.val (.int p1), .val (.int p2), .val (.int (1 : Int32)), .val (.ref s_PRE_COMMITTED), .val (.int (1 : Int32)), .val (.int (1 : Int32)), .unset, .unset] [(.int (1 : Int32))])) _
    refine XS.ifYes X3.here hx rfl (pc0 := 44) (pc' := 67) rfl (hb hby at_44) rfl ((if0 _ _).trans (feq (by decide : ¬ ((1 : Int32) = (0 : Int32)))).2) (by decide) (by decide) ?_
    show Steps p.tables e below (T3.setTop (mkF m 67 #[.val (.int p1), .val (.int p2), .val (.int (1 : Int32)), .val (.ref s_PRE_COMMITTED), .val (.int (1 : Int32)), .val (.int (1 : Int32)), .unset, .unset] [])) _
    refine XS.iconst X3.here hx rfl (hb hby at_67) ?_
    show Steps p.tables e below (T3.setTop (mkF m 68 #[.val (.int p1), .val (.int p2), .val (.int (1 : Int32)), .val (.ref s_PRE_COMMITTED), .val (.int (1 : Int32)), .val (.int (1 : Int32)), .unset, .unset] [(.int (1 : Int32))])) _
    refine XS.goto X3.here hx rfl (pc0 := 68) (pc' := 72) rfl (hb hby at_68) (by decide) (by decide) ?_
    show Steps p.tables e below (T3.setTop (mkF m 72 #[.val (.int p1), .val (.int p2), .val (.int (1 : Int32)), .val (.ref s_PRE_COMMITTED), .val (.int (1 : Int32)), .val (.int (1 : Int32)), .unset, .unset] [(.int (1 : Int32))])) _
    refine XS.istore X3.here hx rfl (hb hby at_72) rfl (l' := #[.val (.int p1), .val (.int p2), .val (.int (1 : Int32)), .val (.ref s_PRE_COMMITTED), .val (.int (1 : Int32)), .val (.int (1 : Int32)), .val (.int (1 : Int32)), .unset]) rfl ?_
    show Steps p.tables e below (T3.setTop (mkF m 74 #[.val (.int p1), .val (.int p2), .val (.int (1 : Int32)), .val (.ref s_PRE_COMMITTED), .val (.int (1 : Int32)), .val (.int (1 : Int32)), .val (.int (1 : Int32)), .unset] [])) _
    refine XS.iload X3.here hx rfl (hb hby at_74) rfl ?_
    show Steps p.tables e below (T3.setTop (mkF m 76 #[.val (.int p1), .val (.int p2), .val (.int (1 : Int32)), .val (.ref s_PRE_COMMITTED), .val (.int (1 : Int32)), .val (.int (1 : Int32)), .val (.int (1 : Int32)), .unset] [(.int (1 : Int32))])) _
    refine XS.iload X3.here hx rfl (hb hby at_76) rfl ?_
    show Steps p.tables e below (T3.setTop (mkF m 78 #[.val (.int p1), .val (.int p2), .val (.int (1 : Int32)), .val (.ref s_PRE_COMMITTED), .val (.int (1 : Int32)), .val (.int (1 : Int32)), .val (.int (1 : Int32)), .unset] [(.int (1 : Int32)), (.int (1 : Int32))])) _
    refine XS.icmpYes X3.here hx rfl (pc0 := 78) (pc' := 83) rfl (hb hby at_78) rfl (teq (by decide : (1 : Int32) = (1 : Int32))).1 (by decide) (by decide) ?_
    show Steps p.tables e below (T3.setTop (mkF m 83 #[.val (.int p1), .val (.int p2), .val (.int (1 : Int32)), .val (.ref s_PRE_COMMITTED), .val (.int (1 : Int32)), .val (.int (1 : Int32)), .val (.int (1 : Int32)), .unset] [])) _
    refine XS.iload X3.here hx rfl (hb hby at_83) rfl ?_
    show Steps p.tables e below (T3.setTop (mkF m 85 #[.val (.int p1), .val (.int p2), .val (.int (1 : Int32)), .val (.ref s_PRE_COMMITTED), .val (.int (1 : Int32)), .val (.int (1 : Int32)), .val (.int (1 : Int32)), .unset] [(.int (1 : Int32))])) _
    refine XS.ifNo X3.here hx rfl (hb hby at_85) rfl ((if0 _ _).trans (feq (by decide : ¬ ((1 : Int32) = (0 : Int32)))).1) ?_
    show Steps p.tables e below (T3.setTop (mkF m 88 #[.val (.int p1), .val (.int p2), .val (.int (1 : Int32)), .val (.ref s_PRE_COMMITTED), .val (.int (1 : Int32)), .val (.int (1 : Int32)), .val (.int (1 : Int32)), .unset] [])) _
    refine XS.iloadN X3.here hx rfl (hb hby at_88) rfl ?_
    show Steps p.tables e below (T3.setTop (mkF m 89 #[.val (.int p1), .val (.int p2), .val (.int (1 : Int32)), .val (.ref s_PRE_COMMITTED), .val (.int (1 : Int32)), .val (.int (1 : Int32)), .val (.int (1 : Int32)), .unset] [(.int p2)])) _
    refine XS.iconst X3.here hx rfl (hb hby at_89) ?_
    show Steps p.tables e below (T3.setTop (mkF m 90 #[.val (.int p1), .val (.int p2), .val (.int (1 : Int32)), .val (.ref s_PRE_COMMITTED), .val (.int (1 : Int32)), .val (.int (1 : Int32)), .val (.int (1 : Int32)), .unset] [(.int (1 : Int32)), (.int p2)])) _
    refine XS.iand X3.here hx rfl (hb hby at_90) rfl ?_
    show Steps p.tables e below (T3.setTop (mkF m 91 #[.val (.int p1), .val (.int p2), .val (.int (1 : Int32)), .val (.ref s_PRE_COMMITTED), .val (.int (1 : Int32)), .val (.int (1 : Int32)), .val (.int (1 : Int32)), .unset] [(.int (p2 &&& (1 : Int32)))])) _
    rw [hf]
    show Steps p.tables e below (T3.setTop (mkF m 91 #[.val (.int p1), .val (.int p2), .val (.int (1 : Int32)), .val (.ref s_PRE_COMMITTED), .val (.int (1 : Int32)), .val (.int (1 : Int32)), .val (.int (1 : Int32)), .unset] [(.int (1 : Int32))])) _
    refine XS.ifNo X3.here hx rfl (hb hby at_91) rfl ((if0 _ _).trans (feq (by decide : ¬ ((1 : Int32) = (0 : Int32)))).1) ?_
    show Steps p.tables e below (T3.setTop (mkF m 94 #[.val (.int p1), .val (.int p2), .val (.int (1 : Int32)), .val (.ref s_PRE_COMMITTED), .val (.int (1 : Int32)), .val (.int (1 : Int32)), .val (.int (1 : Int32)), .unset] [])) _
    refine st4 _ ?_
    show Steps p.tables e below (T4.setTop (mkF m 97 #[.val (.int p1), .val (.int p2), .val (.int (1 : Int32)), .val (.ref s_PRE_COMMITTED), .val (.int (1 : Int32)), .val (.int (1 : Int32)), .val (.int (1 : Int32)), .unset] [(.ref s_Outcome_COMMITTED)])) _
    refine XS.goto X4.here hx rfl (pc0 := 97) (pc' := 103) rfl (hb hby at_97) (by decide) (by decide) ?_
    show Steps p.tables e below (T4.setTop (mkF m 103 #[.val (.int p1), .val (.int p2), .val (.int (1 : Int32)), .val (.ref s_PRE_COMMITTED), .val (.int (1 : Int32)), .val (.int (1 : Int32)), .val (.int (1 : Int32)), .unset] [(.ref s_Outcome_COMMITTED)])) _
    refine XS.astore X4.here hx rfl (hb hby at_103) rfl rfl (l' := #[.val (.int p1), .val (.int p2), .val (.int (1 : Int32)), .val (.ref s_PRE_COMMITTED), .val (.int (1 : Int32)), .val (.int (1 : Int32)), .val (.int (1 : Int32)), .val (.ref s_Outcome_COMMITTED)]) rfl ?_
    show Steps p.tables e below (T4.setTop (mkF m 105 #[.val (.int p1), .val (.int p2), .val (.int (1 : Int32)), .val (.ref s_PRE_COMMITTED), .val (.int (1 : Int32)), .val (.int (1 : Int32)), .val (.int (1 : Int32)), .val (.ref s_Outcome_COMMITTED)] [])) _
    refine XS.aloadN X4.here hx rfl (hb hby at_105) rfl rfl ?_
    show Steps p.tables e below (T4.setTop (mkF m 106 #[.val (.int p1), .val (.int p2), .val (.int (1 : Int32)), .val (.ref s_PRE_COMMITTED), .val (.int (1 : Int32)), .val (.int (1 : Int32)), .val (.int (1 : Int32)), .val (.ref s_Outcome_COMMITTED)] [(.ref s_PRE_COMMITTED)])) _
    refine XS.aload X4.here hx rfl (hb hby at_106) rfl rfl ?_
    show Steps p.tables e below (T4.setTop (mkF m 108 #[.val (.int p1), .val (.int p2), .val (.int (1 : Int32)), .val (.ref s_PRE_COMMITTED), .val (.int (1 : Int32)), .val (.int (1 : Int32)), .val (.int (1 : Int32)), .val (.ref s_Outcome_COMMITTED)] [(.ref s_Outcome_COMMITTED), (.ref s_PRE_COMMITTED)])) _
    refine st5.trans ?_
    show Steps p.tables e below (T5.setTop (mkF m 111 #[.val (.int p1), .val (.int p2), .val (.int (1 : Int32)), .val (.ref s_PRE_COMMITTED), .val (.int (1 : Int32)), .val (.int (1 : Int32)), .val (.int (1 : Int32)), .val (.ref s_Outcome_COMMITTED)] [(.ref s_Joined_State_COMMITTED)])) _
    refine st6.trans ?_
    show Steps p.tables e below (T6.setTop (mkF m 114 #[.val (.int p1), .val (.int p2), .val (.int (1 : Int32)), .val (.ref s_PRE_COMMITTED), .val (.int (1 : Int32)), .val (.int (1 : Int32)), .val (.int (1 : Int32)), .val (.ref s_Outcome_COMMITTED)] [(.int (0 : Int32))])) _
    refine XS.ifYes X6.here hx rfl (pc0 := 114) (pc' := 119) rfl (hb hby at_114) rfl ((if0 _ _).trans (teq (by decide : (0 : Int32) = (0 : Int32))).1) (by decide) (by decide) ?_
    show Steps p.tables e below (T6.setTop (mkF m 119 #[.val (.int p1), .val (.int p2), .val (.int (1 : Int32)), .val (.ref s_PRE_COMMITTED), .val (.int (1 : Int32)), .val (.int (1 : Int32)), .val (.int (1 : Int32)), .val (.ref s_Outcome_COMMITTED)] [])) _
    refine XS.iconst X6.here hx rfl (hb hby at_119) ?_
    show Steps p.tables e below (T6.setTop (mkF m 120 #[.val (.int p1), .val (.int p2), .val (.int (1 : Int32)), .val (.ref s_PRE_COMMITTED), .val (.int (1 : Int32)), .val (.int (1 : Int32)), .val (.int (1 : Int32)), .val (.ref s_Outcome_COMMITTED)] [(.int (1 : Int32))])) _
    exact retN X6 hx (t := .boolean) Bd.returns (by simp) (hb hby at_120) hr
  · show own_Q (some (.int (1 : Int32))) h0 n0 _ T6.heap _
    rw [e6]
    exact ⟨rfl, N6, rfl⟩
theorem d1_17 : decode method_2_code 17 = .ok (.iload_n 0, 1) := by decide +kernel
theorem d1_18 : decode method_2_code 18 = .ok (.iconst 2, 1) := by decide +kernel
theorem d1_19 : decode method_2_code 19 = .ok (.if_icmp .ne 7, 3) := by decide +kernel
theorem d1_22 : decode method_2_code 22 = .ok (.getstatic 16, 3) := by decide +kernel
theorem d1_25 : decode method_2_code 25 = .ok (.areturn, 1) := by decide +kernel
set_option maxRecDepth 65536 in
set_option maxHeartbeats 40000000 in
theorem r_pick_2 (l : Launch) (Z : State) (a0 : Array Value) (hw : ∀ d ∈ tables_1, d.before a0 Z = true) (ws : List Jvm.Cond) (s_PREPARED s_IN_DOUBT s_Outcome_COMMITTED s_HEURISTICALLY_ABORTED s_HEURISTICALLY_COMMITTED s_Joined_State_COMMITTED s_HEURISTIC_ABORT s_HEURISTIC_COMMIT s_COMMITTED_AGAINST_HEURISTIC s_HEURISTIC_MISMATCH s_COMMITTED_IN_ONE_PHASE s_TxnStatus_COMMITTED s_ABORTED_AGAINST_HEURISTIC s_Outcome_ABORTED s_PRE_ABORTED s_PRE_COMMITTED s_Joined_State_ABORTED s_TxnStatus_ABORTED : Addr) (h0 : Heap) (n0 : Nat) (Z0 : n0 ≤ h0.size) (G : own_Ctx Z h0 s_PREPARED s_IN_DOUBT s_Outcome_COMMITTED s_HEURISTICALLY_ABORTED s_HEURISTICALLY_COMMITTED s_Joined_State_COMMITTED s_HEURISTIC_ABORT s_HEURISTIC_COMMIT s_COMMITTED_AGAINST_HEURISTIC s_HEURISTIC_MISMATCH s_COMMITTED_IN_ONE_PHASE s_TxnStatus_COMMITTED s_ABORTED_AGAINST_HEURISTIC s_Outcome_ABORTED s_PRE_ABORTED s_PRE_COMMITTED s_Joined_State_ABORTED s_TxnStatus_ABORTED)   :
    MetFree l (⟨"com/example/unanimity/unanimity/core/StateAwaitsDecisionPinLaw", "pick", "(I)Lcom/example/unanimity/unanimity/core/Joined$State;"⟩ : MethodName) (head1 (Jvm.Cond.code (⟨"com/example/unanimity/unanimity/core/StateAwaitsDecisionPinLaw", "pick", "(I)Lcom/example/unanimity/unanimity/core/Joined$State;"⟩ : MethodName) method_2_code 1 (some (.object "com/example/unanimity/unanimity/core/Joined$State")) :: ws) ({ frames := 0, cells := 0, slots := 0, locals := 0 } : Room)) (fun a U => a = #[(.int (2 : Int32))] ∧ Z.Warmed39 U.vm ∧ U.heap = h0) (fun _ _ _ _ _ => True) (fun _ U o U' => ∃ v L, o = .returned v ∧ own_Q (some (.ref s_PRE_ABORTED)) h0 n0 v U'.heap L ∧ FrameEnd U o U' L ({ frames := 0, cells := 0, slots := 0, locals := 0 } : Room).cells ({ frames := 0, cells := 0, slots := 0, locals := 0 } : Room).slots) := by
  have G0 := G
  obtain ⟨S_PREPARED, E_PREPARED, O_PREPARED, S_IN_DOUBT, E_IN_DOUBT, O_IN_DOUBT, S_Outcome_COMMITTED, E_Outcome_COMMITTED, O_Outcome_COMMITTED, S_HEURISTICALLY_ABORTED, E_HEURISTICALLY_ABORTED, O_HEURISTICALLY_ABORTED, S_HEURISTICALLY_COMMITTED, E_HEURISTICALLY_COMMITTED, O_HEURISTICALLY_COMMITTED, S_Joined_State_COMMITTED, E_Joined_State_COMMITTED, S_HEURISTIC_ABORT, E_HEURISTIC_ABORT, O_HEURISTIC_ABORT, S_HEURISTIC_COMMIT, E_HEURISTIC_COMMIT, O_HEURISTIC_COMMIT, S_COMMITTED_AGAINST_HEURISTIC, E_COMMITTED_AGAINST_HEURISTIC, S_HEURISTIC_MISMATCH, E_HEURISTIC_MISMATCH, O_HEURISTIC_MISMATCH, S_COMMITTED_IN_ONE_PHASE, E_COMMITTED_IN_ONE_PHASE, S_TxnStatus_COMMITTED, E_TxnStatus_COMMITTED, O_TxnStatus_COMMITTED, S_ABORTED_AGAINST_HEURISTIC, E_ABORTED_AGAINST_HEURISTIC, S_Outcome_ABORTED, E_Outcome_ABORTED, O_Outcome_ABORTED, S_PRE_ABORTED, E_PRE_ABORTED, O_PRE_ABORTED, S_PRE_COMMITTED, E_PRE_COMMITTED, O_PRE_COMMITTED, S_Joined_State_ABORTED, E_Joined_State_ABORTED, S_TxnStatus_ABORTED, E_TxnStatus_ABORTED, O_TxnStatus_ABORTED, F_decision_PREPARED, F_status_PREPARED, F_decision_Joined_State_COMMITTED, F_decision_HEURISTICALLY_ABORTED, F_status_HEURISTICALLY_ABORTED, F_decision_COMMITTED_AGAINST_HEURISTIC, F_status_COMMITTED_AGAINST_HEURISTIC, F_decision_COMMITTED_IN_ONE_PHASE, F_status_COMMITTED_IN_ONE_PHASE, F_decision_ABORTED_AGAINST_HEURISTIC, F_status_ABORTED_AGAINST_HEURISTIC, F_decision_PRE_ABORTED, F_status_PRE_ABORTED, F_decision_HEURISTICALLY_COMMITTED, F_status_HEURISTICALLY_COMMITTED, F_decision_PRE_COMMITTED, F_status_PRE_COMMITTED, F_decision_Joined_State_ABORTED, F_status_Joined_State_COMMITTED, F_status_Joined_State_ABORTED⟩ := G
  refine MetFree.of_bodySF (plainFor_of_name pn_1) hisR ?_
  intro p e s m args below meth c s₁ Bd hml0 hP hK
  obtain ⟨rfl, hZ, hh⟩ := hP
  have hx := Bd.exec
  have hby := Bd.bytes
  have hml : c.maxLocals = 1 := hml0
  have hown : s.vm.findClass "com/example/unanimity/unanimity/core/StateAwaitsDecisionPinLaw" = some m.cls := findClass_of_methodNamed Bd.named
  have hnm := (name_of_methodNamed Bd.named Bd.method).1
  have X0 : Stand p l e ({ frames := 0, cells := 0, slots := 0, locals := 0 } : Room) s m #[(.int (2 : Int32))] below meth c s₁ [] 0 0 := Stand.of_body Bd
  have e0 : s₁.heap = h0 := by rw [← hh, Bd.state]; rfl
  have N0 := Fr.nil n0
  have pre0 : ∀ t, Steps p.tables e below (s₁.setTop (mkF m 0 #[.val (.int (2 : Int32))] [])) t → Steps p.tables e below (s₁.setTop (entryFrame m #[(.int (2 : Int32))] 1)) t := fun t k => castTop (ef_1_4 m (2 : Int32)) k
  obtain ⟨T1, X1, e1, st1⟩ := getS2 X0 hx hZ hown (host := "") (Or.inl (hw _ (List.mem_of_getElem? (i := 59) rfl))) Via.refl e0 S_PRE_ABORTED (g := (mkF m 22 #[.val (.int (2 : Int32))] [])) rfl (hb hby d1_22)
  obtain ⟨fs, hr, hrun, hended, hW, hsame⟩ := X1.leave (v := some (.ref s_PRE_ABORTED)) (fun h => by rw [Bd.returns] at h; cases h)
  refine ⟨_, _, pre0 _ ?_, hrun, hended, _, _, rfl, ?_, ⟨_, rfl⟩, hW, hsame.mono (by decide) (by decide)⟩
  · show Steps p.tables e below (s₁.setTop (mkF m 0 #[.val (.int (2 : Int32))] [])) _
    refine XS.iloadN X0.here hx rfl (hb hby d1_0) rfl ?_
    show Steps p.tables e below (s₁.setTop (mkF m 1 #[.val (.int (2 : Int32))] [(.int (2 : Int32))])) _
    refine XS.ifYes X0.here hx rfl (pc0 := 1) (pc' := 8) rfl (hb hby d1_1) rfl ((if0 _ _).trans (feq (by decide : ¬ ((2 : Int32) = (0 : Int32)))).2) (by decide) (by decide) ?_
    show Steps p.tables e below (s₁.setTop (mkF m 8 #[.val (.int (2 : Int32))] [])) _
    refine XS.iloadN X0.here hx rfl (hb hby d1_8) rfl ?_
    show Steps p.tables e below (s₁.setTop (mkF m 9 #[.val (.int (2 : Int32))] [(.int (2 : Int32))])) _
    refine XS.iconst X0.here hx rfl (hb hby d1_9) ?_
    show Steps p.tables e below (s₁.setTop (mkF m 10 #[.val (.int (2 : Int32))] [(.int (1 : Int32)), (.int (2 : Int32))])) _
    refine XS.icmpYes X0.here hx rfl (pc0 := 10) (pc' := 17) rfl (hb hby d1_10) rfl (feq (by decide : ¬ ((2 : Int32) = (1 : Int32)))).2 (by decide) (by decide) ?_
    show Steps p.tables e below (s₁.setTop (mkF m 17 #[.val (.int (2 : Int32))] [])) _
    refine XS.iloadN X0.here hx rfl (hb hby d1_17) rfl ?_
    show Steps p.tables e below (s₁.setTop (mkF m 18 #[.val (.int (2 : Int32))] [(.int (2 : Int32))])) _
    refine XS.iconst X0.here hx rfl (hb hby d1_18) ?_
    show Steps p.tables e below (s₁.setTop (mkF m 19 #[.val (.int (2 : Int32))] [(.int (2 : Int32)), (.int (2 : Int32))])) _
    refine XS.icmpNo X0.here hx rfl (hb hby d1_19) rfl (teq (by decide : (2 : Int32) = (2 : Int32))).2 ?_
    show Steps p.tables e below (s₁.setTop (mkF m 22 #[.val (.int (2 : Int32))] [])) _
    refine st1 _ ?_
    show Steps p.tables e below (T1.setTop (mkF m 25 #[.val (.int (2 : Int32))] [(.ref s_PRE_ABORTED)])) _
    exact retOut X1 hx Bd.returns rfl (Or.inr (Or.inr (Or.inr (Or.inr ⟨rfl, rfl, rfl⟩)))) (hb hby d1_25) hr
  · show own_Q (some (.ref s_PRE_ABORTED)) h0 n0 _ T1.heap _
    rw [e1]
    exact ⟨rfl, N0, rfl⟩
set_option maxRecDepth 65536 in
set_option maxHeartbeats 40000000 in
theorem r_law_2_0 (l : Launch) (Z : State) (a0 : Array Value) (hw : ∀ d ∈ tables_1, d.before a0 Z = true) (ws : List Jvm.Cond) (s_PREPARED s_IN_DOUBT s_Outcome_COMMITTED s_HEURISTICALLY_ABORTED s_HEURISTICALLY_COMMITTED s_Joined_State_COMMITTED s_HEURISTIC_ABORT s_HEURISTIC_COMMIT s_COMMITTED_AGAINST_HEURISTIC s_HEURISTIC_MISMATCH s_COMMITTED_IN_ONE_PHASE s_TxnStatus_COMMITTED s_ABORTED_AGAINST_HEURISTIC s_Outcome_ABORTED s_PRE_ABORTED s_PRE_COMMITTED s_Joined_State_ABORTED s_TxnStatus_ABORTED : Addr) (h0 : Heap) (n0 : Nat) (Z0 : n0 ≤ h0.size) (G : own_Ctx Z h0 s_PREPARED s_IN_DOUBT s_Outcome_COMMITTED s_HEURISTICALLY_ABORTED s_HEURISTICALLY_COMMITTED s_Joined_State_COMMITTED s_HEURISTIC_ABORT s_HEURISTIC_COMMIT s_COMMITTED_AGAINST_HEURISTIC s_HEURISTIC_MISMATCH s_COMMITTED_IN_ONE_PHASE s_TxnStatus_COMMITTED s_ABORTED_AGAINST_HEURISTIC s_Outcome_ABORTED s_PRE_ABORTED s_PRE_COMMITTED s_Joined_State_ABORTED s_TxnStatus_ABORTED) (p1 p2 : Int32) (hk : (p1 &&& (2147483647 : Int32)) % (10 : Int32) = (2 : Int32)) (hf : p2 &&& (1 : Int32) = (0 : Int32)) :
    MetFree l x (head1 (Jvm.Cond.code x code maxLocals ret :: ws) room_1) (fun a U => a = #[(.int p1), (.int p2)] ∧ Z.Warmed39 U.vm ∧ U.heap = h0) (fun _ _ _ _ _ => True) (fun _ U o U' => ∃ v L, o = .returned v ∧ own_Q (some (.int (1 : Int32))) h0 n0 v U'.heap L ∧ FrameEnd U o U' L 0 0) := by
  have G0 := G
  obtain ⟨S_PREPARED, E_PREPARED, O_PREPARED, S_IN_DOUBT, E_IN_DOUBT, O_IN_DOUBT, S_Outcome_COMMITTED, E_Outcome_COMMITTED, O_Outcome_COMMITTED, S_HEURISTICALLY_ABORTED, E_HEURISTICALLY_ABORTED, O_HEURISTICALLY_ABORTED, S_HEURISTICALLY_COMMITTED, E_HEURISTICALLY_COMMITTED, O_HEURISTICALLY_COMMITTED, S_Joined_State_COMMITTED, E_Joined_State_COMMITTED, S_HEURISTIC_ABORT, E_HEURISTIC_ABORT, O_HEURISTIC_ABORT, S_HEURISTIC_COMMIT, E_HEURISTIC_COMMIT, O_HEURISTIC_COMMIT, S_COMMITTED_AGAINST_HEURISTIC, E_COMMITTED_AGAINST_HEURISTIC, S_HEURISTIC_MISMATCH, E_HEURISTIC_MISMATCH, O_HEURISTIC_MISMATCH, S_COMMITTED_IN_ONE_PHASE, E_COMMITTED_IN_ONE_PHASE, S_TxnStatus_COMMITTED, E_TxnStatus_COMMITTED, O_TxnStatus_COMMITTED, S_ABORTED_AGAINST_HEURISTIC, E_ABORTED_AGAINST_HEURISTIC, S_Outcome_ABORTED, E_Outcome_ABORTED, O_Outcome_ABORTED, S_PRE_ABORTED, E_PRE_ABORTED, O_PRE_ABORTED, S_PRE_COMMITTED, E_PRE_COMMITTED, O_PRE_COMMITTED, S_Joined_State_ABORTED, E_Joined_State_ABORTED, S_TxnStatus_ABORTED, E_TxnStatus_ABORTED, O_TxnStatus_ABORTED, F_decision_PREPARED, F_status_PREPARED, F_decision_Joined_State_COMMITTED, F_decision_HEURISTICALLY_ABORTED, F_status_HEURISTICALLY_ABORTED, F_decision_COMMITTED_AGAINST_HEURISTIC, F_status_COMMITTED_AGAINST_HEURISTIC, F_decision_COMMITTED_IN_ONE_PHASE, F_status_COMMITTED_IN_ONE_PHASE, F_decision_ABORTED_AGAINST_HEURISTIC, F_status_ABORTED_AGAINST_HEURISTIC, F_decision_PRE_ABORTED, F_status_PRE_ABORTED, F_decision_HEURISTICALLY_COMMITTED, F_status_HEURISTICALLY_COMMITTED, F_decision_PRE_COMMITTED, F_status_PRE_COMMITTED, F_decision_Joined_State_ABORTED, F_status_Joined_State_COMMITTED, F_status_Joined_State_ABORTED⟩ := G
  refine MetFree.of_bodySF (plainFor_of_name pn_1) hisR ?_
  intro p e s m args below meth c s₁ Bd hml0 hP hK
  obtain ⟨rfl, hZ, hh⟩ := hP
  have hx := Bd.exec
  have hby := Bd.bytes
  have hml : c.maxLocals = 8 := hml0
  have hown : s.vm.findClass "com/example/unanimity/unanimity/core/StateAwaitsDecisionPinLaw" = some m.cls := findClass_of_methodNamed Bd.named
  have hnm := (name_of_methodNamed Bd.named Bd.method).1
  have X0 : Stand p l e room_1 s m #[(.int p1), (.int p2)] below meth c s₁ [] 0 0 := Stand.of_body Bd
  have e0 : s₁.heap = h0 := by rw [← hh, Bd.state]; rfl
  have N0 := Fr.nil n0
  have pre0 : ∀ t, Steps p.tables e below (s₁.setTop (mkF m 0 #[.val (.int p1), .val (.int p2), .unset, .unset, .unset, .unset, .unset, .unset] [])) t → Steps p.tables e below (s₁.setTop (entryFrame m #[(.int p1), (.int p2)] maxLocals)) t := fun t k => castTop (ef_0_5 m p1 p2) k
  obtain ⟨_, _, ⟨T1, L1, k1, n1⟩, -, X1, ⟨Lc1, hQ1, l1, y1, z1⟩, st1⟩ := Jvm.LawKit.callS X0 hx (y := (⟨"com/example/unanimity/unanimity/core/StateAwaitsDecisionPinLaw", "pick", "(I)Lcom/example/unanimity/unanimity/core/Joined$State;"⟩ : MethodName)) hown (mvT hZ (hw _ (List.mem_of_getElem? (i := 1) rfl))) (mvT hZ (hw _ (List.mem_of_getElem? (i := 2) rfl))) (mvT hZ (hw _ (List.mem_of_getElem? (i := 3) rfl))) (mvT hZ (hw _ (List.mem_of_getElem? (i := 4) rfl))) (by decide) (backOf (W := 0) (r_pick_2 l Z a0 hw [] s_PREPARED s_IN_DOUBT s_Outcome_COMMITTED s_HEURISTICALLY_ABORTED s_HEURISTICALLY_COMMITTED s_Joined_State_COMMITTED s_HEURISTIC_ABORT s_HEURISTIC_COMMIT s_COMMITTED_AGAINST_HEURISTIC s_HEURISTIC_MISMATCH s_COMMITTED_IN_ONE_PHASE s_TxnStatus_COMMITTED s_ABORTED_AGAINST_HEURISTIC s_Outcome_ABORTED s_PRE_ABORTED s_PRE_COMMITTED s_Joined_State_ABORTED s_TxnStatus_ABORTED h0 n0 Z0 G0) hZ (hw _ (List.mem_of_getElem? (i := 4) rfl)) (hw _ (List.mem_of_getElem? (i := 3) rfl)) (by decide) (by decide)) (g := (mkF m 9 #[.val (.int p1), .val (.int p2), .val (.int (2 : Int32)), .unset, .unset, .unset, .unset, .unset] [(.int (2 : Int32))])) rfl (by rw [hml]; rfl) (argsL := [(.int (2 : Int32))]) (rest := []) (lenOf pd_1 rfl) rfl (by show 2 * 0 + _ ≤ _; exact Nat.le_of_eq rfl) (hb hby at_9) (fun _ _ => ⟨rfl, e0, (by decide : 0 + 0 ≤ _), (by decide : 0 + 0 ≤ _)⟩)
  dsimp only [Pt.U, Pt.locs, Pt.cells, Pt.slots] at X1 l1 y1 z1 st1 hQ1
  subst l1 y1 z1
  obtain ⟨rfl, N1q, e1⟩ := hQ1
  have N1 := Fr.app N0 N1q
  obtain ⟨cq2, kq2, q2a, q2b, q2c⟩ := isOf hZ e1 E_PRE_ABORTED
  obtain ⟨_, _, ⟨T2, L2, k2, n2⟩, -, X2, ⟨Lc2, hQ2, l2, y2, z2⟩, st2⟩ := X1.virtualBack hx (y := (⟨"com/example/unanimity/unanimity/core/Joined$State", "awaitsDecision", "()Z"⟩ : MethodName)) (z := (⟨"com/example/unanimity/unanimity/core/Joined$State", "awaitsDecision", "()Z"⟩ : MethodName)) hown (mvT hZ (hw _ (List.mem_of_getElem? (i := 8) rfl))) (mvT hZ (hw _ (List.mem_of_getElem? (i := 9) rfl))) (notFace_of_selects (args := #[]) (mvT hZ (hw _ (List.mem_of_getElem? (i := 11) rfl)))) (mvT hZ (hw _ (List.mem_of_getElem? (i := 11) rfl))) (mvT hZ (hw _ (List.mem_of_getElem? (i := 10) rfl))) (by decide) (backOf (W := 0) (r_aw_2 l Z a0 hw [] s_PREPARED s_IN_DOUBT s_Outcome_COMMITTED s_HEURISTICALLY_ABORTED s_HEURISTICALLY_COMMITTED s_Joined_State_COMMITTED s_HEURISTIC_ABORT s_HEURISTIC_COMMIT s_COMMITTED_AGAINST_HEURISTIC s_HEURISTIC_MISMATCH s_COMMITTED_IN_ONE_PHASE s_TxnStatus_COMMITTED s_ABORTED_AGAINST_HEURISTIC s_Outcome_ABORTED s_PRE_ABORTED s_PRE_COMMITTED s_Joined_State_ABORTED s_TxnStatus_ABORTED h0 n0 Z0 G0) hZ (hw _ (List.mem_of_getElem? (i := 12) rfl)) (hw _ (List.mem_of_getElem? (i := 6) rfl)) (by decide) (by decide)) q2a q2c (g := (mkF m 26 #[.val (.int p1), .val (.int p2), .val (.int (2 : Int32)), .val (.ref s_PRE_ABORTED), .val (.int (1 : Int32)), .unset, .unset, .unset] [(.ref s_PRE_ABORTED)])) rfl (by rw [hml]; rfl) (Steps.refl _) (argsL := []) (rest := []) (lenOf pd_2 rfl) rfl (by show 2 * 0 + _ ≤ _; exact Nat.le_of_eq rfl) (hb hby at_26) (fun _ _ => ⟨rfl, e1, (by decide : 0 + 0 ≤ _), (by decide : 0 + 0 ≤ _)⟩)
  dsimp only [Pt.U, Pt.locs, Pt.cells, Pt.slots] at X2 l2 y2 z2 st2 hQ2
  subst l2 y2 z2
  obtain ⟨rfl, N2q, e2⟩ := hQ2
  have N2 := Fr.app N1 N2q
  obtain ⟨cq3, kq3, q3a, q3b, q3c⟩ := isOf hZ e2 E_PRE_ABORTED
  obtain ⟨_, _, ⟨T3, L3, k3, n3⟩, -, X3, ⟨Lc3, hQ3, l3, y3, z3⟩, st3⟩ := X2.virtualBack hx (y := (⟨"com/example/unanimity/unanimity/core/Joined$State", "inDoubt", "()Z"⟩ : MethodName)) (z := (⟨"com/example/unanimity/unanimity/core/Joined$State", "inDoubt", "()Z"⟩ : MethodName)) hown (mvT hZ (hw _ (List.mem_of_getElem? (i := 15) rfl))) (mvT hZ (hw _ (List.mem_of_getElem? (i := 16) rfl))) (notFace_of_selects (args := #[]) (mvT hZ (hw _ (List.mem_of_getElem? (i := 18) rfl)))) (mvT hZ (hw _ (List.mem_of_getElem? (i := 18) rfl))) (mvT hZ (hw _ (List.mem_of_getElem? (i := 17) rfl))) (by decide) (backOf (W := 0) (r_in_2 l Z a0 hw [] s_PREPARED s_IN_DOUBT s_Outcome_COMMITTED s_HEURISTICALLY_ABORTED s_HEURISTICALLY_COMMITTED s_Joined_State_COMMITTED s_HEURISTIC_ABORT s_HEURISTIC_COMMIT s_COMMITTED_AGAINST_HEURISTIC s_HEURISTIC_MISMATCH s_COMMITTED_IN_ONE_PHASE s_TxnStatus_COMMITTED s_ABORTED_AGAINST_HEURISTIC s_Outcome_ABORTED s_PRE_ABORTED s_PRE_COMMITTED s_Joined_State_ABORTED s_TxnStatus_ABORTED h0 n0 Z0 G0) hZ (hw _ (List.mem_of_getElem? (i := 19) rfl)) (hw _ (List.mem_of_getElem? (i := 6) rfl)) (by decide) (by decide)) q3a q3c (g := (mkF m 41 #[.val (.int p1), .val (.int p2), .val (.int (2 : Int32)), .val (.ref s_PRE_ABORTED), .val (.int (1 : Int32)), .val (.int (1 : Int32)), .unset, .unset] [(.ref s_PRE_ABORTED)])) rfl (by rw [hml]; rfl) (Steps.refl _) (argsL := []) (rest := []) (lenOf pd_2 rfl) rfl (by show 2 * 0 + _ ≤ _; exact Nat.le_of_eq rfl) (hb hby at_41) (fun _ _ => ⟨rfl, e2, (by decide : 0 + 0 ≤ _), (by decide : 0 + 0 ≤ _)⟩)
  dsimp only [Pt.U, Pt.locs, Pt.cells, Pt.slots] at X3 l3 y3 z3 st3 hQ3
  subst l3 y3 z3
  obtain ⟨rfl, N3q, e3⟩ := hQ3
  have N3 := Fr.app N2 N3q
  obtain ⟨T4, X4, e4, st4⟩ := getS2 X3 hx hZ hown (host := "") (Or.inl (hw _ (List.mem_of_getElem? (i := 65) rfl))) Via.refl e3 S_Outcome_ABORTED (g := (mkF m 100 #[.val (.int p1), .val (.int p2), .val (.int (2 : Int32)), .val (.ref s_PRE_ABORTED), .val (.int (1 : Int32)), .val (.int (1 : Int32)), .val (.int (1 : Int32)), .unset] [])) rfl (hb hby at_100)
  obtain ⟨cq5, kq5, q5a, q5b, q5c⟩ := isOf hZ e4 E_PRE_ABORTED
  obtain ⟨_, _, ⟨T5, L5, k5, n5⟩, -, X5, ⟨Lc5, hQ5, l5, y5, z5⟩, st5⟩ := X4.virtualBack hx (y := (⟨"com/example/unanimity/unanimity/core/Joined$State", "after", "(Lcom/example/unanimity/unanimity/core/Outcome;)Lcom/example/unanimity/unanimity/core/Joined$State;"⟩ : MethodName)) (z := (⟨"com/example/unanimity/unanimity/core/Joined$State", "after", "(Lcom/example/unanimity/unanimity/core/Outcome;)Lcom/example/unanimity/unanimity/core/Joined$State;"⟩ : MethodName)) hown (mvT hZ (hw _ (List.mem_of_getElem? (i := 28) rfl))) (mvT hZ (hw _ (List.mem_of_getElem? (i := 29) rfl))) (notFace_of_selects (args := #[]) (mvT hZ (hw _ (List.mem_of_getElem? (i := 31) rfl)))) (mvT hZ (hw _ (List.mem_of_getElem? (i := 31) rfl))) (mvT hZ (hw _ (List.mem_of_getElem? (i := 30) rfl))) (by decide) (backOf (W := 0) (r_after_2_Outcome_ABORTED l Z a0 hw [] s_PREPARED s_IN_DOUBT s_Outcome_COMMITTED s_HEURISTICALLY_ABORTED s_HEURISTICALLY_COMMITTED s_Joined_State_COMMITTED s_HEURISTIC_ABORT s_HEURISTIC_COMMIT s_COMMITTED_AGAINST_HEURISTIC s_HEURISTIC_MISMATCH s_COMMITTED_IN_ONE_PHASE s_TxnStatus_COMMITTED s_ABORTED_AGAINST_HEURISTIC s_Outcome_ABORTED s_PRE_ABORTED s_PRE_COMMITTED s_Joined_State_ABORTED s_TxnStatus_ABORTED h0 n0 Z0 G0) hZ (hw _ (List.mem_of_getElem? (i := 32) rfl)) (hw _ (List.mem_of_getElem? (i := 6) rfl)) (by decide) (by decide)) q5a q5c (g := (mkF m 108 #[.val (.int p1), .val (.int p2), .val (.int (2 : Int32)), .val (.ref s_PRE_ABORTED), .val (.int (1 : Int32)), .val (.int (1 : Int32)), .val (.int (1 : Int32)), .val (.ref s_Outcome_ABORTED)] [(.ref s_Outcome_ABORTED), (.ref s_PRE_ABORTED)])) rfl (by rw [hml]; rfl) (Steps.refl _) (argsL := [(.ref s_Outcome_ABORTED)]) (rest := []) (lenOf pd_0 rfl) rfl (by show 2 * 0 + _ ≤ _; exact Nat.le_of_eq rfl) (hb hby at_108) (fun _ _ => ⟨rfl, e4, (by decide : 0 + 0 ≤ _), (by decide : 0 + 0 ≤ _)⟩)
  dsimp only [Pt.U, Pt.locs, Pt.cells, Pt.slots] at X5 l5 y5 z5 st5 hQ5
  subst l5 y5 z5
  obtain ⟨rfl, N5q, e5⟩ := hQ5
  have N5 := Fr.app N3 N5q
  obtain ⟨cq6, kq6, q6a, q6b, q6c⟩ := isOf hZ e5 E_Joined_State_ABORTED
  obtain ⟨_, _, ⟨T6, L6, k6, n6⟩, -, X6, ⟨Lc6, hQ6, l6, y6, z6⟩, st6⟩ := X5.virtualBack hx (y := (⟨"com/example/unanimity/unanimity/core/Joined$State", "awaitsDecision", "()Z"⟩ : MethodName)) (z := (⟨"com/example/unanimity/unanimity/core/Joined$State", "awaitsDecision", "()Z"⟩ : MethodName)) hown (mvT hZ (hw _ (List.mem_of_getElem? (i := 8) rfl))) (mvT hZ (hw _ (List.mem_of_getElem? (i := 9) rfl))) (notFace_of_selects (args := #[]) (mvT hZ (hw _ (List.mem_of_getElem? (i := 11) rfl)))) (mvT hZ (hw _ (List.mem_of_getElem? (i := 11) rfl))) (mvT hZ (hw _ (List.mem_of_getElem? (i := 10) rfl))) (by decide) (backOf (W := 0) (r_aw_7 l Z a0 hw [] s_PREPARED s_IN_DOUBT s_Outcome_COMMITTED s_HEURISTICALLY_ABORTED s_HEURISTICALLY_COMMITTED s_Joined_State_COMMITTED s_HEURISTIC_ABORT s_HEURISTIC_COMMIT s_COMMITTED_AGAINST_HEURISTIC s_HEURISTIC_MISMATCH s_COMMITTED_IN_ONE_PHASE s_TxnStatus_COMMITTED s_ABORTED_AGAINST_HEURISTIC s_Outcome_ABORTED s_PRE_ABORTED s_PRE_COMMITTED s_Joined_State_ABORTED s_TxnStatus_ABORTED h0 n0 Z0 G0) hZ (hw _ (List.mem_of_getElem? (i := 12) rfl)) (hw _ (List.mem_of_getElem? (i := 6) rfl)) (by decide) (by decide)) q6a q6c (g := (mkF m 111 #[.val (.int p1), .val (.int p2), .val (.int (2 : Int32)), .val (.ref s_PRE_ABORTED), .val (.int (1 : Int32)), .val (.int (1 : Int32)), .val (.int (1 : Int32)), .val (.ref s_Outcome_ABORTED)] [(.ref s_Joined_State_ABORTED)])) rfl (by rw [hml]; rfl) (Steps.refl _) (argsL := []) (rest := []) (lenOf pd_2 rfl) rfl (by show 2 * 0 + _ ≤ _; exact Nat.le_of_eq rfl) (hb hby at_111) (fun _ _ => ⟨rfl, e5, (by decide : 0 + 0 ≤ _), (by decide : 0 + 0 ≤ _)⟩)
  dsimp only [Pt.U, Pt.locs, Pt.cells, Pt.slots] at X6 l6 y6 z6 st6 hQ6
  subst l6 y6 z6
  obtain ⟨rfl, N6q, e6⟩ := hQ6
  have N6 := Fr.app N5 N6q
  obtain ⟨fs, hr, hrun, hended, hW, hsame⟩ := X6.leave (v := some (.int (1 : Int32))) (fun h => by rw [Bd.returns] at h; cases h)
  refine ⟨_, _, pre0 _ ?_, hrun, hended, _, _, rfl, ?_, ⟨_, rfl⟩, hW, hsame.mono (by decide) (by decide)⟩
  · show Steps p.tables e below (s₁.setTop (mkF m 0 #[.val (.int p1), .val (.int p2), .unset, .unset, .unset, .unset, .unset, .unset] [])) _
    refine XS.iloadN X0.here hx rfl (hb hby at_0) rfl ?_
    show Steps p.tables e below (s₁.setTop (mkF m 1 #[.val (.int p1), .val (.int p2), .unset, .unset, .unset, .unset, .unset, .unset] [(.int p1)])) _
    refine X0.ldcInt hx hown (mvT hZ (hw _ (List.mem_of_getElem? (i := 0) rfl))) (g := (mkF m 1 #[.val (.int p1), .val (.int p2), .unset, .unset, .unset, .unset, .unset, .unset] [(.int p1)])) rfl (hb hby at_1) _ ?_
    show Steps p.tables e below (s₁.setTop (mkF m 3 #[.val (.int p1), .val (.int p2), .unset, .unset, .unset, .unset, .unset, .unset] [(.int (2147483647 : Int32)), (.int p1)])) _
    refine XS.iand X0.here hx rfl (hb hby at_3) rfl ?_
    show Steps p.tables e below (s₁.setTop (mkF m 4 #[.val (.int p1), .val (.int p2), .unset, .unset, .unset, .unset, .unset, .unset] [(.int (p1 &&& (2147483647 : Int32)))])) _
    refine XS.bipush X0.here hx rfl (hb hby at_4) ?_
    show Steps p.tables e below (s₁.setTop (mkF m 6 #[.val (.int p1), .val (.int p2), .unset, .unset, .unset, .unset, .unset, .unset] [(.int (10 : Int32)), (.int (p1 &&& (2147483647 : Int32)))])) _
    refine iremM X0 hx rfl (hb hby at_6) rfl (by decide) ?_
    show Steps p.tables e below (s₁.setTop (mkF m 7 #[.val (.int p1), .val (.int p2), .unset, .unset, .unset, .unset, .unset, .unset] [(.int ((p1 &&& (2147483647 : Int32)) % (10 : Int32)))])) _
    rw [hk]
    show Steps p.tables e below (s₁.setTop (mkF m 7 #[.val (.int p1), .val (.int p2), .unset, .unset, .unset, .unset, .unset, .unset] [(.int (2 : Int32))])) _
    refine XS.istoreN X0.here hx rfl (hb hby at_7) rfl (l' := #[.val (.int p1), .val (.int p2), .val (.int (2 : Int32)), .unset, .unset, .unset, .unset, .unset]) rfl ?_
    show Steps p.tables e below (s₁.setTop (mkF m 8 #[.val (.int p1), .val (.int p2), .val (.int (2 : Int32)), .unset, .unset, .unset, .unset, .unset] [])) _
    refine XS.iloadN X0.here hx rfl (hb hby at_8) rfl ?_
    show Steps p.tables e below (s₁.setTop (mkF m 9 #[.val (.int p1), .val (.int p2), .val (.int (2 : Int32)), .unset, .unset, .unset, .unset, .unset] [(.int (2 : Int32))])) _
    refine st1 _ ?_
    show Steps p.tables e below (T1.setTop (mkF m 12 #[.val (.int p1), .val (.int p2), .val (.int (2 : Int32)), .unset, .unset, .unset, .unset, .unset] [(.ref s_PRE_ABORTED)])) _
    refine XS.astoreN X1.here hx rfl (hb hby at_12) rfl rfl (l' := #[.val (.int p1), .val (.int p2), .val (.int (2 : Int32)), .val (.ref s_PRE_ABORTED), .unset, .unset, .unset, .unset]) rfl ?_
    show Steps p.tables e below (T1.setTop (mkF m 13 #[.val (.int p1), .val (.int p2), .val (.int (2 : Int32)), .val (.ref s_PRE_ABORTED), .unset, .unset, .unset, .unset] [])) _
    refine XS.iloadN X1.here hx rfl (hb hby at_13) rfl ?_
    show Steps p.tables e below (T1.setTop (mkF m 14 #[.val (.int p1), .val (.int p2), .val (.int (2 : Int32)), .val (.ref s_PRE_ABORTED), .unset, .unset, .unset, .unset] [(.int (2 : Int32))])) _
    refine XS.iconst X1.here hx rfl (hb hby at_14) ?_
    show Steps p.tables e below (T1.setTop (mkF m 15 #[.val (.int p1), .val (.int p2), .val (.int (2 : Int32)), .val (.ref s_PRE_ABORTED), .unset, .unset, .unset, .unset] [(.int (5 : Int32)), (.int (2 : Int32))])) _
    refine XS.icmpNo X1.here hx rfl (hb hby at_15) rfl (tlt (by decide : (2 : Int32) < (5 : Int32))).2.1 ?_
    show Steps p.tables e below (T1.setTop (mkF m 18 #[.val (.int p1), .val (.int p2), .val (.int (2 : Int32)), .val (.ref s_PRE_ABORTED), .unset, .unset, .unset, .unset] [])) _
    refine XS.iconst X1.here hx rfl (hb hby at_18) ?_
    show Steps p.tables e below (T1.setTop (mkF m 19 #[.val (.int p1), .val (.int p2), .val (.int (2 : Int32)), .val (.ref s_PRE_ABORTED), .unset, .unset, .unset, .unset] [(.int (1 : Int32))])) _
    refine XS.goto X1.here hx rfl (pc0 := 19) (pc' := 23) rfl (hb hby at_19) (by decide) (by decide) ?_
    show Steps p.tables e below (T1.setTop (mkF m 23 #[.val (.int p1), .val (.int p2), .val (.int (2 : Int32)), .val (.ref s_PRE_ABORTED), .unset, .unset, .unset, .unset] [(.int (1 : Int32))])) _
    refine XS.istore X1.here hx rfl (hb hby at_23) rfl (l' := #[.val (.int p1), .val (.int p2), .val (.int (2 : Int32)), .val (.ref s_PRE_ABORTED), .val (.int (1 : Int32)), .unset, .unset, .unset]) rfl ?_
    show Steps p.tables e below (T1.setTop (mkF m 25 #[.val (.int p1), .val (.int p2), .val (.int (2 : Int32)), .val (.ref s_PRE_ABORTED), .val (.int (1 : Int32)), .unset, .unset, .unset] [])) _
    refine XS.aloadN X1.here hx rfl (hb hby at_25) rfl rfl ?_
    show Steps p.tables e below (T1.setTop (mkF m 26 #[.val (.int p1), .val (.int p2), .val (.int (2 : Int32)), .val (.ref s_PRE_ABORTED), .val (.int (1 : Int32)), .unset, .unset, .unset] [(.ref s_PRE_ABORTED)])) _
    refine st2.trans ?_
    show Steps p.tables e below (T2.setTop (mkF m 29 #[.val (.int p1), .val (.int p2), .val (.int (2 : Int32)), .val (.ref s_PRE_ABORTED), .val (.int (1 : Int32)), .unset, .unset, .unset] [(.int (1 : Int32))])) _
    refine XS.istore X2.here hx rfl (hb hby at_29) rfl (l' := #[.val (.int p1), .val (.int p2), .val (.int (2 : Int32)), .val (.ref s_PRE_ABORTED), .val (.int (1 : Int32)), .val (.int (1 : Int32)), .unset, .unset]) rfl ?_
    show Steps p.tables e below (T2.setTop (mkF m 31 #[.val (.int p1), .val (.int p2), .val (.int (2 : Int32)), .val (.ref s_PRE_ABORTED), .val (.int (1 : Int32)), .val (.int (1 : Int32)), .unset, .unset] [])) _
    refine XS.iload X2.here hx rfl (hb hby at_31) rfl ?_
    show Steps p.tables e below (T2.setTop (mkF m 33 #[.val (.int p1), .val (.int p2), .val (.int (2 : Int32)), .val (.ref s_PRE_ABORTED), .val (.int (1 : Int32)), .val (.int (1 : Int32)), .unset, .unset] [(.int (1 : Int32))])) _
    refine XS.iload X2.here hx rfl (hb hby at_33) rfl ?_
    show Steps p.tables e below (T2.setTop (mkF m 35 #[.val (.int p1), .val (.int p2), .val (.int (2 : Int32)), .val (.ref s_PRE_ABORTED), .val (.int (1 : Int32)), .val (.int (1 : Int32)), .unset, .unset] [(.int (1 : Int32)), (.int (1 : Int32))])) _
    refine XS.icmpYes X2.here hx rfl (pc0 := 35) (pc' := 40) rfl (hb hby at_35) rfl (teq (by decide : (1 : Int32) = (1 : Int32))).1 (by decide) (by decide) ?_
    show Steps p.tables e below (T2.setTop (mkF m 40 #[.val (.int p1), .val (.int p2), .val (.int (2 : Int32)), .val (.ref s_PRE_ABORTED), .val (.int (1 : Int32)), .val (.int (1 : Int32)), .unset, .unset] [])) _
    refine XS.aloadN X2.here hx rfl (hb hby at_40) rfl rfl ?_
    show Steps p.tables e below (T2.setTop (mkF m 41 #[.val (.int p1), .val (.int p2), .val (.int (2 : Int32)), .val (.ref s_PRE_ABORTED), .val (.int (1 : Int32)), .val (.int (1 : Int32)), .unset, .unset] [(.ref s_PRE_ABORTED)])) _
    refine st3.trans ?_
    show Steps p.tables e below (T3.setTop (mkF m 44 #[.val (.int p1), .val (.int p2), .val (.int (2 : Int32)), .val (.ref s_PRE_ABORTED), .val (.int (1 : Int32)), .val (.int (1 : Int32)), .unset, .unset] [(.int (1 : Int32))])) _
    refine XS.ifYes X3.here hx rfl (pc0 := 44) (pc' := 67) rfl (hb hby at_44) rfl ((if0 _ _).trans (feq (by decide : ¬ ((1 : Int32) = (0 : Int32)))).2) (by decide) (by decide) ?_
    show Steps p.tables e below (T3.setTop (mkF m 67 #[.val (.int p1), .val (.int p2), .val (.int (2 : Int32)), .val (.ref s_PRE_ABORTED), .val (.int (1 : Int32)), .val (.int (1 : Int32)), .unset, .unset] [])) _
    refine XS.iconst X3.here hx rfl (hb hby at_67) ?_
    show Steps p.tables e below (T3.setTop (mkF m 68 #[.val (.int p1), .val (.int p2), .val (.int (2 : Int32)), .val (.ref s_PRE_ABORTED), .val (.int (1 : Int32)), .val (.int (1 : Int32)), .unset, .unset] [(.int (1 : Int32))])) _
    refine XS.goto X3.here hx rfl (pc0 := 68) (pc' := 72) rfl (hb hby at_68) (by decide) (by decide) ?_
    show Steps p.tables e below (T3.setTop (mkF m 72 #[.val (.int p1), .val (.int p2), .val (.int (2 : Int32)), .val (.ref s_PRE_ABORTED), .val (.int (1 : Int32)), .val (.int (1 : Int32)), .unset, .unset] [(.int (1 : Int32))])) _
    refine XS.istore X3.here hx rfl (hb hby at_72) rfl (l' := #[.val (.int p1), .val (.int p2), .val (.int (2 : Int32)), .val (.ref s_PRE_ABORTED), .val (.int (1 : Int32)), .val (.int (1 : Int32)), .val (.int (1 : Int32)), .unset]) rfl ?_
    show Steps p.tables e below (T3.setTop (mkF m 74 #[.val (.int p1), .val (.int p2), .val (.int (2 : Int32)), .val (.ref s_PRE_ABORTED), .val (.int (1 : Int32)), .val (.int (1 : Int32)), .val (.int (1 : Int32)), .unset] [])) _
    refine XS.iload X3.here hx rfl (hb hby at_74) rfl ?_
    show Steps p.tables e below (T3.setTop (mkF m 76 #[.val (.int p1), .val (.int p2), .val (.int (2 : Int32)), .val (.ref s_PRE_ABORTED), .val (.int (1 : Int32)), .val (.int (1 : Int32)), .val (.int (1 : Int32)), .unset] [(.int (1 : Int32))])) _
    refine XS.iload X3.here hx rfl (hb hby at_76) rfl ?_
    show Steps p.tables e below (T3.setTop (mkF m 78 #[.val (.int p1), .val (.int p2), .val (.int (2 : Int32)), .val (.ref s_PRE_ABORTED), .val (.int (1 : Int32)), .val (.int (1 : Int32)), .val (.int (1 : Int32)), .unset] [(.int (1 : Int32)), (.int (1 : Int32))])) _
    refine XS.icmpYes X3.here hx rfl (pc0 := 78) (pc' := 83) rfl (hb hby at_78) rfl (teq (by decide : (1 : Int32) = (1 : Int32))).1 (by decide) (by decide) ?_
    show Steps p.tables e below (T3.setTop (mkF m 83 #[.val (.int p1), .val (.int p2), .val (.int (2 : Int32)), .val (.ref s_PRE_ABORTED), .val (.int (1 : Int32)), .val (.int (1 : Int32)), .val (.int (1 : Int32)), .unset] [])) _
    refine XS.iload X3.here hx rfl (hb hby at_83) rfl ?_
    show Steps p.tables e below (T3.setTop (mkF m 85 #[.val (.int p1), .val (.int p2), .val (.int (2 : Int32)), .val (.ref s_PRE_ABORTED), .val (.int (1 : Int32)), .val (.int (1 : Int32)), .val (.int (1 : Int32)), .unset] [(.int (1 : Int32))])) _
    refine XS.ifNo X3.here hx rfl (hb hby at_85) rfl ((if0 _ _).trans (feq (by decide : ¬ ((1 : Int32) = (0 : Int32)))).1) ?_
    show Steps p.tables e below (T3.setTop (mkF m 88 #[.val (.int p1), .val (.int p2), .val (.int (2 : Int32)), .val (.ref s_PRE_ABORTED), .val (.int (1 : Int32)), .val (.int (1 : Int32)), .val (.int (1 : Int32)), .unset] [])) _
    refine XS.iloadN X3.here hx rfl (hb hby at_88) rfl ?_
    show Steps p.tables e below (T3.setTop (mkF m 89 #[.val (.int p1), .val (.int p2), .val (.int (2 : Int32)), .val (.ref s_PRE_ABORTED), .val (.int (1 : Int32)), .val (.int (1 : Int32)), .val (.int (1 : Int32)), .unset] [(.int p2)])) _
    refine XS.iconst X3.here hx rfl (hb hby at_89) ?_
    show Steps p.tables e below (T3.setTop (mkF m 90 #[.val (.int p1), .val (.int p2), .val (.int (2 : Int32)), .val (.ref s_PRE_ABORTED), .val (.int (1 : Int32)), .val (.int (1 : Int32)), .val (.int (1 : Int32)), .unset] [(.int (1 : Int32)), (.int p2)])) _
    refine XS.iand X3.here hx rfl (hb hby at_90) rfl ?_
    show Steps p.tables e below (T3.setTop (mkF m 91 #[.val (.int p1), .val (.int p2), .val (.int (2 : Int32)), .val (.ref s_PRE_ABORTED), .val (.int (1 : Int32)), .val (.int (1 : Int32)), .val (.int (1 : Int32)), .unset] [(.int (p2 &&& (1 : Int32)))])) _
    rw [hf]
    show Steps p.tables e below (T3.setTop (mkF m 91 #[.val (.int p1), .val (.int p2), .val (.int (2 : Int32)), .val (.ref s_PRE_ABORTED), .val (.int (1 : Int32)), .val (.int (1 : Int32)), .val (.int (1 : Int32)), .unset] [(.int (0 : Int32))])) _
    refine XS.ifYes X3.here hx rfl (pc0 := 91) (pc' := 100) rfl (hb hby at_91) rfl ((if0 _ _).trans (teq (by decide : (0 : Int32) = (0 : Int32))).1) (by decide) (by decide) ?_
    show Steps p.tables e below (T3.setTop (mkF m 100 #[.val (.int p1), .val (.int p2), .val (.int (2 : Int32)), .val (.ref s_PRE_ABORTED), .val (.int (1 : Int32)), .val (.int (1 : Int32)), .val (.int (1 : Int32)), .unset] [])) _
    refine st4 _ ?_
    show Steps p.tables e below (T4.setTop (mkF m 103 #[.val (.int p1), .val (.int p2), .val (.int (2 : Int32)), .val (.ref s_PRE_ABORTED), .val (.int (1 : Int32)), .val (.int (1 : Int32)), .val (.int (1 : Int32)), .unset] [(.ref s_Outcome_ABORTED)])) _
    refine XS.astore X4.here hx rfl (hb hby at_103) rfl rfl (l' := #[.val (.int p1), .val (.int p2), .val (.int (2 : Int32)), .val (.ref s_PRE_ABORTED), .val (.int (1 : Int32)), .val (.int (1 : Int32)), .val (.int (1 : Int32)), .val (.ref s_Outcome_ABORTED)]) rfl ?_
    show Steps p.tables e below (T4.setTop (mkF m 105 #[.val (.int p1), .val (.int p2), .val (.int (2 : Int32)), .val (.ref s_PRE_ABORTED), .val (.int (1 : Int32)), .val (.int (1 : Int32)), .val (.int (1 : Int32)), .val (.ref s_Outcome_ABORTED)] [])) _
    refine XS.aloadN X4.here hx rfl (hb hby at_105) rfl rfl ?_
    show Steps p.tables e below (T4.setTop (mkF m 106 #[.val (.int p1), .val (.int p2), .val (.int (2 : Int32)), .val (.ref s_PRE_ABORTED), .val (.int (1 : Int32)), .val (.int (1 : Int32)), .val (.int (1 : Int32)), .val (.ref s_Outcome_ABORTED)] [(.ref s_PRE_ABORTED)])) _
    refine XS.aload X4.here hx rfl (hb hby at_106) rfl rfl ?_
    show Steps p.tables e below (T4.setTop (mkF m 108 #[.val (.int p1), .val (.int p2), .val (.int (2 : Int32)), .val (.ref s_PRE_ABORTED), .val (.int (1 : Int32)), .val (.int (1 : Int32)), .val (.int (1 : Int32)), .val (.ref s_Outcome_ABORTED)] [(.ref s_Outcome_ABORTED), (.ref s_PRE_ABORTED)])) _
    refine st5.trans ?_
    show Steps p.tables e below (T5.setTop (mkF m 111 #[.val (.int p1), .val (.int p2), .val (.int (2 : Int32)), .val (.ref s_PRE_ABORTED), .val (.int (1 : Int32)), .val (.int (1 : Int32)), .val (.int (1 : Int32)), .val (.ref s_Outcome_ABORTED)] [(.ref s_Joined_State_ABORTED)])) _
    refine st6.trans ?_
    show Steps p.tables e below (T6.setTop (mkF m 114 #[.val (.int p1), .val (.int p2), .val (.int (2 : Int32)), .val (.ref s_PRE_ABORTED), .val (.int (1 : Int32)), .val (.int (1 : Int32)), .val (.int (1 : Int32)), .val (.ref s_Outcome_ABORTED)] [(.int (0 : Int32))])) _
    refine XS.ifYes X6.here hx rfl (pc0 := 114) (pc' := 119) rfl (hb hby at_114) rfl ((if0 _ _).trans (teq (by decide : (0 : Int32) = (0 : Int32))).1) (by decide) (by decide) ?_
    show Steps p.tables e below (T6.setTop (mkF m 119 #[.val (.int p1), .val (.int p2), .val (.int (2 : Int32)), .val (.ref s_PRE_ABORTED), .val (.int (1 : Int32)), .val (.int (1 : Int32)), .val (.int (1 : Int32)), .val (.ref s_Outcome_ABORTED)] [])) _
    refine XS.iconst X6.here hx rfl (hb hby at_119) ?_
    show Steps p.tables e below (T6.setTop (mkF m 120 #[.val (.int p1), .val (.int p2), .val (.int (2 : Int32)), .val (.ref s_PRE_ABORTED), .val (.int (1 : Int32)), .val (.int (1 : Int32)), .val (.int (1 : Int32)), .val (.ref s_Outcome_ABORTED)] [(.int (1 : Int32))])) _
    exact retN X6 hx (t := .boolean) Bd.returns (by simp) (hb hby at_120) hr
  · show own_Q (some (.int (1 : Int32))) h0 n0 _ T6.heap _
    rw [e6]
    exact ⟨rfl, N6, rfl⟩
set_option maxRecDepth 65536 in
set_option maxHeartbeats 40000000 in
theorem r_law_2_1 (l : Launch) (Z : State) (a0 : Array Value) (hw : ∀ d ∈ tables_1, d.before a0 Z = true) (ws : List Jvm.Cond) (s_PREPARED s_IN_DOUBT s_Outcome_COMMITTED s_HEURISTICALLY_ABORTED s_HEURISTICALLY_COMMITTED s_Joined_State_COMMITTED s_HEURISTIC_ABORT s_HEURISTIC_COMMIT s_COMMITTED_AGAINST_HEURISTIC s_HEURISTIC_MISMATCH s_COMMITTED_IN_ONE_PHASE s_TxnStatus_COMMITTED s_ABORTED_AGAINST_HEURISTIC s_Outcome_ABORTED s_PRE_ABORTED s_PRE_COMMITTED s_Joined_State_ABORTED s_TxnStatus_ABORTED : Addr) (h0 : Heap) (n0 : Nat) (Z0 : n0 ≤ h0.size) (G : own_Ctx Z h0 s_PREPARED s_IN_DOUBT s_Outcome_COMMITTED s_HEURISTICALLY_ABORTED s_HEURISTICALLY_COMMITTED s_Joined_State_COMMITTED s_HEURISTIC_ABORT s_HEURISTIC_COMMIT s_COMMITTED_AGAINST_HEURISTIC s_HEURISTIC_MISMATCH s_COMMITTED_IN_ONE_PHASE s_TxnStatus_COMMITTED s_ABORTED_AGAINST_HEURISTIC s_Outcome_ABORTED s_PRE_ABORTED s_PRE_COMMITTED s_Joined_State_ABORTED s_TxnStatus_ABORTED) (p1 p2 : Int32) (hk : (p1 &&& (2147483647 : Int32)) % (10 : Int32) = (2 : Int32)) (hf : p2 &&& (1 : Int32) = (1 : Int32)) :
    MetFree l x (head1 (Jvm.Cond.code x code maxLocals ret :: ws) room_1) (fun a U => a = #[(.int p1), (.int p2)] ∧ Z.Warmed39 U.vm ∧ U.heap = h0) (fun _ _ _ _ _ => True) (fun _ U o U' => ∃ v L, o = .returned v ∧ own_Q (some (.int (1 : Int32))) h0 n0 v U'.heap L ∧ FrameEnd U o U' L 0 0) := by
  have G0 := G
  obtain ⟨S_PREPARED, E_PREPARED, O_PREPARED, S_IN_DOUBT, E_IN_DOUBT, O_IN_DOUBT, S_Outcome_COMMITTED, E_Outcome_COMMITTED, O_Outcome_COMMITTED, S_HEURISTICALLY_ABORTED, E_HEURISTICALLY_ABORTED, O_HEURISTICALLY_ABORTED, S_HEURISTICALLY_COMMITTED, E_HEURISTICALLY_COMMITTED, O_HEURISTICALLY_COMMITTED, S_Joined_State_COMMITTED, E_Joined_State_COMMITTED, S_HEURISTIC_ABORT, E_HEURISTIC_ABORT, O_HEURISTIC_ABORT, S_HEURISTIC_COMMIT, E_HEURISTIC_COMMIT, O_HEURISTIC_COMMIT, S_COMMITTED_AGAINST_HEURISTIC, E_COMMITTED_AGAINST_HEURISTIC, S_HEURISTIC_MISMATCH, E_HEURISTIC_MISMATCH, O_HEURISTIC_MISMATCH, S_COMMITTED_IN_ONE_PHASE, E_COMMITTED_IN_ONE_PHASE, S_TxnStatus_COMMITTED, E_TxnStatus_COMMITTED, O_TxnStatus_COMMITTED, S_ABORTED_AGAINST_HEURISTIC, E_ABORTED_AGAINST_HEURISTIC, S_Outcome_ABORTED, E_Outcome_ABORTED, O_Outcome_ABORTED, S_PRE_ABORTED, E_PRE_ABORTED, O_PRE_ABORTED, S_PRE_COMMITTED, E_PRE_COMMITTED, O_PRE_COMMITTED, S_Joined_State_ABORTED, E_Joined_State_ABORTED, S_TxnStatus_ABORTED, E_TxnStatus_ABORTED, O_TxnStatus_ABORTED, F_decision_PREPARED, F_status_PREPARED, F_decision_Joined_State_COMMITTED, F_decision_HEURISTICALLY_ABORTED, F_status_HEURISTICALLY_ABORTED, F_decision_COMMITTED_AGAINST_HEURISTIC, F_status_COMMITTED_AGAINST_HEURISTIC, F_decision_COMMITTED_IN_ONE_PHASE, F_status_COMMITTED_IN_ONE_PHASE, F_decision_ABORTED_AGAINST_HEURISTIC, F_status_ABORTED_AGAINST_HEURISTIC, F_decision_PRE_ABORTED, F_status_PRE_ABORTED, F_decision_HEURISTICALLY_COMMITTED, F_status_HEURISTICALLY_COMMITTED, F_decision_PRE_COMMITTED, F_status_PRE_COMMITTED, F_decision_Joined_State_ABORTED, F_status_Joined_State_COMMITTED, F_status_Joined_State_ABORTED⟩ := G
  refine MetFree.of_bodySF (plainFor_of_name pn_1) hisR ?_
  intro p e s m args below meth c s₁ Bd hml0 hP hK
  obtain ⟨rfl, hZ, hh⟩ := hP
  have hx := Bd.exec
  have hby := Bd.bytes
  have hml : c.maxLocals = 8 := hml0
  have hown : s.vm.findClass "com/example/unanimity/unanimity/core/StateAwaitsDecisionPinLaw" = some m.cls := findClass_of_methodNamed Bd.named
  have hnm := (name_of_methodNamed Bd.named Bd.method).1
  have X0 : Stand p l e room_1 s m #[(.int p1), (.int p2)] below meth c s₁ [] 0 0 := Stand.of_body Bd
  have e0 : s₁.heap = h0 := by rw [← hh, Bd.state]; rfl
  have N0 := Fr.nil n0
  have pre0 : ∀ t, Steps p.tables e below (s₁.setTop (mkF m 0 #[.val (.int p1), .val (.int p2), .unset, .unset, .unset, .unset, .unset, .unset] [])) t → Steps p.tables e below (s₁.setTop (entryFrame m #[(.int p1), (.int p2)] maxLocals)) t := fun t k => castTop (ef_0_5 m p1 p2) k
  obtain ⟨_, _, ⟨T1, L1, k1, n1⟩, -, X1, ⟨Lc1, hQ1, l1, y1, z1⟩, st1⟩ := Jvm.LawKit.callS X0 hx (y := (⟨"com/example/unanimity/unanimity/core/StateAwaitsDecisionPinLaw", "pick", "(I)Lcom/example/unanimity/unanimity/core/Joined$State;"⟩ : MethodName)) hown (mvT hZ (hw _ (List.mem_of_getElem? (i := 1) rfl))) (mvT hZ (hw _ (List.mem_of_getElem? (i := 2) rfl))) (mvT hZ (hw _ (List.mem_of_getElem? (i := 3) rfl))) (mvT hZ (hw _ (List.mem_of_getElem? (i := 4) rfl))) (by decide) (backOf (W := 0) (r_pick_2 l Z a0 hw [] s_PREPARED s_IN_DOUBT s_Outcome_COMMITTED s_HEURISTICALLY_ABORTED s_HEURISTICALLY_COMMITTED s_Joined_State_COMMITTED s_HEURISTIC_ABORT s_HEURISTIC_COMMIT s_COMMITTED_AGAINST_HEURISTIC s_HEURISTIC_MISMATCH s_COMMITTED_IN_ONE_PHASE s_TxnStatus_COMMITTED s_ABORTED_AGAINST_HEURISTIC s_Outcome_ABORTED s_PRE_ABORTED s_PRE_COMMITTED s_Joined_State_ABORTED s_TxnStatus_ABORTED h0 n0 Z0 G0) hZ (hw _ (List.mem_of_getElem? (i := 4) rfl)) (hw _ (List.mem_of_getElem? (i := 3) rfl)) (by decide) (by decide)) (g := (mkF m 9 #[.val (.int p1), .val (.int p2), .val (.int (2 : Int32)), .unset, .unset, .unset, .unset, .unset] [(.int (2 : Int32))])) rfl (by rw [hml]; rfl) (argsL := [(.int (2 : Int32))]) (rest := []) (lenOf pd_1 rfl) rfl (by show 2 * 0 + _ ≤ _; exact Nat.le_of_eq rfl) (hb hby at_9) (fun _ _ => ⟨rfl, e0, (by decide : 0 + 0 ≤ _), (by decide : 0 + 0 ≤ _)⟩)
  dsimp only [Pt.U, Pt.locs, Pt.cells, Pt.slots] at X1 l1 y1 z1 st1 hQ1
  subst l1 y1 z1
  obtain ⟨rfl, N1q, e1⟩ := hQ1
  have N1 := Fr.app N0 N1q
  obtain ⟨cq2, kq2, q2a, q2b, q2c⟩ := isOf hZ e1 E_PRE_ABORTED
  obtain ⟨_, _, ⟨T2, L2, k2, n2⟩, -, X2, ⟨Lc2, hQ2, l2, y2, z2⟩, st2⟩ := X1.virtualBack hx (y := (⟨"com/example/unanimity/unanimity/core/Joined$State", "awaitsDecision", "()Z"⟩ : MethodName)) (z := (⟨"com/example/unanimity/unanimity/core/Joined$State", "awaitsDecision", "()Z"⟩ : MethodName)) hown (mvT hZ (hw _ (List.mem_of_getElem? (i := 8) rfl))) (mvT hZ (hw _ (List.mem_of_getElem? (i := 9) rfl))) (notFace_of_selects (args := #[]) (mvT hZ (hw _ (List.mem_of_getElem? (i := 11) rfl)))) (mvT hZ (hw _ (List.mem_of_getElem? (i := 11) rfl))) (mvT hZ (hw _ (List.mem_of_getElem? (i := 10) rfl))) (by decide) (backOf (W := 0) (r_aw_2 l Z a0 hw [] s_PREPARED s_IN_DOUBT s_Outcome_COMMITTED s_HEURISTICALLY_ABORTED s_HEURISTICALLY_COMMITTED s_Joined_State_COMMITTED s_HEURISTIC_ABORT s_HEURISTIC_COMMIT s_COMMITTED_AGAINST_HEURISTIC s_HEURISTIC_MISMATCH s_COMMITTED_IN_ONE_PHASE s_TxnStatus_COMMITTED s_ABORTED_AGAINST_HEURISTIC s_Outcome_ABORTED s_PRE_ABORTED s_PRE_COMMITTED s_Joined_State_ABORTED s_TxnStatus_ABORTED h0 n0 Z0 G0) hZ (hw _ (List.mem_of_getElem? (i := 12) rfl)) (hw _ (List.mem_of_getElem? (i := 6) rfl)) (by decide) (by decide)) q2a q2c (g := (mkF m 26 #[.val (.int p1), .val (.int p2), .val (.int (2 : Int32)), .val (.ref s_PRE_ABORTED), .val (.int (1 : Int32)), .unset, .unset, .unset] [(.ref s_PRE_ABORTED)])) rfl (by rw [hml]; rfl) (Steps.refl _) (argsL := []) (rest := []) (lenOf pd_2 rfl) rfl (by show 2 * 0 + _ ≤ _; exact Nat.le_of_eq rfl) (hb hby at_26) (fun _ _ => ⟨rfl, e1, (by decide : 0 + 0 ≤ _), (by decide : 0 + 0 ≤ _)⟩)
  dsimp only [Pt.U, Pt.locs, Pt.cells, Pt.slots] at X2 l2 y2 z2 st2 hQ2
  subst l2 y2 z2
  obtain ⟨rfl, N2q, e2⟩ := hQ2
  have N2 := Fr.app N1 N2q
  obtain ⟨cq3, kq3, q3a, q3b, q3c⟩ := isOf hZ e2 E_PRE_ABORTED
  obtain ⟨_, _, ⟨T3, L3, k3, n3⟩, -, X3, ⟨Lc3, hQ3, l3, y3, z3⟩, st3⟩ := X2.virtualBack hx (y := (⟨"com/example/unanimity/unanimity/core/Joined$State", "inDoubt", "()Z"⟩ : MethodName)) (z := (⟨"com/example/unanimity/unanimity/core/Joined$State", "inDoubt", "()Z"⟩ : MethodName)) hown (mvT hZ (hw _ (List.mem_of_getElem? (i := 15) rfl))) (mvT hZ (hw _ (List.mem_of_getElem? (i := 16) rfl))) (notFace_of_selects (args := #[]) (mvT hZ (hw _ (List.mem_of_getElem? (i := 18) rfl)))) (mvT hZ (hw _ (List.mem_of_getElem? (i := 18) rfl))) (mvT hZ (hw _ (List.mem_of_getElem? (i := 17) rfl))) (by decide) (backOf (W := 0) (r_in_2 l Z a0 hw [] s_PREPARED s_IN_DOUBT s_Outcome_COMMITTED s_HEURISTICALLY_ABORTED s_HEURISTICALLY_COMMITTED s_Joined_State_COMMITTED s_HEURISTIC_ABORT s_HEURISTIC_COMMIT s_COMMITTED_AGAINST_HEURISTIC s_HEURISTIC_MISMATCH s_COMMITTED_IN_ONE_PHASE s_TxnStatus_COMMITTED s_ABORTED_AGAINST_HEURISTIC s_Outcome_ABORTED s_PRE_ABORTED s_PRE_COMMITTED s_Joined_State_ABORTED s_TxnStatus_ABORTED h0 n0 Z0 G0) hZ (hw _ (List.mem_of_getElem? (i := 19) rfl)) (hw _ (List.mem_of_getElem? (i := 6) rfl)) (by decide) (by decide)) q3a q3c (g := (mkF m 41 #[.val (.int p1), .val (.int p2), .val (.int (2 : Int32)), .val (.ref s_PRE_ABORTED), .val (.int (1 : Int32)), .val (.int (1 : Int32)), .unset, .unset] [(.ref s_PRE_ABORTED)])) rfl (by rw [hml]; rfl) (Steps.refl _) (argsL := []) (rest := []) (lenOf pd_2 rfl) rfl (by show 2 * 0 + _ ≤ _; exact Nat.le_of_eq rfl) (hb hby at_41) (fun _ _ => ⟨rfl, e2, (by decide : 0 + 0 ≤ _), (by decide : 0 + 0 ≤ _)⟩)
  dsimp only [Pt.U, Pt.locs, Pt.cells, Pt.slots] at X3 l3 y3 z3 st3 hQ3
  subst l3 y3 z3
  obtain ⟨rfl, N3q, e3⟩ := hQ3
  have N3 := Fr.app N2 N3q
  obtain ⟨T4, X4, e4, st4⟩ := getS2 X3 hx hZ hown (host := "") (Or.inl (hw _ (List.mem_of_getElem? (i := 25) rfl))) Via.refl e3 S_Outcome_COMMITTED (g := (mkF m 94 #[.val (.int p1), .val (.int p2), .val (.int (2 : Int32)), .val (.ref s_PRE_ABORTED), .val (.int (1 : Int32)), .val (.int (1 : Int32)), .val (.int (1 : Int32)), .unset] [])) rfl (hb hby at_94)
  obtain ⟨cq5, kq5, q5a, q5b, q5c⟩ := isOf hZ e4 E_PRE_ABORTED
  obtain ⟨_, _, ⟨T5, L5, k5, n5⟩, -, X5, ⟨Lc5, hQ5, l5, y5, z5⟩, st5⟩ := X4.virtualBack hx (y := (⟨"com/example/unanimity/unanimity/core/Joined$State", "after", "(Lcom/example/unanimity/unanimity/core/Outcome;)Lcom/example/unanimity/unanimity/core/Joined$State;"⟩ : MethodName)) (z := (⟨"com/example/unanimity/unanimity/core/Joined$State", "after", "(Lcom/example/unanimity/unanimity/core/Outcome;)Lcom/example/unanimity/unanimity/core/Joined$State;"⟩ : MethodName)) hown (mvT hZ (hw _ (List.mem_of_getElem? (i := 28) rfl))) (mvT hZ (hw _ (List.mem_of_getElem? (i := 29) rfl))) (notFace_of_selects (args := #[]) (mvT hZ (hw _ (List.mem_of_getElem? (i := 31) rfl)))) (mvT hZ (hw _ (List.mem_of_getElem? (i := 31) rfl))) (mvT hZ (hw _ (List.mem_of_getElem? (i := 30) rfl))) (by decide) (backOf (W := 0) (r_after_2_Outcome_COMMITTED l Z a0 hw [] s_PREPARED s_IN_DOUBT s_Outcome_COMMITTED s_HEURISTICALLY_ABORTED s_HEURISTICALLY_COMMITTED s_Joined_State_COMMITTED s_HEURISTIC_ABORT s_HEURISTIC_COMMIT s_COMMITTED_AGAINST_HEURISTIC s_HEURISTIC_MISMATCH s_COMMITTED_IN_ONE_PHASE s_TxnStatus_COMMITTED s_ABORTED_AGAINST_HEURISTIC s_Outcome_ABORTED s_PRE_ABORTED s_PRE_COMMITTED s_Joined_State_ABORTED s_TxnStatus_ABORTED h0 n0 Z0 G0) hZ (hw _ (List.mem_of_getElem? (i := 32) rfl)) (hw _ (List.mem_of_getElem? (i := 6) rfl)) (by decide) (by decide)) q5a q5c (g := (mkF m 108 #[.val (.int p1), .val (.int p2), .val (.int (2 : Int32)), .val (.ref s_PRE_ABORTED), .val (.int (1 : Int32)), .val (.int (1 : Int32)), .val (.int (1 : Int32)), .val (.ref s_Outcome_COMMITTED)] [(.ref s_Outcome_COMMITTED), (.ref s_PRE_ABORTED)])) rfl (by rw [hml]; rfl) (Steps.refl _) (argsL := [(.ref s_Outcome_COMMITTED)]) (rest := []) (lenOf pd_0 rfl) rfl (by show 2 * 0 + _ ≤ _; exact Nat.le_of_eq rfl) (hb hby at_108) (fun _ _ => ⟨rfl, e4, (by decide : 0 + 0 ≤ _), (by decide : 0 + 0 ≤ _)⟩)
  dsimp only [Pt.U, Pt.locs, Pt.cells, Pt.slots] at X5 l5 y5 z5 st5 hQ5
  subst l5 y5 z5
  obtain ⟨rfl, N5q, e5⟩ := hQ5
  have N5 := Fr.app N3 N5q
  obtain ⟨cq6, kq6, q6a, q6b, q6c⟩ := isOf hZ e5 E_Joined_State_COMMITTED
  obtain ⟨_, _, ⟨T6, L6, k6, n6⟩, -, X6, ⟨Lc6, hQ6, l6, y6, z6⟩, st6⟩ := X5.virtualBack hx (y := (⟨"com/example/unanimity/unanimity/core/Joined$State", "awaitsDecision", "()Z"⟩ : MethodName)) (z := (⟨"com/example/unanimity/unanimity/core/Joined$State", "awaitsDecision", "()Z"⟩ : MethodName)) hown (mvT hZ (hw _ (List.mem_of_getElem? (i := 8) rfl))) (mvT hZ (hw _ (List.mem_of_getElem? (i := 9) rfl))) (notFace_of_selects (args := #[]) (mvT hZ (hw _ (List.mem_of_getElem? (i := 11) rfl)))) (mvT hZ (hw _ (List.mem_of_getElem? (i := 11) rfl))) (mvT hZ (hw _ (List.mem_of_getElem? (i := 10) rfl))) (by decide) (backOf (W := 0) (r_aw_5 l Z a0 hw [] s_PREPARED s_IN_DOUBT s_Outcome_COMMITTED s_HEURISTICALLY_ABORTED s_HEURISTICALLY_COMMITTED s_Joined_State_COMMITTED s_HEURISTIC_ABORT s_HEURISTIC_COMMIT s_COMMITTED_AGAINST_HEURISTIC s_HEURISTIC_MISMATCH s_COMMITTED_IN_ONE_PHASE s_TxnStatus_COMMITTED s_ABORTED_AGAINST_HEURISTIC s_Outcome_ABORTED s_PRE_ABORTED s_PRE_COMMITTED s_Joined_State_ABORTED s_TxnStatus_ABORTED h0 n0 Z0 G0) hZ (hw _ (List.mem_of_getElem? (i := 12) rfl)) (hw _ (List.mem_of_getElem? (i := 6) rfl)) (by decide) (by decide)) q6a q6c (g := (mkF m 111 #[.val (.int p1), .val (.int p2), .val (.int (2 : Int32)), .val (.ref s_PRE_ABORTED), .val (.int (1 : Int32)), .val (.int (1 : Int32)), .val (.int (1 : Int32)), .val (.ref s_Outcome_COMMITTED)] [(.ref s_Joined_State_COMMITTED)])) rfl (by rw [hml]; rfl) (Steps.refl _) (argsL := []) (rest := []) (lenOf pd_2 rfl) rfl (by show 2 * 0 + _ ≤ _; exact Nat.le_of_eq rfl) (hb hby at_111) (fun _ _ => ⟨rfl, e5, (by decide : 0 + 0 ≤ _), (by decide : 0 + 0 ≤ _)⟩)
  dsimp only [Pt.U, Pt.locs, Pt.cells, Pt.slots] at X6 l6 y6 z6 st6 hQ6
  subst l6 y6 z6
  obtain ⟨rfl, N6q, e6⟩ := hQ6
  have N6 := Fr.app N5 N6q
  obtain ⟨fs, hr, hrun, hended, hW, hsame⟩ := X6.leave (v := some (.int (1 : Int32))) (fun h => by rw [Bd.returns] at h; cases h)
  refine ⟨_, _, pre0 _ ?_, hrun, hended, _, _, rfl, ?_, ⟨_, rfl⟩, hW, hsame.mono (by decide) (by decide)⟩
  · show Steps p.tables e below (s₁.setTop (mkF m 0 #[.val (.int p1), .val (.int p2), .unset, .unset, .unset, .unset, .unset, .unset] [])) _
    refine XS.iloadN X0.here hx rfl (hb hby at_0) rfl ?_
    show Steps p.tables e below (s₁.setTop (mkF m 1 #[.val (.int p1), .val (.int p2), .unset, .unset, .unset, .unset, .unset, .unset] [(.int p1)])) _
    refine X0.ldcInt hx hown (mvT hZ (hw _ (List.mem_of_getElem? (i := 0) rfl))) (g := (mkF m 1 #[.val (.int p1), .val (.int p2), .unset, .unset, .unset, .unset, .unset, .unset] [(.int p1)])) rfl (hb hby at_1) _ ?_
    show Steps p.tables e below (s₁.setTop (mkF m 3 #[.val (.int p1), .val (.int p2), .unset, .unset, .unset, .unset, .unset, .unset] [(.int (2147483647 : Int32)), (.int p1)])) _
    refine XS.iand X0.here hx rfl (hb hby at_3) rfl ?_
    show Steps p.tables e below (s₁.setTop (mkF m 4 #[.val (.int p1), .val (.int p2), .unset, .unset, .unset, .unset, .unset, .unset] [(.int (p1 &&& (2147483647 : Int32)))])) _
    refine XS.bipush X0.here hx rfl (hb hby at_4) ?_
    show Steps p.tables e below (s₁.setTop (mkF m 6 #[.val (.int p1), .val (.int p2), .unset, .unset, .unset, .unset, .unset, .unset] [(.int (10 : Int32)), (.int (p1 &&& (2147483647 : Int32)))])) _
    refine iremM X0 hx rfl (hb hby at_6) rfl (by decide) ?_
    show Steps p.tables e below (s₁.setTop (mkF m 7 #[.val (.int p1), .val (.int p2), .unset, .unset, .unset, .unset, .unset, .unset] [(.int ((p1 &&& (2147483647 : Int32)) % (10 : Int32)))])) _
    rw [hk]
    show Steps p.tables e below (s₁.setTop (mkF m 7 #[.val (.int p1), .val (.int p2), .unset, .unset, .unset, .unset, .unset, .unset] [(.int (2 : Int32))])) _
    refine XS.istoreN X0.here hx rfl (hb hby at_7) rfl (l' := #[.val (.int p1), .val (.int p2), .val (.int (2 : Int32)), .unset, .unset, .unset, .unset, .unset]) rfl ?_
    show Steps p.tables e below (s₁.setTop (mkF m 8 #[.val (.int p1), .val (.int p2), .val (.int (2 : Int32)), .unset, .unset, .unset, .unset, .unset] [])) _
    refine XS.iloadN X0.here hx rfl (hb hby at_8) rfl ?_
    show Steps p.tables e below (s₁.setTop (mkF m 9 #[.val (.int p1), .val (.int p2), .val (.int (2 : Int32)), .unset, .unset, .unset, .unset, .unset] [(.int (2 : Int32))])) _
    refine st1 _ ?_
    show Steps p.tables e below (T1.setTop (mkF m 12 #[.val (.int p1), .val (.int p2), .val (.int (2 : Int32)), .unset, .unset, .unset, .unset, .unset] [(.ref s_PRE_ABORTED)])) _
    refine XS.astoreN X1.here hx rfl (hb hby at_12) rfl rfl (l' := #[.val (.int p1), .val (.int p2), .val (.int (2 : Int32)), .val (.ref s_PRE_ABORTED), .unset, .unset, .unset, .unset]) rfl ?_
    show Steps p.tables e below (T1.setTop (mkF m 13 #[.val (.int p1), .val (.int p2), .val (.int (2 : Int32)), .val (.ref s_PRE_ABORTED), .unset, .unset, .unset, .unset] [])) _
    refine XS.iloadN X1.here hx rfl (hb hby at_13) rfl ?_
    show Steps p.tables e below (T1.setTop (mkF m 14 #[.val (.int p1), .val (.int p2), .val (.int (2 : Int32)), .val (.ref s_PRE_ABORTED), .unset, .unset, .unset, .unset] [(.int (2 : Int32))])) _
    refine XS.iconst X1.here hx rfl (hb hby at_14) ?_
    show Steps p.tables e below (T1.setTop (mkF m 15 #[.val (.int p1), .val (.int p2), .val (.int (2 : Int32)), .val (.ref s_PRE_ABORTED), .unset, .unset, .unset, .unset] [(.int (5 : Int32)), (.int (2 : Int32))])) _
    refine XS.icmpNo X1.here hx rfl (hb hby at_15) rfl (tlt (by decide : (2 : Int32) < (5 : Int32))).2.1 ?_
    show Steps p.tables e below (T1.setTop (mkF m 18 #[.val (.int p1), .val (.int p2), .val (.int (2 : Int32)), .val (.ref s_PRE_ABORTED), .unset, .unset, .unset, .unset] [])) _
    refine XS.iconst X1.here hx rfl (hb hby at_18) ?_
    show Steps p.tables e below (T1.setTop (mkF m 19 #[.val (.int p1), .val (.int p2), .val (.int (2 : Int32)), .val (.ref s_PRE_ABORTED), .unset, .unset, .unset, .unset] [(.int (1 : Int32))])) _
    refine XS.goto X1.here hx rfl (pc0 := 19) (pc' := 23) rfl (hb hby at_19) (by decide) (by decide) ?_
    show Steps p.tables e below (T1.setTop (mkF m 23 #[.val (.int p1), .val (.int p2), .val (.int (2 : Int32)), .val (.ref s_PRE_ABORTED), .unset, .unset, .unset, .unset] [(.int (1 : Int32))])) _
    refine XS.istore X1.here hx rfl (hb hby at_23) rfl (l' := #[.val (.int p1), .val (.int p2), .val (.int (2 : Int32)), .val (.ref s_PRE_ABORTED), .val (.int (1 : Int32)), .unset, .unset, .unset]) rfl ?_
    show Steps p.tables e below (T1.setTop (mkF m 25 #[.val (.int p1), .val (.int p2), .val (.int (2 : Int32)), .val (.ref s_PRE_ABORTED), .val (.int (1 : Int32)), .unset, .unset, .unset] [])) _
    refine XS.aloadN X1.here hx rfl (hb hby at_25) rfl rfl ?_
    show Steps p.tables e below (T1.setTop (mkF m 26 #[.val (.int p1), .val (.int p2), .val (.int (2 : Int32)), .val (.ref s_PRE_ABORTED), .val (.int (1 : Int32)), .unset, .unset, .unset] [(.ref s_PRE_ABORTED)])) _
    refine st2.trans ?_
    show Steps p.tables e below (T2.setTop (mkF m 29 #[.val (.int p1), .val (.int p2), .val (.int (2 : Int32)), .val (.ref s_PRE_ABORTED), .val (.int (1 : Int32)), .unset, .unset, .unset] [(.int (1 : Int32))])) _
    refine XS.istore X2.here hx rfl (hb hby at_29) rfl (l' := #[.val (.int p1), .val (.int p2), .val (.int (2 : Int32)), .val (.ref s_PRE_ABORTED), .val (.int (1 : Int32)), .val (.int (1 : Int32)), .unset, .unset]) rfl ?_
    show Steps p.tables e below (T2.setTop (mkF m 31 #[.val (.int p1), .val (.int p2), .val (.int (2 : Int32)), .val (.ref s_PRE_ABORTED), .val (.int (1 : Int32)), .val (.int (1 : Int32)), .unset, .unset] [])) _
    refine XS.iload X2.here hx rfl (hb hby at_31) rfl ?_
    show Steps p.tables e below (T2.setTop (mkF m 33 #[.val (.int p1), .val (.int p2), .val (.int (2 : Int32)), .val (.ref s_PRE_ABORTED), .val (.int (1 : Int32)), .val (.int (1 : Int32)), .unset, .unset] [(.int (1 : Int32))])) _
    refine XS.iload X2.here hx rfl (hb hby at_33) rfl ?_
    show Steps p.tables e below (T2.setTop (mkF m 35 #[.val (.int p1), .val (.int p2), .val (.int (2 : Int32)), .val (.ref s_PRE_ABORTED), .val (.int (1 : Int32)), .val (.int (1 : Int32)), .unset, .unset] [(.int (1 : Int32)), (.int (1 : Int32))])) _
    refine XS.icmpYes X2.here hx rfl (pc0 := 35) (pc' := 40) rfl (hb hby at_35) rfl (teq (by decide : (1 : Int32) = (1 : Int32))).1 (by decide) (by decide) ?_
    show Steps p.tables e below (T2.setTop (mkF m 40 #[.val (.int p1), .val (.int p2), .val (.int (2 : Int32)), .val (.ref s_PRE_ABORTED), .val (.int (1 : Int32)), .val (.int (1 : Int32)), .unset, .unset] [])) _
    refine XS.aloadN X2.here hx rfl (hb hby at_40) rfl rfl ?_
    show Steps p.tables e below (T2.setTop (mkF m 41 #[.val (.int p1), .val (.int p2), .val (.int (2 : Int32)), .val (.ref s_PRE_ABORTED), .val (.int (1 : Int32)), .val (.int (1 : Int32)), .unset, .unset] [(.ref s_PRE_ABORTED)])) _
    refine st3.trans ?_
    show Steps p.tables e below (T3.setTop (mkF m 44 #[.val (.int p1), .val (.int p2), .val (.int (2 : Int32)), .val (.ref s_PRE_ABORTED), .val (.int (1 : Int32)), .val (.int (1 : Int32)), .unset, .unset] [(.int (1 : Int32))])) _
    refine XS.ifYes X3.here hx rfl (pc0 := 44) (pc' := 67) rfl (hb hby at_44) rfl ((if0 _ _).trans (feq (by decide : ¬ ((1 : Int32) = (0 : Int32)))).2) (by decide) (by decide) ?_
    show Steps p.tables e below (T3.setTop (mkF m 67 #[.val (.int p1), .val (.int p2), .val (.int (2 : Int32)), .val (.ref s_PRE_ABORTED), .val (.int (1 : Int32)), .val (.int (1 : Int32)), .unset, .unset] [])) _
    refine XS.iconst X3.here hx rfl (hb hby at_67) ?_
    show Steps p.tables e below (T3.setTop (mkF m 68 #[.val (.int p1), .val (.int p2), .val (.int (2 : Int32)), .val (.ref s_PRE_ABORTED), .val (.int (1 : Int32)), .val (.int (1 : Int32)), .unset, .unset] [(.int (1 : Int32))])) _
    refine XS.goto X3.here hx rfl (pc0 := 68) (pc' := 72) rfl (hb hby at_68) (by decide) (by decide) ?_
    show Steps p.tables e below (T3.setTop (mkF m 72 #[.val (.int p1), .val (.int p2), .val (.int (2 : Int32)), .val (.ref s_PRE_ABORTED), .val (.int (1 : Int32)), .val (.int (1 : Int32)), .unset, .unset] [(.int (1 : Int32))])) _
    refine XS.istore X3.here hx rfl (hb hby at_72) rfl (l' := #[.val (.int p1), .val (.int p2), .val (.int (2 : Int32)), .val (.ref s_PRE_ABORTED), .val (.int (1 : Int32)), .val (.int (1 : Int32)), .val (.int (1 : Int32)), .unset]) rfl ?_
    show Steps p.tables e below (T3.setTop (mkF m 74 #[.val (.int p1), .val (.int p2), .val (.int (2 : Int32)), .val (.ref s_PRE_ABORTED), .val (.int (1 : Int32)), .val (.int (1 : Int32)), .val (.int (1 : Int32)), .unset] [])) _
    refine XS.iload X3.here hx rfl (hb hby at_74) rfl ?_
    show Steps p.tables e below (T3.setTop (mkF m 76 #[.val (.int p1), .val (.int p2), .val (.int (2 : Int32)), .val (.ref s_PRE_ABORTED), .val (.int (1 : Int32)), .val (.int (1 : Int32)), .val (.int (1 : Int32)), .unset] [(.int (1 : Int32))])) _
    refine XS.iload X3.here hx rfl (hb hby at_76) rfl ?_
    show Steps p.tables e below (T3.setTop (mkF m 78 #[.val (.int p1), .val (.int p2), .val (.int (2 : Int32)), .val (.ref s_PRE_ABORTED), .val (.int (1 : Int32)), .val (.int (1 : Int32)), .val (.int (1 : Int32)), .unset] [(.int (1 : Int32)), (.int (1 : Int32))])) _
    refine XS.icmpYes X3.here hx rfl (pc0 := 78) (pc' := 83) rfl (hb hby at_78) rfl (teq (by decide : (1 : Int32) = (1 : Int32))).1 (by decide) (by decide) ?_
    show Steps p.tables e below (T3.setTop (mkF m 83 #[.val (.int p1), .val (.int p2), .val (.int (2 : Int32)), .val (.ref s_PRE_ABORTED), .val (.int (1 : Int32)), .val (.int (1 : Int32)), .val (.int (1 : Int32)), .unset] [])) _
    refine XS.iload X3.here hx rfl (hb hby at_83) rfl ?_
    show Steps p.tables e below (T3.setTop (mkF m 85 #[.val (.int p1), .val (.int p2), .val (.int (2 : Int32)), .val (.ref s_PRE_ABORTED), .val (.int (1 : Int32)), .val (.int (1 : Int32)), .val (.int (1 : Int32)), .unset] [(.int (1 : Int32))])) _
    refine XS.ifNo X3.here hx rfl (hb hby at_85) rfl ((if0 _ _).trans (feq (by decide : ¬ ((1 : Int32) = (0 : Int32)))).1) ?_
    show Steps p.tables e below (T3.setTop (mkF m 88 #[.val (.int p1), .val (.int p2), .val (.int (2 : Int32)), .val (.ref s_PRE_ABORTED), .val (.int (1 : Int32)), .val (.int (1 : Int32)), .val (.int (1 : Int32)), .unset] [])) _
    refine XS.iloadN X3.here hx rfl (hb hby at_88) rfl ?_
    show Steps p.tables e below (T3.setTop (mkF m 89 #[.val (.int p1), .val (.int p2), .val (.int (2 : Int32)), .val (.ref s_PRE_ABORTED), .val (.int (1 : Int32)), .val (.int (1 : Int32)), .val (.int (1 : Int32)), .unset] [(.int p2)])) _
    refine XS.iconst X3.here hx rfl (hb hby at_89) ?_
    show Steps p.tables e below (T3.setTop (mkF m 90 #[.val (.int p1), .val (.int p2), .val (.int (2 : Int32)), .val (.ref s_PRE_ABORTED), .val (.int (1 : Int32)), .val (.int (1 : Int32)), .val (.int (1 : Int32)), .unset] [(.int (1 : Int32)), (.int p2)])) _
    refine XS.iand X3.here hx rfl (hb hby at_90) rfl ?_
    show Steps p.tables e below (T3.setTop (mkF m 91 #[.val (.int p1), .val (.int p2), .val (.int (2 : Int32)), .val (.ref s_PRE_ABORTED), .val (.int (1 : Int32)), .val (.int (1 : Int32)), .val (.int (1 : Int32)), .unset] [(.int (p2 &&& (1 : Int32)))])) _
    rw [hf]
    show Steps p.tables e below (T3.setTop (mkF m 91 #[.val (.int p1), .val (.int p2), .val (.int (2 : Int32)), .val (.ref s_PRE_ABORTED), .val (.int (1 : Int32)), .val (.int (1 : Int32)), .val (.int (1 : Int32)), .unset] [(.int (1 : Int32))])) _
    refine XS.ifNo X3.here hx rfl (hb hby at_91) rfl ((if0 _ _).trans (feq (by decide : ¬ ((1 : Int32) = (0 : Int32)))).1) ?_
    show Steps p.tables e below (T3.setTop (mkF m 94 #[.val (.int p1), .val (.int p2), .val (.int (2 : Int32)), .val (.ref s_PRE_ABORTED), .val (.int (1 : Int32)), .val (.int (1 : Int32)), .val (.int (1 : Int32)), .unset] [])) _
    refine st4 _ ?_
    show Steps p.tables e below (T4.setTop (mkF m 97 #[.val (.int p1), .val (.int p2), .val (.int (2 : Int32)), .val (.ref s_PRE_ABORTED), .val (.int (1 : Int32)), .val (.int (1 : Int32)), .val (.int (1 : Int32)), .unset] [(.ref s_Outcome_COMMITTED)])) _
    refine XS.goto X4.here hx rfl (pc0 := 97) (pc' := 103) rfl (hb hby at_97) (by decide) (by decide) ?_
    show Steps p.tables e below (T4.setTop (mkF m 103 #[.val (.int p1), .val (.int p2), .val (.int (2 : Int32)), .val (.ref s_PRE_ABORTED), .val (.int (1 : Int32)), .val (.int (1 : Int32)), .val (.int (1 : Int32)), .unset] [(.ref s_Outcome_COMMITTED)])) _
    refine XS.astore X4.here hx rfl (hb hby at_103) rfl rfl (l' := #[.val (.int p1), .val (.int p2), .val (.int (2 : Int32)), .val (.ref s_PRE_ABORTED), .val (.int (1 : Int32)), .val (.int (1 : Int32)), .val (.int (1 : Int32)), .val (.ref s_Outcome_COMMITTED)]) rfl ?_
    show Steps p.tables e below (T4.setTop (mkF m 105 #[.val (.int p1), .val (.int p2), .val (.int (2 : Int32)), .val (.ref s_PRE_ABORTED), .val (.int (1 : Int32)), .val (.int (1 : Int32)), .val (.int (1 : Int32)), .val (.ref s_Outcome_COMMITTED)] [])) _
    refine XS.aloadN X4.here hx rfl (hb hby at_105) rfl rfl ?_
    show Steps p.tables e below (T4.setTop (mkF m 106 #[.val (.int p1), .val (.int p2), .val (.int (2 : Int32)), .val (.ref s_PRE_ABORTED), .val (.int (1 : Int32)), .val (.int (1 : Int32)), .val (.int (1 : Int32)), .val (.ref s_Outcome_COMMITTED)] [(.ref s_PRE_ABORTED)])) _
    refine XS.aload X4.here hx rfl (hb hby at_106) rfl rfl ?_
    show Steps p.tables e below (T4.setTop (mkF m 108 #[.val (.int p1), .val (.int p2), .val (.int (2 : Int32)), .val (.ref s_PRE_ABORTED), .val (.int (1 : Int32)), .val (.int (1 : Int32)), .val (.int (1 : Int32)), .val (.ref s_Outcome_COMMITTED)] [(.ref s_Outcome_COMMITTED), (.ref s_PRE_ABORTED)])) _
    refine st5.trans ?_
    show Steps p.tables e below (T5.setTop (mkF m 111 #[.val (.int p1), .val (.int p2), .val (.int (2 : Int32)), .val (.ref s_PRE_ABORTED), .val (.int (1 : Int32)), .val (.int (1 : Int32)), .val (.int (1 : Int32)), .val (.ref s_Outcome_COMMITTED)] [(.ref s_Joined_State_COMMITTED)])) _
    refine st6.trans ?_
    show Steps p.tables e below (T6.setTop (mkF m 114 #[.val (.int p1), .val (.int p2), .val (.int (2 : Int32)), .val (.ref s_PRE_ABORTED), .val (.int (1 : Int32)), .val (.int (1 : Int32)), .val (.int (1 : Int32)), .val (.ref s_Outcome_COMMITTED)] [(.int (0 : Int32))])) _
    refine XS.ifYes X6.here hx rfl (pc0 := 114) (pc' := 119) rfl (hb hby at_114) rfl ((if0 _ _).trans (teq (by decide : (0 : Int32) = (0 : Int32))).1) (by decide) (by decide) ?_
    show Steps p.tables e below (T6.setTop (mkF m 119 #[.val (.int p1), .val (.int p2), .val (.int (2 : Int32)), .val (.ref s_PRE_ABORTED), .val (.int (1 : Int32)), .val (.int (1 : Int32)), .val (.int (1 : Int32)), .val (.ref s_Outcome_COMMITTED)] [])) _
    refine XS.iconst X6.here hx rfl (hb hby at_119) ?_
    show Steps p.tables e below (T6.setTop (mkF m 120 #[.val (.int p1), .val (.int p2), .val (.int (2 : Int32)), .val (.ref s_PRE_ABORTED), .val (.int (1 : Int32)), .val (.int (1 : Int32)), .val (.int (1 : Int32)), .val (.ref s_Outcome_COMMITTED)] [(.int (1 : Int32))])) _
    exact retN X6 hx (t := .boolean) Bd.returns (by simp) (hb hby at_120) hr
  · show own_Q (some (.int (1 : Int32))) h0 n0 _ T6.heap _
    rw [e6]
    exact ⟨rfl, N6, rfl⟩
theorem d1_26 : decode method_2_code 26 = .ok (.iload_n 0, 1) := by decide +kernel
theorem d1_27 : decode method_2_code 27 = .ok (.iconst 3, 1) := by decide +kernel
theorem d1_28 : decode method_2_code 28 = .ok (.if_icmp .ne 7, 3) := by decide +kernel
theorem d1_31 : decode method_2_code 31 = .ok (.getstatic 19, 3) := by decide +kernel
theorem d1_34 : decode method_2_code 34 = .ok (.areturn, 1) := by decide +kernel
set_option maxRecDepth 65536 in
set_option maxHeartbeats 40000000 in
theorem r_pick_3 (l : Launch) (Z : State) (a0 : Array Value) (hw : ∀ d ∈ tables_1, d.before a0 Z = true) (ws : List Jvm.Cond) (s_PREPARED s_IN_DOUBT s_Outcome_COMMITTED s_HEURISTICALLY_ABORTED s_HEURISTICALLY_COMMITTED s_Joined_State_COMMITTED s_HEURISTIC_ABORT s_HEURISTIC_COMMIT s_COMMITTED_AGAINST_HEURISTIC s_HEURISTIC_MISMATCH s_COMMITTED_IN_ONE_PHASE s_TxnStatus_COMMITTED s_ABORTED_AGAINST_HEURISTIC s_Outcome_ABORTED s_PRE_ABORTED s_PRE_COMMITTED s_Joined_State_ABORTED s_TxnStatus_ABORTED : Addr) (h0 : Heap) (n0 : Nat) (Z0 : n0 ≤ h0.size) (G : own_Ctx Z h0 s_PREPARED s_IN_DOUBT s_Outcome_COMMITTED s_HEURISTICALLY_ABORTED s_HEURISTICALLY_COMMITTED s_Joined_State_COMMITTED s_HEURISTIC_ABORT s_HEURISTIC_COMMIT s_COMMITTED_AGAINST_HEURISTIC s_HEURISTIC_MISMATCH s_COMMITTED_IN_ONE_PHASE s_TxnStatus_COMMITTED s_ABORTED_AGAINST_HEURISTIC s_Outcome_ABORTED s_PRE_ABORTED s_PRE_COMMITTED s_Joined_State_ABORTED s_TxnStatus_ABORTED)   :
    MetFree l (⟨"com/example/unanimity/unanimity/core/StateAwaitsDecisionPinLaw", "pick", "(I)Lcom/example/unanimity/unanimity/core/Joined$State;"⟩ : MethodName) (head1 (Jvm.Cond.code (⟨"com/example/unanimity/unanimity/core/StateAwaitsDecisionPinLaw", "pick", "(I)Lcom/example/unanimity/unanimity/core/Joined$State;"⟩ : MethodName) method_2_code 1 (some (.object "com/example/unanimity/unanimity/core/Joined$State")) :: ws) ({ frames := 0, cells := 0, slots := 0, locals := 0 } : Room)) (fun a U => a = #[(.int (3 : Int32))] ∧ Z.Warmed39 U.vm ∧ U.heap = h0) (fun _ _ _ _ _ => True) (fun _ U o U' => ∃ v L, o = .returned v ∧ own_Q (some (.ref s_HEURISTICALLY_COMMITTED)) h0 n0 v U'.heap L ∧ FrameEnd U o U' L ({ frames := 0, cells := 0, slots := 0, locals := 0 } : Room).cells ({ frames := 0, cells := 0, slots := 0, locals := 0 } : Room).slots) := by
  have G0 := G
  obtain ⟨S_PREPARED, E_PREPARED, O_PREPARED, S_IN_DOUBT, E_IN_DOUBT, O_IN_DOUBT, S_Outcome_COMMITTED, E_Outcome_COMMITTED, O_Outcome_COMMITTED, S_HEURISTICALLY_ABORTED, E_HEURISTICALLY_ABORTED, O_HEURISTICALLY_ABORTED, S_HEURISTICALLY_COMMITTED, E_HEURISTICALLY_COMMITTED, O_HEURISTICALLY_COMMITTED, S_Joined_State_COMMITTED, E_Joined_State_COMMITTED, S_HEURISTIC_ABORT, E_HEURISTIC_ABORT, O_HEURISTIC_ABORT, S_HEURISTIC_COMMIT, E_HEURISTIC_COMMIT, O_HEURISTIC_COMMIT, S_COMMITTED_AGAINST_HEURISTIC, E_COMMITTED_AGAINST_HEURISTIC, S_HEURISTIC_MISMATCH, E_HEURISTIC_MISMATCH, O_HEURISTIC_MISMATCH, S_COMMITTED_IN_ONE_PHASE, E_COMMITTED_IN_ONE_PHASE, S_TxnStatus_COMMITTED, E_TxnStatus_COMMITTED, O_TxnStatus_COMMITTED, S_ABORTED_AGAINST_HEURISTIC, E_ABORTED_AGAINST_HEURISTIC, S_Outcome_ABORTED, E_Outcome_ABORTED, O_Outcome_ABORTED, S_PRE_ABORTED, E_PRE_ABORTED, O_PRE_ABORTED, S_PRE_COMMITTED, E_PRE_COMMITTED, O_PRE_COMMITTED, S_Joined_State_ABORTED, E_Joined_State_ABORTED, S_TxnStatus_ABORTED, E_TxnStatus_ABORTED, O_TxnStatus_ABORTED, F_decision_PREPARED, F_status_PREPARED, F_decision_Joined_State_COMMITTED, F_decision_HEURISTICALLY_ABORTED, F_status_HEURISTICALLY_ABORTED, F_decision_COMMITTED_AGAINST_HEURISTIC, F_status_COMMITTED_AGAINST_HEURISTIC, F_decision_COMMITTED_IN_ONE_PHASE, F_status_COMMITTED_IN_ONE_PHASE, F_decision_ABORTED_AGAINST_HEURISTIC, F_status_ABORTED_AGAINST_HEURISTIC, F_decision_PRE_ABORTED, F_status_PRE_ABORTED, F_decision_HEURISTICALLY_COMMITTED, F_status_HEURISTICALLY_COMMITTED, F_decision_PRE_COMMITTED, F_status_PRE_COMMITTED, F_decision_Joined_State_ABORTED, F_status_Joined_State_COMMITTED, F_status_Joined_State_ABORTED⟩ := G
  refine MetFree.of_bodySF (plainFor_of_name pn_1) hisR ?_
  intro p e s m args below meth c s₁ Bd hml0 hP hK
  obtain ⟨rfl, hZ, hh⟩ := hP
  have hx := Bd.exec
  have hby := Bd.bytes
  have hml : c.maxLocals = 1 := hml0
  have hown : s.vm.findClass "com/example/unanimity/unanimity/core/StateAwaitsDecisionPinLaw" = some m.cls := findClass_of_methodNamed Bd.named
  have hnm := (name_of_methodNamed Bd.named Bd.method).1
  have X0 : Stand p l e ({ frames := 0, cells := 0, slots := 0, locals := 0 } : Room) s m #[(.int (3 : Int32))] below meth c s₁ [] 0 0 := Stand.of_body Bd
  have e0 : s₁.heap = h0 := by rw [← hh, Bd.state]; rfl
  have N0 := Fr.nil n0
  have pre0 : ∀ t, Steps p.tables e below (s₁.setTop (mkF m 0 #[.val (.int (3 : Int32))] [])) t → Steps p.tables e below (s₁.setTop (entryFrame m #[(.int (3 : Int32))] 1)) t := fun t k => castTop (ef_1_4 m (3 : Int32)) k
  obtain ⟨T1, X1, e1, st1⟩ := getS2 X0 hx hZ hown (host := "") (Or.inl (hw _ (List.mem_of_getElem? (i := 61) rfl))) Via.refl e0 S_HEURISTICALLY_COMMITTED (g := (mkF m 31 #[.val (.int (3 : Int32))] [])) rfl (hb hby d1_31)
  obtain ⟨fs, hr, hrun, hended, hW, hsame⟩ := X1.leave (v := some (.ref s_HEURISTICALLY_COMMITTED)) (fun h => by rw [Bd.returns] at h; cases h)
  refine ⟨_, _, pre0 _ ?_, hrun, hended, _, _, rfl, ?_, ⟨_, rfl⟩, hW, hsame.mono (by decide) (by decide)⟩
  · show Steps p.tables e below (s₁.setTop (mkF m 0 #[.val (.int (3 : Int32))] [])) _
    refine XS.iloadN X0.here hx rfl (hb hby d1_0) rfl ?_
    show Steps p.tables e below (s₁.setTop (mkF m 1 #[.val (.int (3 : Int32))] [(.int (3 : Int32))])) _
    refine XS.ifYes X0.here hx rfl (pc0 := 1) (pc' := 8) rfl (hb hby d1_1) rfl ((if0 _ _).trans (feq (by decide : ¬ ((3 : Int32) = (0 : Int32)))).2) (by decide) (by decide) ?_
    show Steps p.tables e below (s₁.setTop (mkF m 8 #[.val (.int (3 : Int32))] [])) _
    refine XS.iloadN X0.here hx rfl (hb hby d1_8) rfl ?_
    show Steps p.tables e below (s₁.setTop (mkF m 9 #[.val (.int (3 : Int32))] [(.int (3 : Int32))])) _
    refine XS.iconst X0.here hx rfl (hb hby d1_9) ?_
    show Steps p.tables e below (s₁.setTop (mkF m 10 #[.val (.int (3 : Int32))] [(.int (1 : Int32)), (.int (3 : Int32))])) _
    refine XS.icmpYes X0.here hx rfl (pc0 := 10) (pc' := 17) rfl (hb hby d1_10) rfl (feq (by decide : ¬ ((3 : Int32) = (1 : Int32)))).2 (by decide) (by decide) ?_
    show Steps p.tables e below (s₁.setTop (mkF m 17 #[.val (.int (3 : Int32))] [])) _
    refine XS.iloadN X0.here hx rfl (hb hby d1_17) rfl ?_
    show Steps p.tables e below (s₁.setTop (mkF m 18 #[.val (.int (3 : Int32))] [(.int (3 : Int32))])) _
    refine XS.iconst X0.here hx rfl (hb hby d1_18) ?_
    show Steps p.tables e below (s₁.setTop (mkF m 19 #[.val (.int (3 : Int32))] [(.int (2 : Int32)), (.int (3 : Int32))])) _
    refine XS.icmpYes X0.here hx rfl (pc0 := 19) (pc' := 26) rfl (hb hby d1_19) rfl (feq (by decide : ¬ ((3 : Int32) = (2 : Int32)))).2 (by decide) (by decide) ?_
    show Steps p.tables e below (s₁.setTop (mkF m 26 #[.val (.int (3 : Int32))] [])) _
    refine XS.iloadN X0.here hx rfl (hb hby d1_26) rfl ?_
    show Steps p.tables e below (s₁.setTop (mkF m 27 #[.val (.int (3 : Int32))] [(.int (3 : Int32))])) _
    refine XS.iconst X0.here hx rfl (hb hby d1_27) ?_
    show Steps p.tables e below (s₁.setTop (mkF m 28 #[.val (.int (3 : Int32))] [(.int (3 : Int32)), (.int (3 : Int32))])) _
    refine XS.icmpNo X0.here hx rfl (hb hby d1_28) rfl (teq (by decide : (3 : Int32) = (3 : Int32))).2 ?_
    show Steps p.tables e below (s₁.setTop (mkF m 31 #[.val (.int (3 : Int32))] [])) _
    refine st1 _ ?_
    show Steps p.tables e below (T1.setTop (mkF m 34 #[.val (.int (3 : Int32))] [(.ref s_HEURISTICALLY_COMMITTED)])) _
    exact retOut X1 hx Bd.returns rfl (Or.inr (Or.inr (Or.inr (Or.inr ⟨rfl, rfl, rfl⟩)))) (hb hby d1_34) hr
  · show own_Q (some (.ref s_HEURISTICALLY_COMMITTED)) h0 n0 _ T1.heap _
    rw [e1]
    exact ⟨rfl, N0, rfl⟩
set_option maxRecDepth 65536 in
set_option maxHeartbeats 40000000 in
theorem r_law_3_0 (l : Launch) (Z : State) (a0 : Array Value) (hw : ∀ d ∈ tables_1, d.before a0 Z = true) (ws : List Jvm.Cond) (s_PREPARED s_IN_DOUBT s_Outcome_COMMITTED s_HEURISTICALLY_ABORTED s_HEURISTICALLY_COMMITTED s_Joined_State_COMMITTED s_HEURISTIC_ABORT s_HEURISTIC_COMMIT s_COMMITTED_AGAINST_HEURISTIC s_HEURISTIC_MISMATCH s_COMMITTED_IN_ONE_PHASE s_TxnStatus_COMMITTED s_ABORTED_AGAINST_HEURISTIC s_Outcome_ABORTED s_PRE_ABORTED s_PRE_COMMITTED s_Joined_State_ABORTED s_TxnStatus_ABORTED : Addr) (h0 : Heap) (n0 : Nat) (Z0 : n0 ≤ h0.size) (G : own_Ctx Z h0 s_PREPARED s_IN_DOUBT s_Outcome_COMMITTED s_HEURISTICALLY_ABORTED s_HEURISTICALLY_COMMITTED s_Joined_State_COMMITTED s_HEURISTIC_ABORT s_HEURISTIC_COMMIT s_COMMITTED_AGAINST_HEURISTIC s_HEURISTIC_MISMATCH s_COMMITTED_IN_ONE_PHASE s_TxnStatus_COMMITTED s_ABORTED_AGAINST_HEURISTIC s_Outcome_ABORTED s_PRE_ABORTED s_PRE_COMMITTED s_Joined_State_ABORTED s_TxnStatus_ABORTED) (p1 p2 : Int32) (hk : (p1 &&& (2147483647 : Int32)) % (10 : Int32) = (3 : Int32)) (hf : p2 &&& (1 : Int32) = (0 : Int32)) :
    MetFree l x (head1 (Jvm.Cond.code x code maxLocals ret :: ws) room_1) (fun a U => a = #[(.int p1), (.int p2)] ∧ Z.Warmed39 U.vm ∧ U.heap = h0) (fun _ _ _ _ _ => True) (fun _ U o U' => ∃ v L, o = .returned v ∧ own_Q (some (.int (1 : Int32))) h0 n0 v U'.heap L ∧ FrameEnd U o U' L 0 0) := by
  have G0 := G
  obtain ⟨S_PREPARED, E_PREPARED, O_PREPARED, S_IN_DOUBT, E_IN_DOUBT, O_IN_DOUBT, S_Outcome_COMMITTED, E_Outcome_COMMITTED, O_Outcome_COMMITTED, S_HEURISTICALLY_ABORTED, E_HEURISTICALLY_ABORTED, O_HEURISTICALLY_ABORTED, S_HEURISTICALLY_COMMITTED, E_HEURISTICALLY_COMMITTED, O_HEURISTICALLY_COMMITTED, S_Joined_State_COMMITTED, E_Joined_State_COMMITTED, S_HEURISTIC_ABORT, E_HEURISTIC_ABORT, O_HEURISTIC_ABORT, S_HEURISTIC_COMMIT, E_HEURISTIC_COMMIT, O_HEURISTIC_COMMIT, S_COMMITTED_AGAINST_HEURISTIC, E_COMMITTED_AGAINST_HEURISTIC, S_HEURISTIC_MISMATCH, E_HEURISTIC_MISMATCH, O_HEURISTIC_MISMATCH, S_COMMITTED_IN_ONE_PHASE, E_COMMITTED_IN_ONE_PHASE, S_TxnStatus_COMMITTED, E_TxnStatus_COMMITTED, O_TxnStatus_COMMITTED, S_ABORTED_AGAINST_HEURISTIC, E_ABORTED_AGAINST_HEURISTIC, S_Outcome_ABORTED, E_Outcome_ABORTED, O_Outcome_ABORTED, S_PRE_ABORTED, E_PRE_ABORTED, O_PRE_ABORTED, S_PRE_COMMITTED, E_PRE_COMMITTED, O_PRE_COMMITTED, S_Joined_State_ABORTED, E_Joined_State_ABORTED, S_TxnStatus_ABORTED, E_TxnStatus_ABORTED, O_TxnStatus_ABORTED, F_decision_PREPARED, F_status_PREPARED, F_decision_Joined_State_COMMITTED, F_decision_HEURISTICALLY_ABORTED, F_status_HEURISTICALLY_ABORTED, F_decision_COMMITTED_AGAINST_HEURISTIC, F_status_COMMITTED_AGAINST_HEURISTIC, F_decision_COMMITTED_IN_ONE_PHASE, F_status_COMMITTED_IN_ONE_PHASE, F_decision_ABORTED_AGAINST_HEURISTIC, F_status_ABORTED_AGAINST_HEURISTIC, F_decision_PRE_ABORTED, F_status_PRE_ABORTED, F_decision_HEURISTICALLY_COMMITTED, F_status_HEURISTICALLY_COMMITTED, F_decision_PRE_COMMITTED, F_status_PRE_COMMITTED, F_decision_Joined_State_ABORTED, F_status_Joined_State_COMMITTED, F_status_Joined_State_ABORTED⟩ := G
  refine MetFree.of_bodySF (plainFor_of_name pn_1) hisR ?_
  intro p e s m args below meth c s₁ Bd hml0 hP hK
  obtain ⟨rfl, hZ, hh⟩ := hP
  have hx := Bd.exec
  have hby := Bd.bytes
  have hml : c.maxLocals = 8 := hml0
  have hown : s.vm.findClass "com/example/unanimity/unanimity/core/StateAwaitsDecisionPinLaw" = some m.cls := findClass_of_methodNamed Bd.named
  have hnm := (name_of_methodNamed Bd.named Bd.method).1
  have X0 : Stand p l e room_1 s m #[(.int p1), (.int p2)] below meth c s₁ [] 0 0 := Stand.of_body Bd
  have e0 : s₁.heap = h0 := by rw [← hh, Bd.state]; rfl
  have N0 := Fr.nil n0
  have pre0 : ∀ t, Steps p.tables e below (s₁.setTop (mkF m 0 #[.val (.int p1), .val (.int p2), .unset, .unset, .unset, .unset, .unset, .unset] [])) t → Steps p.tables e below (s₁.setTop (entryFrame m #[(.int p1), (.int p2)] maxLocals)) t := fun t k => castTop (ef_0_5 m p1 p2) k
  obtain ⟨_, _, ⟨T1, L1, k1, n1⟩, -, X1, ⟨Lc1, hQ1, l1, y1, z1⟩, st1⟩ := Jvm.LawKit.callS X0 hx (y := (⟨"com/example/unanimity/unanimity/core/StateAwaitsDecisionPinLaw", "pick", "(I)Lcom/example/unanimity/unanimity/core/Joined$State;"⟩ : MethodName)) hown (mvT hZ (hw _ (List.mem_of_getElem? (i := 1) rfl))) (mvT hZ (hw _ (List.mem_of_getElem? (i := 2) rfl))) (mvT hZ (hw _ (List.mem_of_getElem? (i := 3) rfl))) (mvT hZ (hw _ (List.mem_of_getElem? (i := 4) rfl))) (by decide) (backOf (W := 0) (r_pick_3 l Z a0 hw [] s_PREPARED s_IN_DOUBT s_Outcome_COMMITTED s_HEURISTICALLY_ABORTED s_HEURISTICALLY_COMMITTED s_Joined_State_COMMITTED s_HEURISTIC_ABORT s_HEURISTIC_COMMIT s_COMMITTED_AGAINST_HEURISTIC s_HEURISTIC_MISMATCH s_COMMITTED_IN_ONE_PHASE s_TxnStatus_COMMITTED s_ABORTED_AGAINST_HEURISTIC s_Outcome_ABORTED s_PRE_ABORTED s_PRE_COMMITTED s_Joined_State_ABORTED s_TxnStatus_ABORTED h0 n0 Z0 G0) hZ (hw _ (List.mem_of_getElem? (i := 4) rfl)) (hw _ (List.mem_of_getElem? (i := 3) rfl)) (by decide) (by decide)) (g := (mkF m 9 #[.val (.int p1), .val (.int p2), .val (.int (3 : Int32)), .unset, .unset, .unset, .unset, .unset] [(.int (3 : Int32))])) rfl (by rw [hml]; rfl) (argsL := [(.int (3 : Int32))]) (rest := []) (lenOf pd_1 rfl) rfl (by show 2 * 0 + _ ≤ _; exact Nat.le_of_eq rfl) (hb hby at_9) (fun _ _ => ⟨rfl, e0, (by decide : 0 + 0 ≤ _), (by decide : 0 + 0 ≤ _)⟩)
  dsimp only [Pt.U, Pt.locs, Pt.cells, Pt.slots] at X1 l1 y1 z1 st1 hQ1
  subst l1 y1 z1
  obtain ⟨rfl, N1q, e1⟩ := hQ1
  have N1 := Fr.app N0 N1q
  obtain ⟨cq2, kq2, q2a, q2b, q2c⟩ := isOf hZ e1 E_HEURISTICALLY_COMMITTED
  obtain ⟨_, _, ⟨T2, L2, k2, n2⟩, -, X2, ⟨Lc2, hQ2, l2, y2, z2⟩, st2⟩ := X1.virtualBack hx (y := (⟨"com/example/unanimity/unanimity/core/Joined$State", "awaitsDecision", "()Z"⟩ : MethodName)) (z := (⟨"com/example/unanimity/unanimity/core/Joined$State", "awaitsDecision", "()Z"⟩ : MethodName)) hown (mvT hZ (hw _ (List.mem_of_getElem? (i := 8) rfl))) (mvT hZ (hw _ (List.mem_of_getElem? (i := 9) rfl))) (notFace_of_selects (args := #[]) (mvT hZ (hw _ (List.mem_of_getElem? (i := 11) rfl)))) (mvT hZ (hw _ (List.mem_of_getElem? (i := 11) rfl))) (mvT hZ (hw _ (List.mem_of_getElem? (i := 10) rfl))) (by decide) (backOf (W := 0) (r_aw_3 l Z a0 hw [] s_PREPARED s_IN_DOUBT s_Outcome_COMMITTED s_HEURISTICALLY_ABORTED s_HEURISTICALLY_COMMITTED s_Joined_State_COMMITTED s_HEURISTIC_ABORT s_HEURISTIC_COMMIT s_COMMITTED_AGAINST_HEURISTIC s_HEURISTIC_MISMATCH s_COMMITTED_IN_ONE_PHASE s_TxnStatus_COMMITTED s_ABORTED_AGAINST_HEURISTIC s_Outcome_ABORTED s_PRE_ABORTED s_PRE_COMMITTED s_Joined_State_ABORTED s_TxnStatus_ABORTED h0 n0 Z0 G0) hZ (hw _ (List.mem_of_getElem? (i := 12) rfl)) (hw _ (List.mem_of_getElem? (i := 6) rfl)) (by decide) (by decide)) q2a q2c (g := (mkF m 26 #[.val (.int p1), .val (.int p2), .val (.int (3 : Int32)), .val (.ref s_HEURISTICALLY_COMMITTED), .val (.int (1 : Int32)), .unset, .unset, .unset] [(.ref s_HEURISTICALLY_COMMITTED)])) rfl (by rw [hml]; rfl) (Steps.refl _) (argsL := []) (rest := []) (lenOf pd_2 rfl) rfl (by show 2 * 0 + _ ≤ _; exact Nat.le_of_eq rfl) (hb hby at_26) (fun _ _ => ⟨rfl, e1, (by decide : 0 + 0 ≤ _), (by decide : 0 + 0 ≤ _)⟩)
  dsimp only [Pt.U, Pt.locs, Pt.cells, Pt.slots] at X2 l2 y2 z2 st2 hQ2
  subst l2 y2 z2
  obtain ⟨rfl, N2q, e2⟩ := hQ2
  have N2 := Fr.app N1 N2q
  obtain ⟨cq3, kq3, q3a, q3b, q3c⟩ := isOf hZ e2 E_HEURISTICALLY_COMMITTED
  obtain ⟨_, _, ⟨T3, L3, k3, n3⟩, -, X3, ⟨Lc3, hQ3, l3, y3, z3⟩, st3⟩ := X2.virtualBack hx (y := (⟨"com/example/unanimity/unanimity/core/Joined$State", "inDoubt", "()Z"⟩ : MethodName)) (z := (⟨"com/example/unanimity/unanimity/core/Joined$State", "inDoubt", "()Z"⟩ : MethodName)) hown (mvT hZ (hw _ (List.mem_of_getElem? (i := 15) rfl))) (mvT hZ (hw _ (List.mem_of_getElem? (i := 16) rfl))) (notFace_of_selects (args := #[]) (mvT hZ (hw _ (List.mem_of_getElem? (i := 18) rfl)))) (mvT hZ (hw _ (List.mem_of_getElem? (i := 18) rfl))) (mvT hZ (hw _ (List.mem_of_getElem? (i := 17) rfl))) (by decide) (backOf (W := 0) (r_in_3 l Z a0 hw [] s_PREPARED s_IN_DOUBT s_Outcome_COMMITTED s_HEURISTICALLY_ABORTED s_HEURISTICALLY_COMMITTED s_Joined_State_COMMITTED s_HEURISTIC_ABORT s_HEURISTIC_COMMIT s_COMMITTED_AGAINST_HEURISTIC s_HEURISTIC_MISMATCH s_COMMITTED_IN_ONE_PHASE s_TxnStatus_COMMITTED s_ABORTED_AGAINST_HEURISTIC s_Outcome_ABORTED s_PRE_ABORTED s_PRE_COMMITTED s_Joined_State_ABORTED s_TxnStatus_ABORTED h0 n0 Z0 G0) hZ (hw _ (List.mem_of_getElem? (i := 19) rfl)) (hw _ (List.mem_of_getElem? (i := 6) rfl)) (by decide) (by decide)) q3a q3c (g := (mkF m 41 #[.val (.int p1), .val (.int p2), .val (.int (3 : Int32)), .val (.ref s_HEURISTICALLY_COMMITTED), .val (.int (1 : Int32)), .val (.int (1 : Int32)), .unset, .unset] [(.ref s_HEURISTICALLY_COMMITTED)])) rfl (by rw [hml]; rfl) (Steps.refl _) (argsL := []) (rest := []) (lenOf pd_2 rfl) rfl (by show 2 * 0 + _ ≤ _; exact Nat.le_of_eq rfl) (hb hby at_41) (fun _ _ => ⟨rfl, e2, (by decide : 0 + 0 ≤ _), (by decide : 0 + 0 ≤ _)⟩)
  dsimp only [Pt.U, Pt.locs, Pt.cells, Pt.slots] at X3 l3 y3 z3 st3 hQ3
  subst l3 y3 z3
  obtain ⟨rfl, N3q, e3⟩ := hQ3
  have N3 := Fr.app N2 N3q
  obtain ⟨T4, X4, e4, st4⟩ := getF X3 hx hZ hown (host := "") (Or.inl (hw _ (List.mem_of_getElem? (i := 45) rfl))) Via.refl e3 F_status_HEURISTICALLY_COMMITTED (g := (mkF m 48 #[.val (.int p1), .val (.int p2), .val (.int (3 : Int32)), .val (.ref s_HEURISTICALLY_COMMITTED), .val (.int (1 : Int32)), .val (.int (1 : Int32)), .unset, .unset] [(.ref s_HEURISTICALLY_COMMITTED)])) rfl rfl (hb hby at_48)
  obtain ⟨T5, X5, e5, st5⟩ := getS2 X4 hx hZ hown (host := "") (Or.inl (hw _ (List.mem_of_getElem? (i := 46) rfl))) Via.refl e4 S_HEURISTIC_COMMIT (g := (mkF m 51 #[.val (.int p1), .val (.int p2), .val (.int (3 : Int32)), .val (.ref s_HEURISTICALLY_COMMITTED), .val (.int (1 : Int32)), .val (.int (1 : Int32)), .unset, .unset] [(.ref s_HEURISTIC_COMMIT)])) rfl (hb hby at_51)
  obtain ⟨T6, X6, e6, st6⟩ := getS2 X5 hx hZ hown (host := "") (Or.inl (hw _ (List.mem_of_getElem? (i := 65) rfl))) Via.refl e5 S_Outcome_ABORTED (g := (mkF m 100 #[.val (.int p1), .val (.int p2), .val (.int (3 : Int32)), .val (.ref s_HEURISTICALLY_COMMITTED), .val (.int (1 : Int32)), .val (.int (1 : Int32)), .val (.int (1 : Int32)), .unset] [])) rfl (hb hby at_100)
  obtain ⟨cq7, kq7, q7a, q7b, q7c⟩ := isOf hZ e6 E_HEURISTICALLY_COMMITTED
  obtain ⟨_, _, ⟨T7, L7, k7, n7⟩, -, X7, ⟨Lc7, hQ7, l7, y7, z7⟩, st7⟩ := X6.virtualBack hx (y := (⟨"com/example/unanimity/unanimity/core/Joined$State", "after", "(Lcom/example/unanimity/unanimity/core/Outcome;)Lcom/example/unanimity/unanimity/core/Joined$State;"⟩ : MethodName)) (z := (⟨"com/example/unanimity/unanimity/core/Joined$State", "after", "(Lcom/example/unanimity/unanimity/core/Outcome;)Lcom/example/unanimity/unanimity/core/Joined$State;"⟩ : MethodName)) hown (mvT hZ (hw _ (List.mem_of_getElem? (i := 28) rfl))) (mvT hZ (hw _ (List.mem_of_getElem? (i := 29) rfl))) (notFace_of_selects (args := #[]) (mvT hZ (hw _ (List.mem_of_getElem? (i := 31) rfl)))) (mvT hZ (hw _ (List.mem_of_getElem? (i := 31) rfl))) (mvT hZ (hw _ (List.mem_of_getElem? (i := 30) rfl))) (by decide) (backOf (W := 0) (r_after_3_Outcome_ABORTED l Z a0 hw [] s_PREPARED s_IN_DOUBT s_Outcome_COMMITTED s_HEURISTICALLY_ABORTED s_HEURISTICALLY_COMMITTED s_Joined_State_COMMITTED s_HEURISTIC_ABORT s_HEURISTIC_COMMIT s_COMMITTED_AGAINST_HEURISTIC s_HEURISTIC_MISMATCH s_COMMITTED_IN_ONE_PHASE s_TxnStatus_COMMITTED s_ABORTED_AGAINST_HEURISTIC s_Outcome_ABORTED s_PRE_ABORTED s_PRE_COMMITTED s_Joined_State_ABORTED s_TxnStatus_ABORTED h0 n0 Z0 G0) hZ (hw _ (List.mem_of_getElem? (i := 32) rfl)) (hw _ (List.mem_of_getElem? (i := 6) rfl)) (by decide) (by decide)) q7a q7c (g := (mkF m 108 #[.val (.int p1), .val (.int p2), .val (.int (3 : Int32)), .val (.ref s_HEURISTICALLY_COMMITTED), .val (.int (1 : Int32)), .val (.int (1 : Int32)), .val (.int (1 : Int32)), .val (.ref s_Outcome_ABORTED)] [(.ref s_Outcome_ABORTED), (.ref s_HEURISTICALLY_COMMITTED)])) rfl (by rw [hml]; rfl) (Steps.refl _) (argsL := [(.ref s_Outcome_ABORTED)]) (rest := []) (lenOf pd_0 rfl) rfl (by show 2 * 0 + _ ≤ _; exact Nat.le_of_eq rfl) (hb hby at_108) (fun _ _ => ⟨rfl, e6, (by decide : 0 + 0 ≤ _), (by decide : 0 + 0 ≤ _)⟩)
  dsimp only [Pt.U, Pt.locs, Pt.cells, Pt.slots] at X7 l7 y7 z7 st7 hQ7
  subst l7 y7 z7
  obtain ⟨rfl, N7q, e7⟩ := hQ7
  have N7 := Fr.app N3 N7q
  obtain ⟨cq8, kq8, q8a, q8b, q8c⟩ := isOf hZ e7 E_ABORTED_AGAINST_HEURISTIC
  obtain ⟨_, _, ⟨T8, L8, k8, n8⟩, -, X8, ⟨Lc8, hQ8, l8, y8, z8⟩, st8⟩ := X7.virtualBack hx (y := (⟨"com/example/unanimity/unanimity/core/Joined$State", "awaitsDecision", "()Z"⟩ : MethodName)) (z := (⟨"com/example/unanimity/unanimity/core/Joined$State", "awaitsDecision", "()Z"⟩ : MethodName)) hown (mvT hZ (hw _ (List.mem_of_getElem? (i := 8) rfl))) (mvT hZ (hw _ (List.mem_of_getElem? (i := 9) rfl))) (notFace_of_selects (args := #[]) (mvT hZ (hw _ (List.mem_of_getElem? (i := 11) rfl)))) (mvT hZ (hw _ (List.mem_of_getElem? (i := 11) rfl))) (mvT hZ (hw _ (List.mem_of_getElem? (i := 10) rfl))) (by decide) (backOf (W := 0) (r_aw_9 l Z a0 hw [] s_PREPARED s_IN_DOUBT s_Outcome_COMMITTED s_HEURISTICALLY_ABORTED s_HEURISTICALLY_COMMITTED s_Joined_State_COMMITTED s_HEURISTIC_ABORT s_HEURISTIC_COMMIT s_COMMITTED_AGAINST_HEURISTIC s_HEURISTIC_MISMATCH s_COMMITTED_IN_ONE_PHASE s_TxnStatus_COMMITTED s_ABORTED_AGAINST_HEURISTIC s_Outcome_ABORTED s_PRE_ABORTED s_PRE_COMMITTED s_Joined_State_ABORTED s_TxnStatus_ABORTED h0 n0 Z0 G0) hZ (hw _ (List.mem_of_getElem? (i := 12) rfl)) (hw _ (List.mem_of_getElem? (i := 6) rfl)) (by decide) (by decide)) q8a q8c (g := (mkF m 111 #[.val (.int p1), .val (.int p2), .val (.int (3 : Int32)), .val (.ref s_HEURISTICALLY_COMMITTED), .val (.int (1 : Int32)), .val (.int (1 : Int32)), .val (.int (1 : Int32)), .val (.ref s_Outcome_ABORTED)] [(.ref s_ABORTED_AGAINST_HEURISTIC)])) rfl (by rw [hml]; rfl) (Steps.refl _) (argsL := []) (rest := []) (lenOf pd_2 rfl) rfl (by show 2 * 0 + _ ≤ _; exact Nat.le_of_eq rfl) (hb hby at_111) (fun _ _ => ⟨rfl, e7, (by decide : 0 + 0 ≤ _), (by decide : 0 + 0 ≤ _)⟩)
  dsimp only [Pt.U, Pt.locs, Pt.cells, Pt.slots] at X8 l8 y8 z8 st8 hQ8
  subst l8 y8 z8
  obtain ⟨rfl, N8q, e8⟩ := hQ8
  have N8 := Fr.app N7 N8q
  obtain ⟨fs, hr, hrun, hended, hW, hsame⟩ := X8.leave (v := some (.int (1 : Int32))) (fun h => by rw [Bd.returns] at h; cases h)
  refine ⟨_, _, pre0 _ ?_, hrun, hended, _, _, rfl, ?_, ⟨_, rfl⟩, hW, hsame.mono (by decide) (by decide)⟩
  · show Steps p.tables e below (s₁.setTop (mkF m 0 #[.val (.int p1), .val (.int p2), .unset, .unset, .unset, .unset, .unset, .unset] [])) _
    refine XS.iloadN X0.here hx rfl (hb hby at_0) rfl ?_
    show Steps p.tables e below (s₁.setTop (mkF m 1 #[.val (.int p1), .val (.int p2), .unset, .unset, .unset, .unset, .unset, .unset] [(.int p1)])) _
    refine X0.ldcInt hx hown (mvT hZ (hw _ (List.mem_of_getElem? (i := 0) rfl))) (g := (mkF m 1 #[.val (.int p1), .val (.int p2), .unset, .unset, .unset, .unset, .unset, .unset] [(.int p1)])) rfl (hb hby at_1) _ ?_
    show Steps p.tables e below (s₁.setTop (mkF m 3 #[.val (.int p1), .val (.int p2), .unset, .unset, .unset, .unset, .unset, .unset] [(.int (2147483647 : Int32)), (.int p1)])) _
    refine XS.iand X0.here hx rfl (hb hby at_3) rfl ?_
    show Steps p.tables e below (s₁.setTop (mkF m 4 #[.val (.int p1), .val (.int p2), .unset, .unset, .unset, .unset, .unset, .unset] [(.int (p1 &&& (2147483647 : Int32)))])) _
    refine XS.bipush X0.here hx rfl (hb hby at_4) ?_
    show Steps p.tables e below (s₁.setTop (mkF m 6 #[.val (.int p1), .val (.int p2), .unset, .unset, .unset, .unset, .unset, .unset] [(.int (10 : Int32)), (.int (p1 &&& (2147483647 : Int32)))])) _
    refine iremM X0 hx rfl (hb hby at_6) rfl (by decide) ?_
    show Steps p.tables e below (s₁.setTop (mkF m 7 #[.val (.int p1), .val (.int p2), .unset, .unset, .unset, .unset, .unset, .unset] [(.int ((p1 &&& (2147483647 : Int32)) % (10 : Int32)))])) _
    rw [hk]
    show Steps p.tables e below (s₁.setTop (mkF m 7 #[.val (.int p1), .val (.int p2), .unset, .unset, .unset, .unset, .unset, .unset] [(.int (3 : Int32))])) _
    refine XS.istoreN X0.here hx rfl (hb hby at_7) rfl (l' := #[.val (.int p1), .val (.int p2), .val (.int (3 : Int32)), .unset, .unset, .unset, .unset, .unset]) rfl ?_
    show Steps p.tables e below (s₁.setTop (mkF m 8 #[.val (.int p1), .val (.int p2), .val (.int (3 : Int32)), .unset, .unset, .unset, .unset, .unset] [])) _
    refine XS.iloadN X0.here hx rfl (hb hby at_8) rfl ?_
    show Steps p.tables e below (s₁.setTop (mkF m 9 #[.val (.int p1), .val (.int p2), .val (.int (3 : Int32)), .unset, .unset, .unset, .unset, .unset] [(.int (3 : Int32))])) _
    refine st1 _ ?_
    show Steps p.tables e below (T1.setTop (mkF m 12 #[.val (.int p1), .val (.int p2), .val (.int (3 : Int32)), .unset, .unset, .unset, .unset, .unset] [(.ref s_HEURISTICALLY_COMMITTED)])) _
    refine XS.astoreN X1.here hx rfl (hb hby at_12) rfl rfl (l' := #[.val (.int p1), .val (.int p2), .val (.int (3 : Int32)), .val (.ref s_HEURISTICALLY_COMMITTED), .unset, .unset, .unset, .unset]) rfl ?_
    show Steps p.tables e below (T1.setTop (mkF m 13 #[.val (.int p1), .val (.int p2), .val (.int (3 : Int32)), .val (.ref s_HEURISTICALLY_COMMITTED), .unset, .unset, .unset, .unset] [])) _
    refine XS.iloadN X1.here hx rfl (hb hby at_13) rfl ?_
    show Steps p.tables e below (T1.setTop (mkF m 14 #[.val (.int p1), .val (.int p2), .val (.int (3 : Int32)), .val (.ref s_HEURISTICALLY_COMMITTED), .unset, .unset, .unset, .unset] [(.int (3 : Int32))])) _
    refine XS.iconst X1.here hx rfl (hb hby at_14) ?_
    show Steps p.tables e below (T1.setTop (mkF m 15 #[.val (.int p1), .val (.int p2), .val (.int (3 : Int32)), .val (.ref s_HEURISTICALLY_COMMITTED), .unset, .unset, .unset, .unset] [(.int (5 : Int32)), (.int (3 : Int32))])) _
    refine XS.icmpNo X1.here hx rfl (hb hby at_15) rfl (tlt (by decide : (3 : Int32) < (5 : Int32))).2.1 ?_
    show Steps p.tables e below (T1.setTop (mkF m 18 #[.val (.int p1), .val (.int p2), .val (.int (3 : Int32)), .val (.ref s_HEURISTICALLY_COMMITTED), .unset, .unset, .unset, .unset] [])) _
    refine XS.iconst X1.here hx rfl (hb hby at_18) ?_
    show Steps p.tables e below (T1.setTop (mkF m 19 #[.val (.int p1), .val (.int p2), .val (.int (3 : Int32)), .val (.ref s_HEURISTICALLY_COMMITTED), .unset, .unset, .unset, .unset] [(.int (1 : Int32))])) _
    refine XS.goto X1.here hx rfl (pc0 := 19) (pc' := 23) rfl (hb hby at_19) (by decide) (by decide) ?_
    show Steps p.tables e below (T1.setTop (mkF m 23 #[.val (.int p1), .val (.int p2), .val (.int (3 : Int32)), .val (.ref s_HEURISTICALLY_COMMITTED), .unset, .unset, .unset, .unset] [(.int (1 : Int32))])) _
    refine XS.istore X1.here hx rfl (hb hby at_23) rfl (l' := #[.val (.int p1), .val (.int p2), .val (.int (3 : Int32)), .val (.ref s_HEURISTICALLY_COMMITTED), .val (.int (1 : Int32)), .unset, .unset, .unset]) rfl ?_
    show Steps p.tables e below (T1.setTop (mkF m 25 #[.val (.int p1), .val (.int p2), .val (.int (3 : Int32)), .val (.ref s_HEURISTICALLY_COMMITTED), .val (.int (1 : Int32)), .unset, .unset, .unset] [])) _
    refine XS.aloadN X1.here hx rfl (hb hby at_25) rfl rfl ?_
    show Steps p.tables e below (T1.setTop (mkF m 26 #[.val (.int p1), .val (.int p2), .val (.int (3 : Int32)), .val (.ref s_HEURISTICALLY_COMMITTED), .val (.int (1 : Int32)), .unset, .unset, .unset] [(.ref s_HEURISTICALLY_COMMITTED)])) _
    refine st2.trans ?_
    show Steps p.tables e below (T2.setTop (mkF m 29 #[.val (.int p1), .val (.int p2), .val (.int (3 : Int32)), .val (.ref s_HEURISTICALLY_COMMITTED), .val (.int (1 : Int32)), .unset, .unset, .unset] [(.int (1 : Int32))])) _
    refine XS.istore X2.here hx rfl (hb hby at_29) rfl (l' := #[.val (.int p1), .val (.int p2), .val (.int (3 : Int32)), .val (.ref s_HEURISTICALLY_COMMITTED), .val (.int (1 : Int32)), .val (.int (1 : Int32)), .unset, .unset]) rfl ?_
    show Steps p.tables e below (T2.setTop (mkF m 31 #[.val (.int p1), .val (.int p2), .val (.int (3 : Int32)), .val (.ref s_HEURISTICALLY_COMMITTED), .val (.int (1 : Int32)), .val (.int (1 : Int32)), .unset, .unset] [])) _
    refine XS.iload X2.here hx rfl (hb hby at_31) rfl ?_
    show Steps p.tables e below (T2.setTop (mkF m 33 #[.val (.int p1), .val (.int p2), .val (.int (3 : Int32)), .val (.ref s_HEURISTICALLY_COMMITTED), .val (.int (1 : Int32)), .val (.int (1 : Int32)), .unset, .unset] [(.int (1 : Int32))])) _
    refine XS.iload X2.here hx rfl (hb hby at_33) rfl ?_
    show Steps p.tables e below (T2.setTop (mkF m 35 #[.val (.int p1), .val (.int p2), .val (.int (3 : Int32)), .val (.ref s_HEURISTICALLY_COMMITTED), .val (.int (1 : Int32)), .val (.int (1 : Int32)), .unset, .unset] [(.int (1 : Int32)), (.int (1 : Int32))])) _
    refine XS.icmpYes X2.here hx rfl (pc0 := 35) (pc' := 40) rfl (hb hby at_35) rfl (teq (by decide : (1 : Int32) = (1 : Int32))).1 (by decide) (by decide) ?_
    show Steps p.tables e below (T2.setTop (mkF m 40 #[.val (.int p1), .val (.int p2), .val (.int (3 : Int32)), .val (.ref s_HEURISTICALLY_COMMITTED), .val (.int (1 : Int32)), .val (.int (1 : Int32)), .unset, .unset] [])) _
    refine XS.aloadN X2.here hx rfl (hb hby at_40) rfl rfl ?_
    show Steps p.tables e below (T2.setTop (mkF m 41 #[.val (.int p1), .val (.int p2), .val (.int (3 : Int32)), .val (.ref s_HEURISTICALLY_COMMITTED), .val (.int (1 : Int32)), .val (.int (1 : Int32)), .unset, .unset] [(.ref s_HEURISTICALLY_COMMITTED)])) _
    refine st3.trans ?_
    show Steps p.tables e below (T3.setTop (mkF m 44 #[.val (.int p1), .val (.int p2), .val (.int (3 : Int32)), .val (.ref s_HEURISTICALLY_COMMITTED), .val (.int (1 : Int32)), .val (.int (1 : Int32)), .unset, .unset] [(.int (0 : Int32))])) _
    refine XS.ifNo X3.here hx rfl (hb hby at_44) rfl ((if0 _ _).trans (teq (by decide : (0 : Int32) = (0 : Int32))).2) ?_
    show Steps p.tables e below (T3.setTop (mkF m 47 #[.val (.int p1), .val (.int p2), .val (.int (3 : Int32)), .val (.ref s_HEURISTICALLY_COMMITTED), .val (.int (1 : Int32)), .val (.int (1 : Int32)), .unset, .unset] [])) _
    refine XS.aloadN X3.here hx rfl (hb hby at_47) rfl rfl ?_
    show Steps p.tables e below (T3.setTop (mkF m 48 #[.val (.int p1), .val (.int p2), .val (.int (3 : Int32)), .val (.ref s_HEURISTICALLY_COMMITTED), .val (.int (1 : Int32)), .val (.int (1 : Int32)), .unset, .unset] [(.ref s_HEURISTICALLY_COMMITTED)])) _
    refine st4 _ ?_
    show Steps p.tables e below (T4.setTop (mkF m 51 #[.val (.int p1), .val (.int p2), .val (.int (3 : Int32)), .val (.ref s_HEURISTICALLY_COMMITTED), .val (.int (1 : Int32)), .val (.int (1 : Int32)), .unset, .unset] [(.ref s_HEURISTIC_COMMIT)])) _
    refine st5 _ ?_
    show Steps p.tables e below (T5.setTop (mkF m 54 #[.val (.int p1), .val (.int p2), .val (.int (3 : Int32)), .val (.ref s_HEURISTICALLY_COMMITTED), .val (.int (1 : Int32)), .val (.int (1 : Int32)), .unset, .unset] [(.ref s_HEURISTIC_COMMIT), (.ref s_HEURISTIC_COMMIT)])) _
    refine Jvm.RoadKit.acmp (g := (mkF m 54 #[.val (.int p1), .val (.int p2), .val (.int (3 : Int32)), .val (.ref s_HEURISTICALLY_COMMITTED), .val (.int (1 : Int32)), .val (.int (1 : Int32)), .unset, .unset] [(.ref s_HEURISTIC_COMMIT), (.ref s_HEURISTIC_COMMIT)])) X5 hx rfl rfl rfl (pc0 := 54) (pc' := 67) (same := true) rfl (hb hby at_54) rfl (decide_eq_true rfl) (by decide) (by decide) ?_
    show Steps p.tables e below (T5.setTop (mkF m 67 #[.val (.int p1), .val (.int p2), .val (.int (3 : Int32)), .val (.ref s_HEURISTICALLY_COMMITTED), .val (.int (1 : Int32)), .val (.int (1 : Int32)), .unset, .unset] [])) _
    refine XS.iconst X5.here hx rfl (hb hby at_67) ?_
    show Steps p.tables e below (T5.setTop (mkF m 68 #[.val (.int p1), .val (.int p2), .val (.int (3 : Int32)), .val (.ref s_HEURISTICALLY_COMMITTED), .val (.int (1 : Int32)), .val (.int (1 : Int32)), .unset, .unset] [(.int (1 : Int32))])) _
    refine XS.goto X5.here hx rfl (pc0 := 68) (pc' := 72) rfl (hb hby at_68) (by decide) (by decide) ?_
    show Steps p.tables e below (T5.setTop (mkF m 72 #[.val (.int p1), .val (.int p2), .val (.int (3 : Int32)), .val (.ref s_HEURISTICALLY_COMMITTED), .val (.int (1 : Int32)), .val (.int (1 : Int32)), .unset, .unset] [(.int (1 : Int32))])) _
    refine XS.istore X5.here hx rfl (hb hby at_72) rfl (l' := #[.val (.int p1), .val (.int p2), .val (.int (3 : Int32)), .val (.ref s_HEURISTICALLY_COMMITTED), .val (.int (1 : Int32)), .val (.int (1 : Int32)), .val (.int (1 : Int32)), .unset]) rfl ?_
    show Steps p.tables e below (T5.setTop (mkF m 74 #[.val (.int p1), .val (.int p2), .val (.int (3 : Int32)), .val (.ref s_HEURISTICALLY_COMMITTED), .val (.int (1 : Int32)), .val (.int (1 : Int32)), .val (.int (1 : Int32)), .unset] [])) _
    refine XS.iload X5.here hx rfl (hb hby at_74) rfl ?_
    show Steps p.tables e below (T5.setTop (mkF m 76 #[.val (.int p1), .val (.int p2), .val (.int (3 : Int32)), .val (.ref s_HEURISTICALLY_COMMITTED), .val (.int (1 : Int32)), .val (.int (1 : Int32)), .val (.int (1 : Int32)), .unset] [(.int (1 : Int32))])) _
    refine XS.iload X5.here hx rfl (hb hby at_76) rfl ?_
    show Steps p.tables e below (T5.setTop (mkF m 78 #[.val (.int p1), .val (.int p2), .val (.int (3 : Int32)), .val (.ref s_HEURISTICALLY_COMMITTED), .val (.int (1 : Int32)), .val (.int (1 : Int32)), .val (.int (1 : Int32)), .unset] [(.int (1 : Int32)), (.int (1 : Int32))])) _
    refine XS.icmpYes X5.here hx rfl (pc0 := 78) (pc' := 83) rfl (hb hby at_78) rfl (teq (by decide : (1 : Int32) = (1 : Int32))).1 (by decide) (by decide) ?_
    show Steps p.tables e below (T5.setTop (mkF m 83 #[.val (.int p1), .val (.int p2), .val (.int (3 : Int32)), .val (.ref s_HEURISTICALLY_COMMITTED), .val (.int (1 : Int32)), .val (.int (1 : Int32)), .val (.int (1 : Int32)), .unset] [])) _
    refine XS.iload X5.here hx rfl (hb hby at_83) rfl ?_
    show Steps p.tables e below (T5.setTop (mkF m 85 #[.val (.int p1), .val (.int p2), .val (.int (3 : Int32)), .val (.ref s_HEURISTICALLY_COMMITTED), .val (.int (1 : Int32)), .val (.int (1 : Int32)), .val (.int (1 : Int32)), .unset] [(.int (1 : Int32))])) _
    refine XS.ifNo X5.here hx rfl (hb hby at_85) rfl ((if0 _ _).trans (feq (by decide : ¬ ((1 : Int32) = (0 : Int32)))).1) ?_
    show Steps p.tables e below (T5.setTop (mkF m 88 #[.val (.int p1), .val (.int p2), .val (.int (3 : Int32)), .val (.ref s_HEURISTICALLY_COMMITTED), .val (.int (1 : Int32)), .val (.int (1 : Int32)), .val (.int (1 : Int32)), .unset] [])) _
    refine XS.iloadN X5.here hx rfl (hb hby at_88) rfl ?_
    show Steps p.tables e below (T5.setTop (mkF m 89 #[.val (.int p1), .val (.int p2), .val (.int (3 : Int32)), .val (.ref s_HEURISTICALLY_COMMITTED), .val (.int (1 : Int32)), .val (.int (1 : Int32)), .val (.int (1 : Int32)), .unset] [(.int p2)])) _
    refine XS.iconst X5.here hx rfl (hb hby at_89) ?_
    show Steps p.tables e below (T5.setTop (mkF m 90 #[.val (.int p1), .val (.int p2), .val (.int (3 : Int32)), .val (.ref s_HEURISTICALLY_COMMITTED), .val (.int (1 : Int32)), .val (.int (1 : Int32)), .val (.int (1 : Int32)), .unset] [(.int (1 : Int32)), (.int p2)])) _
    refine XS.iand X5.here hx rfl (hb hby at_90) rfl ?_
    show Steps p.tables e below (T5.setTop (mkF m 91 #[.val (.int p1), .val (.int p2), .val (.int (3 : Int32)), .val (.ref s_HEURISTICALLY_COMMITTED), .val (.int (1 : Int32)), .val (.int (1 : Int32)), .val (.int (1 : Int32)), .unset] [(.int (p2 &&& (1 : Int32)))])) _
    rw [hf]
    show Steps p.tables e below (T5.setTop (mkF m 91 #[.val (.int p1), .val (.int p2), .val (.int (3 : Int32)), .val (.ref s_HEURISTICALLY_COMMITTED), .val (.int (1 : Int32)), .val (.int (1 : Int32)), .val (.int (1 : Int32)), .unset] [(.int (0 : Int32))])) _
    refine XS.ifYes X5.here hx rfl (pc0 := 91) (pc' := 100) rfl (hb hby at_91) rfl ((if0 _ _).trans (teq (by decide : (0 : Int32) = (0 : Int32))).1) (by decide) (by decide) ?_
    show Steps p.tables e below (T5.setTop (mkF m 100 #[.val (.int p1), .val (.int p2), .val (.int (3 : Int32)), .val (.ref s_HEURISTICALLY_COMMITTED), .val (.int (1 : Int32)), .val (.int (1 : Int32)), .val (.int (1 : Int32)), .unset] [])) _
    refine st6 _ ?_
    show Steps p.tables e below (T6.setTop (mkF m 103 #[.val (.int p1), .val (.int p2), .val (.int (3 : Int32)), .val (.ref s_HEURISTICALLY_COMMITTED), .val (.int (1 : Int32)), .val (.int (1 : Int32)), .val (.int (1 : Int32)), .unset] [(.ref s_Outcome_ABORTED)])) _
    refine XS.astore X6.here hx rfl (hb hby at_103) rfl rfl (l' := #[.val (.int p1), .val (.int p2), .val (.int (3 : Int32)), .val (.ref s_HEURISTICALLY_COMMITTED), .val (.int (1 : Int32)), .val (.int (1 : Int32)), .val (.int (1 : Int32)), .val (.ref s_Outcome_ABORTED)]) rfl ?_
    show Steps p.tables e below (T6.setTop (mkF m 105 #[.val (.int p1), .val (.int p2), .val (.int (3 : Int32)), .val (.ref s_HEURISTICALLY_COMMITTED), .val (.int (1 : Int32)), .val (.int (1 : Int32)), .val (.int (1 : Int32)), .val (.ref s_Outcome_ABORTED)] [])) _
    refine XS.aloadN X6.here hx rfl (hb hby at_105) rfl rfl ?_
    show Steps p.tables e below (T6.setTop (mkF m 106 #[.val (.int p1), .val (.int p2), .val (.int (3 : Int32)), .val (.ref s_HEURISTICALLY_COMMITTED), .val (.int (1 : Int32)), .val (.int (1 : Int32)), .val (.int (1 : Int32)), .val (.ref s_Outcome_ABORTED)] [(.ref s_HEURISTICALLY_COMMITTED)])) _
    refine XS.aload X6.here hx rfl (hb hby at_106) rfl rfl ?_
    show Steps p.tables e below (T6.setTop (mkF m 108 #[.val (.int p1), .val (.int p2), .val (.int (3 : Int32)), .val (.ref s_HEURISTICALLY_COMMITTED), .val (.int (1 : Int32)), .val (.int (1 : Int32)), .val (.int (1 : Int32)), .val (.ref s_Outcome_ABORTED)] [(.ref s_Outcome_ABORTED), (.ref s_HEURISTICALLY_COMMITTED)])) _
    refine st7.trans ?_
    show Steps p.tables e below (T7.setTop (mkF m 111 #[.val (.int p1), .val (.int p2), .val (.int (3 : Int32)), .val (.ref s_HEURISTICALLY_COMMITTED), .val (.int (1 : Int32)), .val (.int (1 : Int32)), .val (.int (1 : Int32)), .val (.ref s_Outcome_ABORTED)] [(.ref s_ABORTED_AGAINST_HEURISTIC)])) _
    refine st8.trans ?_
    show Steps p.tables e below (T8.setTop (mkF m 114 #[.val (.int p1), .val (.int p2), .val (.int (3 : Int32)), .val (.ref s_HEURISTICALLY_COMMITTED), .val (.int (1 : Int32)), .val (.int (1 : Int32)), .val (.int (1 : Int32)), .val (.ref s_Outcome_ABORTED)] [(.int (0 : Int32))])) _
    refine XS.ifYes X8.here hx rfl (pc0 := 114) (pc' := 119) rfl (hb hby at_114) rfl ((if0 _ _).trans (teq (by decide : (0 : Int32) = (0 : Int32))).1) (by decide) (by decide) ?_
    show Steps p.tables e below (T8.setTop (mkF m 119 #[.val (.int p1), .val (.int p2), .val (.int (3 : Int32)), .val (.ref s_HEURISTICALLY_COMMITTED), .val (.int (1 : Int32)), .val (.int (1 : Int32)), .val (.int (1 : Int32)), .val (.ref s_Outcome_ABORTED)] [])) _
    refine XS.iconst X8.here hx rfl (hb hby at_119) ?_
    show Steps p.tables e below (T8.setTop (mkF m 120 #[.val (.int p1), .val (.int p2), .val (.int (3 : Int32)), .val (.ref s_HEURISTICALLY_COMMITTED), .val (.int (1 : Int32)), .val (.int (1 : Int32)), .val (.int (1 : Int32)), .val (.ref s_Outcome_ABORTED)] [(.int (1 : Int32))])) _
    exact retN X8 hx (t := .boolean) Bd.returns (by simp) (hb hby at_120) hr
  · show own_Q (some (.int (1 : Int32))) h0 n0 _ T8.heap _
    rw [e8]
    exact ⟨rfl, N8, rfl⟩
set_option maxRecDepth 65536 in
set_option maxHeartbeats 40000000 in
theorem r_law_3_1 (l : Launch) (Z : State) (a0 : Array Value) (hw : ∀ d ∈ tables_1, d.before a0 Z = true) (ws : List Jvm.Cond) (s_PREPARED s_IN_DOUBT s_Outcome_COMMITTED s_HEURISTICALLY_ABORTED s_HEURISTICALLY_COMMITTED s_Joined_State_COMMITTED s_HEURISTIC_ABORT s_HEURISTIC_COMMIT s_COMMITTED_AGAINST_HEURISTIC s_HEURISTIC_MISMATCH s_COMMITTED_IN_ONE_PHASE s_TxnStatus_COMMITTED s_ABORTED_AGAINST_HEURISTIC s_Outcome_ABORTED s_PRE_ABORTED s_PRE_COMMITTED s_Joined_State_ABORTED s_TxnStatus_ABORTED : Addr) (h0 : Heap) (n0 : Nat) (Z0 : n0 ≤ h0.size) (G : own_Ctx Z h0 s_PREPARED s_IN_DOUBT s_Outcome_COMMITTED s_HEURISTICALLY_ABORTED s_HEURISTICALLY_COMMITTED s_Joined_State_COMMITTED s_HEURISTIC_ABORT s_HEURISTIC_COMMIT s_COMMITTED_AGAINST_HEURISTIC s_HEURISTIC_MISMATCH s_COMMITTED_IN_ONE_PHASE s_TxnStatus_COMMITTED s_ABORTED_AGAINST_HEURISTIC s_Outcome_ABORTED s_PRE_ABORTED s_PRE_COMMITTED s_Joined_State_ABORTED s_TxnStatus_ABORTED) (p1 p2 : Int32) (hk : (p1 &&& (2147483647 : Int32)) % (10 : Int32) = (3 : Int32)) (hf : p2 &&& (1 : Int32) = (1 : Int32)) :
    MetFree l x (head1 (Jvm.Cond.code x code maxLocals ret :: ws) room_1) (fun a U => a = #[(.int p1), (.int p2)] ∧ Z.Warmed39 U.vm ∧ U.heap = h0) (fun _ _ _ _ _ => True) (fun _ U o U' => ∃ v L, o = .returned v ∧ own_Q (some (.int (1 : Int32))) h0 n0 v U'.heap L ∧ FrameEnd U o U' L 0 0) := by
  have G0 := G
  obtain ⟨S_PREPARED, E_PREPARED, O_PREPARED, S_IN_DOUBT, E_IN_DOUBT, O_IN_DOUBT, S_Outcome_COMMITTED, E_Outcome_COMMITTED, O_Outcome_COMMITTED, S_HEURISTICALLY_ABORTED, E_HEURISTICALLY_ABORTED, O_HEURISTICALLY_ABORTED, S_HEURISTICALLY_COMMITTED, E_HEURISTICALLY_COMMITTED, O_HEURISTICALLY_COMMITTED, S_Joined_State_COMMITTED, E_Joined_State_COMMITTED, S_HEURISTIC_ABORT, E_HEURISTIC_ABORT, O_HEURISTIC_ABORT, S_HEURISTIC_COMMIT, E_HEURISTIC_COMMIT, O_HEURISTIC_COMMIT, S_COMMITTED_AGAINST_HEURISTIC, E_COMMITTED_AGAINST_HEURISTIC, S_HEURISTIC_MISMATCH, E_HEURISTIC_MISMATCH, O_HEURISTIC_MISMATCH, S_COMMITTED_IN_ONE_PHASE, E_COMMITTED_IN_ONE_PHASE, S_TxnStatus_COMMITTED, E_TxnStatus_COMMITTED, O_TxnStatus_COMMITTED, S_ABORTED_AGAINST_HEURISTIC, E_ABORTED_AGAINST_HEURISTIC, S_Outcome_ABORTED, E_Outcome_ABORTED, O_Outcome_ABORTED, S_PRE_ABORTED, E_PRE_ABORTED, O_PRE_ABORTED, S_PRE_COMMITTED, E_PRE_COMMITTED, O_PRE_COMMITTED, S_Joined_State_ABORTED, E_Joined_State_ABORTED, S_TxnStatus_ABORTED, E_TxnStatus_ABORTED, O_TxnStatus_ABORTED, F_decision_PREPARED, F_status_PREPARED, F_decision_Joined_State_COMMITTED, F_decision_HEURISTICALLY_ABORTED, F_status_HEURISTICALLY_ABORTED, F_decision_COMMITTED_AGAINST_HEURISTIC, F_status_COMMITTED_AGAINST_HEURISTIC, F_decision_COMMITTED_IN_ONE_PHASE, F_status_COMMITTED_IN_ONE_PHASE, F_decision_ABORTED_AGAINST_HEURISTIC, F_status_ABORTED_AGAINST_HEURISTIC, F_decision_PRE_ABORTED, F_status_PRE_ABORTED, F_decision_HEURISTICALLY_COMMITTED, F_status_HEURISTICALLY_COMMITTED, F_decision_PRE_COMMITTED, F_status_PRE_COMMITTED, F_decision_Joined_State_ABORTED, F_status_Joined_State_COMMITTED, F_status_Joined_State_ABORTED⟩ := G
  refine MetFree.of_bodySF (plainFor_of_name pn_1) hisR ?_
  intro p e s m args below meth c s₁ Bd hml0 hP hK
  obtain ⟨rfl, hZ, hh⟩ := hP
  have hx := Bd.exec
  have hby := Bd.bytes
  have hml : c.maxLocals = 8 := hml0
  have hown : s.vm.findClass "com/example/unanimity/unanimity/core/StateAwaitsDecisionPinLaw" = some m.cls := findClass_of_methodNamed Bd.named
  have hnm := (name_of_methodNamed Bd.named Bd.method).1
  have X0 : Stand p l e room_1 s m #[(.int p1), (.int p2)] below meth c s₁ [] 0 0 := Stand.of_body Bd
  have e0 : s₁.heap = h0 := by rw [← hh, Bd.state]; rfl
  have N0 := Fr.nil n0
  have pre0 : ∀ t, Steps p.tables e below (s₁.setTop (mkF m 0 #[.val (.int p1), .val (.int p2), .unset, .unset, .unset, .unset, .unset, .unset] [])) t → Steps p.tables e below (s₁.setTop (entryFrame m #[(.int p1), (.int p2)] maxLocals)) t := fun t k => castTop (ef_0_5 m p1 p2) k
  obtain ⟨_, _, ⟨T1, L1, k1, n1⟩, -, X1, ⟨Lc1, hQ1, l1, y1, z1⟩, st1⟩ := Jvm.LawKit.callS X0 hx (y := (⟨"com/example/unanimity/unanimity/core/StateAwaitsDecisionPinLaw", "pick", "(I)Lcom/example/unanimity/unanimity/core/Joined$State;"⟩ : MethodName)) hown (mvT hZ (hw _ (List.mem_of_getElem? (i := 1) rfl))) (mvT hZ (hw _ (List.mem_of_getElem? (i := 2) rfl))) (mvT hZ (hw _ (List.mem_of_getElem? (i := 3) rfl))) (mvT hZ (hw _ (List.mem_of_getElem? (i := 4) rfl))) (by decide) (backOf (W := 0) (r_pick_3 l Z a0 hw [] s_PREPARED s_IN_DOUBT s_Outcome_COMMITTED s_HEURISTICALLY_ABORTED s_HEURISTICALLY_COMMITTED s_Joined_State_COMMITTED s_HEURISTIC_ABORT s_HEURISTIC_COMMIT s_COMMITTED_AGAINST_HEURISTIC s_HEURISTIC_MISMATCH s_COMMITTED_IN_ONE_PHASE s_TxnStatus_COMMITTED s_ABORTED_AGAINST_HEURISTIC s_Outcome_ABORTED s_PRE_ABORTED s_PRE_COMMITTED s_Joined_State_ABORTED s_TxnStatus_ABORTED h0 n0 Z0 G0) hZ (hw _ (List.mem_of_getElem? (i := 4) rfl)) (hw _ (List.mem_of_getElem? (i := 3) rfl)) (by decide) (by decide)) (g := (mkF m 9 #[.val (.int p1), .val (.int p2), .val (.int (3 : Int32)), .unset, .unset, .unset, .unset, .unset] [(.int (3 : Int32))])) rfl (by rw [hml]; rfl) (argsL := [(.int (3 : Int32))]) (rest := []) (lenOf pd_1 rfl) rfl (by show 2 * 0 + _ ≤ _; exact Nat.le_of_eq rfl) (hb hby at_9) (fun _ _ => ⟨rfl, e0, (by decide : 0 + 0 ≤ _), (by decide : 0 + 0 ≤ _)⟩)
  dsimp only [Pt.U, Pt.locs, Pt.cells, Pt.slots] at X1 l1 y1 z1 st1 hQ1
  subst l1 y1 z1
  obtain ⟨rfl, N1q, e1⟩ := hQ1
  have N1 := Fr.app N0 N1q
  obtain ⟨cq2, kq2, q2a, q2b, q2c⟩ := isOf hZ e1 E_HEURISTICALLY_COMMITTED
  obtain ⟨_, _, ⟨T2, L2, k2, n2⟩, -, X2, ⟨Lc2, hQ2, l2, y2, z2⟩, st2⟩ := X1.virtualBack hx (y := (⟨"com/example/unanimity/unanimity/core/Joined$State", "awaitsDecision", "()Z"⟩ : MethodName)) (z := (⟨"com/example/unanimity/unanimity/core/Joined$State", "awaitsDecision", "()Z"⟩ : MethodName)) hown (mvT hZ (hw _ (List.mem_of_getElem? (i := 8) rfl))) (mvT hZ (hw _ (List.mem_of_getElem? (i := 9) rfl))) (notFace_of_selects (args := #[]) (mvT hZ (hw _ (List.mem_of_getElem? (i := 11) rfl)))) (mvT hZ (hw _ (List.mem_of_getElem? (i := 11) rfl))) (mvT hZ (hw _ (List.mem_of_getElem? (i := 10) rfl))) (by decide) (backOf (W := 0) (r_aw_3 l Z a0 hw [] s_PREPARED s_IN_DOUBT s_Outcome_COMMITTED s_HEURISTICALLY_ABORTED s_HEURISTICALLY_COMMITTED s_Joined_State_COMMITTED s_HEURISTIC_ABORT s_HEURISTIC_COMMIT s_COMMITTED_AGAINST_HEURISTIC s_HEURISTIC_MISMATCH s_COMMITTED_IN_ONE_PHASE s_TxnStatus_COMMITTED s_ABORTED_AGAINST_HEURISTIC s_Outcome_ABORTED s_PRE_ABORTED s_PRE_COMMITTED s_Joined_State_ABORTED s_TxnStatus_ABORTED h0 n0 Z0 G0) hZ (hw _ (List.mem_of_getElem? (i := 12) rfl)) (hw _ (List.mem_of_getElem? (i := 6) rfl)) (by decide) (by decide)) q2a q2c (g := (mkF m 26 #[.val (.int p1), .val (.int p2), .val (.int (3 : Int32)), .val (.ref s_HEURISTICALLY_COMMITTED), .val (.int (1 : Int32)), .unset, .unset, .unset] [(.ref s_HEURISTICALLY_COMMITTED)])) rfl (by rw [hml]; rfl) (Steps.refl _) (argsL := []) (rest := []) (lenOf pd_2 rfl) rfl (by show 2 * 0 + _ ≤ _; exact Nat.le_of_eq rfl) (hb hby at_26) (fun _ _ => ⟨rfl, e1, (by decide : 0 + 0 ≤ _), (by decide : 0 + 0 ≤ _)⟩)
  dsimp only [Pt.U, Pt.locs, Pt.cells, Pt.slots] at X2 l2 y2 z2 st2 hQ2
  subst l2 y2 z2
  obtain ⟨rfl, N2q, e2⟩ := hQ2
  have N2 := Fr.app N1 N2q
  obtain ⟨cq3, kq3, q3a, q3b, q3c⟩ := isOf hZ e2 E_HEURISTICALLY_COMMITTED
  obtain ⟨_, _, ⟨T3, L3, k3, n3⟩, -, X3, ⟨Lc3, hQ3, l3, y3, z3⟩, st3⟩ := X2.virtualBack hx (y := (⟨"com/example/unanimity/unanimity/core/Joined$State", "inDoubt", "()Z"⟩ : MethodName)) (z := (⟨"com/example/unanimity/unanimity/core/Joined$State", "inDoubt", "()Z"⟩ : MethodName)) hown (mvT hZ (hw _ (List.mem_of_getElem? (i := 15) rfl))) (mvT hZ (hw _ (List.mem_of_getElem? (i := 16) rfl))) (notFace_of_selects (args := #[]) (mvT hZ (hw _ (List.mem_of_getElem? (i := 18) rfl)))) (mvT hZ (hw _ (List.mem_of_getElem? (i := 18) rfl))) (mvT hZ (hw _ (List.mem_of_getElem? (i := 17) rfl))) (by decide) (backOf (W := 0) (r_in_3 l Z a0 hw [] s_PREPARED s_IN_DOUBT s_Outcome_COMMITTED s_HEURISTICALLY_ABORTED s_HEURISTICALLY_COMMITTED s_Joined_State_COMMITTED s_HEURISTIC_ABORT s_HEURISTIC_COMMIT s_COMMITTED_AGAINST_HEURISTIC s_HEURISTIC_MISMATCH s_COMMITTED_IN_ONE_PHASE s_TxnStatus_COMMITTED s_ABORTED_AGAINST_HEURISTIC s_Outcome_ABORTED s_PRE_ABORTED s_PRE_COMMITTED s_Joined_State_ABORTED s_TxnStatus_ABORTED h0 n0 Z0 G0) hZ (hw _ (List.mem_of_getElem? (i := 19) rfl)) (hw _ (List.mem_of_getElem? (i := 6) rfl)) (by decide) (by decide)) q3a q3c (g := (mkF m 41 #[.val (.int p1), .val (.int p2), .val (.int (3 : Int32)), .val (.ref s_HEURISTICALLY_COMMITTED), .val (.int (1 : Int32)), .val (.int (1 : Int32)), .unset, .unset] [(.ref s_HEURISTICALLY_COMMITTED)])) rfl (by rw [hml]; rfl) (Steps.refl _) (argsL := []) (rest := []) (lenOf pd_2 rfl) rfl (by show 2 * 0 + _ ≤ _; exact Nat.le_of_eq rfl) (hb hby at_41) (fun _ _ => ⟨rfl, e2, (by decide : 0 + 0 ≤ _), (by decide : 0 + 0 ≤ _)⟩)
  dsimp only [Pt.U, Pt.locs, Pt.cells, Pt.slots] at X3 l3 y3 z3 st3 hQ3
  subst l3 y3 z3
  obtain ⟨rfl, N3q, e3⟩ := hQ3
  have N3 := Fr.app N2 N3q
  obtain ⟨T4, X4, e4, st4⟩ := getF X3 hx hZ hown (host := "") (Or.inl (hw _ (List.mem_of_getElem? (i := 45) rfl))) Via.refl e3 F_status_HEURISTICALLY_COMMITTED (g := (mkF m 48 #[.val (.int p1), .val (.int p2), .val (.int (3 : Int32)), .val (.ref s_HEURISTICALLY_COMMITTED), .val (.int (1 : Int32)), .val (.int (1 : Int32)), .unset, .unset] [(.ref s_HEURISTICALLY_COMMITTED)])) rfl rfl (hb hby at_48)
  obtain ⟨T5, X5, e5, st5⟩ := getS2 X4 hx hZ hown (host := "") (Or.inl (hw _ (List.mem_of_getElem? (i := 46) rfl))) Via.refl e4 S_HEURISTIC_COMMIT (g := (mkF m 51 #[.val (.int p1), .val (.int p2), .val (.int (3 : Int32)), .val (.ref s_HEURISTICALLY_COMMITTED), .val (.int (1 : Int32)), .val (.int (1 : Int32)), .unset, .unset] [(.ref s_HEURISTIC_COMMIT)])) rfl (hb hby at_51)
  obtain ⟨T6, X6, e6, st6⟩ := getS2 X5 hx hZ hown (host := "") (Or.inl (hw _ (List.mem_of_getElem? (i := 25) rfl))) Via.refl e5 S_Outcome_COMMITTED (g := (mkF m 94 #[.val (.int p1), .val (.int p2), .val (.int (3 : Int32)), .val (.ref s_HEURISTICALLY_COMMITTED), .val (.int (1 : Int32)), .val (.int (1 : Int32)), .val (.int (1 : Int32)), .unset] [])) rfl (hb hby at_94)
  obtain ⟨cq7, kq7, q7a, q7b, q7c⟩ := isOf hZ e6 E_HEURISTICALLY_COMMITTED
  obtain ⟨_, _, ⟨T7, L7, k7, n7⟩, -, X7, ⟨Lc7, hQ7, l7, y7, z7⟩, st7⟩ := X6.virtualBack hx (y := (⟨"com/example/unanimity/unanimity/core/Joined$State", "after", "(Lcom/example/unanimity/unanimity/core/Outcome;)Lcom/example/unanimity/unanimity/core/Joined$State;"⟩ : MethodName)) (z := (⟨"com/example/unanimity/unanimity/core/Joined$State", "after", "(Lcom/example/unanimity/unanimity/core/Outcome;)Lcom/example/unanimity/unanimity/core/Joined$State;"⟩ : MethodName)) hown (mvT hZ (hw _ (List.mem_of_getElem? (i := 28) rfl))) (mvT hZ (hw _ (List.mem_of_getElem? (i := 29) rfl))) (notFace_of_selects (args := #[]) (mvT hZ (hw _ (List.mem_of_getElem? (i := 31) rfl)))) (mvT hZ (hw _ (List.mem_of_getElem? (i := 31) rfl))) (mvT hZ (hw _ (List.mem_of_getElem? (i := 30) rfl))) (by decide) (backOf (W := 0) (r_after_3_Outcome_COMMITTED l Z a0 hw [] s_PREPARED s_IN_DOUBT s_Outcome_COMMITTED s_HEURISTICALLY_ABORTED s_HEURISTICALLY_COMMITTED s_Joined_State_COMMITTED s_HEURISTIC_ABORT s_HEURISTIC_COMMIT s_COMMITTED_AGAINST_HEURISTIC s_HEURISTIC_MISMATCH s_COMMITTED_IN_ONE_PHASE s_TxnStatus_COMMITTED s_ABORTED_AGAINST_HEURISTIC s_Outcome_ABORTED s_PRE_ABORTED s_PRE_COMMITTED s_Joined_State_ABORTED s_TxnStatus_ABORTED h0 n0 Z0 G0) hZ (hw _ (List.mem_of_getElem? (i := 32) rfl)) (hw _ (List.mem_of_getElem? (i := 6) rfl)) (by decide) (by decide)) q7a q7c (g := (mkF m 108 #[.val (.int p1), .val (.int p2), .val (.int (3 : Int32)), .val (.ref s_HEURISTICALLY_COMMITTED), .val (.int (1 : Int32)), .val (.int (1 : Int32)), .val (.int (1 : Int32)), .val (.ref s_Outcome_COMMITTED)] [(.ref s_Outcome_COMMITTED), (.ref s_HEURISTICALLY_COMMITTED)])) rfl (by rw [hml]; rfl) (Steps.refl _) (argsL := [(.ref s_Outcome_COMMITTED)]) (rest := []) (lenOf pd_0 rfl) rfl (by show 2 * 0 + _ ≤ _; exact Nat.le_of_eq rfl) (hb hby at_108) (fun _ _ => ⟨rfl, e6, (by decide : 0 + 0 ≤ _), (by decide : 0 + 0 ≤ _)⟩)
  dsimp only [Pt.U, Pt.locs, Pt.cells, Pt.slots] at X7 l7 y7 z7 st7 hQ7
  subst l7 y7 z7
  obtain ⟨rfl, N7q, e7⟩ := hQ7
  have N7 := Fr.app N3 N7q
  obtain ⟨cq8, kq8, q8a, q8b, q8c⟩ := isOf hZ e7 E_Joined_State_COMMITTED
  obtain ⟨_, _, ⟨T8, L8, k8, n8⟩, -, X8, ⟨Lc8, hQ8, l8, y8, z8⟩, st8⟩ := X7.virtualBack hx (y := (⟨"com/example/unanimity/unanimity/core/Joined$State", "awaitsDecision", "()Z"⟩ : MethodName)) (z := (⟨"com/example/unanimity/unanimity/core/Joined$State", "awaitsDecision", "()Z"⟩ : MethodName)) hown (mvT hZ (hw _ (List.mem_of_getElem? (i := 8) rfl))) (mvT hZ (hw _ (List.mem_of_getElem? (i := 9) rfl))) (notFace_of_selects (args := #[]) (mvT hZ (hw _ (List.mem_of_getElem? (i := 11) rfl)))) (mvT hZ (hw _ (List.mem_of_getElem? (i := 11) rfl))) (mvT hZ (hw _ (List.mem_of_getElem? (i := 10) rfl))) (by decide) (backOf (W := 0) (r_aw_5 l Z a0 hw [] s_PREPARED s_IN_DOUBT s_Outcome_COMMITTED s_HEURISTICALLY_ABORTED s_HEURISTICALLY_COMMITTED s_Joined_State_COMMITTED s_HEURISTIC_ABORT s_HEURISTIC_COMMIT s_COMMITTED_AGAINST_HEURISTIC s_HEURISTIC_MISMATCH s_COMMITTED_IN_ONE_PHASE s_TxnStatus_COMMITTED s_ABORTED_AGAINST_HEURISTIC s_Outcome_ABORTED s_PRE_ABORTED s_PRE_COMMITTED s_Joined_State_ABORTED s_TxnStatus_ABORTED h0 n0 Z0 G0) hZ (hw _ (List.mem_of_getElem? (i := 12) rfl)) (hw _ (List.mem_of_getElem? (i := 6) rfl)) (by decide) (by decide)) q8a q8c (g := (mkF m 111 #[.val (.int p1), .val (.int p2), .val (.int (3 : Int32)), .val (.ref s_HEURISTICALLY_COMMITTED), .val (.int (1 : Int32)), .val (.int (1 : Int32)), .val (.int (1 : Int32)), .val (.ref s_Outcome_COMMITTED)] [(.ref s_Joined_State_COMMITTED)])) rfl (by rw [hml]; rfl) (Steps.refl _) (argsL := []) (rest := []) (lenOf pd_2 rfl) rfl (by show 2 * 0 + _ ≤ _; exact Nat.le_of_eq rfl) (hb hby at_111) (fun _ _ => ⟨rfl, e7, (by decide : 0 + 0 ≤ _), (by decide : 0 + 0 ≤ _)⟩)
  dsimp only [Pt.U, Pt.locs, Pt.cells, Pt.slots] at X8 l8 y8 z8 st8 hQ8
  subst l8 y8 z8
  obtain ⟨rfl, N8q, e8⟩ := hQ8
  have N8 := Fr.app N7 N8q
  obtain ⟨fs, hr, hrun, hended, hW, hsame⟩ := X8.leave (v := some (.int (1 : Int32))) (fun h => by rw [Bd.returns] at h; cases h)
  refine ⟨_, _, pre0 _ ?_, hrun, hended, _, _, rfl, ?_, ⟨_, rfl⟩, hW, hsame.mono (by decide) (by decide)⟩
  · show Steps p.tables e below (s₁.setTop (mkF m 0 #[.val (.int p1), .val (.int p2), .unset, .unset, .unset, .unset, .unset, .unset] [])) _
    refine XS.iloadN X0.here hx rfl (hb hby at_0) rfl ?_
    show Steps p.tables e below (s₁.setTop (mkF m 1 #[.val (.int p1), .val (.int p2), .unset, .unset, .unset, .unset, .unset, .unset] [(.int p1)])) _
    refine X0.ldcInt hx hown (mvT hZ (hw _ (List.mem_of_getElem? (i := 0) rfl))) (g := (mkF m 1 #[.val (.int p1), .val (.int p2), .unset, .unset, .unset, .unset, .unset, .unset] [(.int p1)])) rfl (hb hby at_1) _ ?_
    show Steps p.tables e below (s₁.setTop (mkF m 3 #[.val (.int p1), .val (.int p2), .unset, .unset, .unset, .unset, .unset, .unset] [(.int (2147483647 : Int32)), (.int p1)])) _
    refine XS.iand X0.here hx rfl (hb hby at_3) rfl ?_
    show Steps p.tables e below (s₁.setTop (mkF m 4 #[.val (.int p1), .val (.int p2), .unset, .unset, .unset, .unset, .unset, .unset] [(.int (p1 &&& (2147483647 : Int32)))])) _
    refine XS.bipush X0.here hx rfl (hb hby at_4) ?_
    show Steps p.tables e below (s₁.setTop (mkF m 6 #[.val (.int p1), .val (.int p2), .unset, .unset, .unset, .unset, .unset, .unset] [(.int (10 : Int32)), (.int (p1 &&& (2147483647 : Int32)))])) _
    refine iremM X0 hx rfl (hb hby at_6) rfl (by decide) ?_
    show Steps p.tables e below (s₁.setTop (mkF m 7 #[.val (.int p1), .val (.int p2), .unset, .unset, .unset, .unset, .unset, .unset] [(.int ((p1 &&& (2147483647 : Int32)) % (10 : Int32)))])) _
    rw [hk]
    show Steps p.tables e below (s₁.setTop (mkF m 7 #[.val (.int p1), .val (.int p2), .unset, .unset, .unset, .unset, .unset, .unset] [(.int (3 : Int32))])) _
    refine XS.istoreN X0.here hx rfl (hb hby at_7) rfl (l' := #[.val (.int p1), .val (.int p2), .val (.int (3 : Int32)), .unset, .unset, .unset, .unset, .unset]) rfl ?_
    show Steps p.tables e below (s₁.setTop (mkF m 8 #[.val (.int p1), .val (.int p2), .val (.int (3 : Int32)), .unset, .unset, .unset, .unset, .unset] [])) _
    refine XS.iloadN X0.here hx rfl (hb hby at_8) rfl ?_
    show Steps p.tables e below (s₁.setTop (mkF m 9 #[.val (.int p1), .val (.int p2), .val (.int (3 : Int32)), .unset, .unset, .unset, .unset, .unset] [(.int (3 : Int32))])) _
    refine st1 _ ?_
    show Steps p.tables e below (T1.setTop (mkF m 12 #[.val (.int p1), .val (.int p2), .val (.int (3 : Int32)), .unset, .unset, .unset, .unset, .unset] [(.ref s_HEURISTICALLY_COMMITTED)])) _
    refine XS.astoreN X1.here hx rfl (hb hby at_12) rfl rfl (l' := #[.val (.int p1), .val (.int p2), .val (.int (3 : Int32)), .val (.ref s_HEURISTICALLY_COMMITTED), .unset, .unset, .unset, .unset]) rfl ?_
    show Steps p.tables e below (T1.setTop (mkF m 13 #[.val (.int p1), .val (.int p2), .val (.int (3 : Int32)), .val (.ref s_HEURISTICALLY_COMMITTED), .unset, .unset, .unset, .unset] [])) _
    refine XS.iloadN X1.here hx rfl (hb hby at_13) rfl ?_
    show Steps p.tables e below (T1.setTop (mkF m 14 #[.val (.int p1), .val (.int p2), .val (.int (3 : Int32)), .val (.ref s_HEURISTICALLY_COMMITTED), .unset, .unset, .unset, .unset] [(.int (3 : Int32))])) _
    refine XS.iconst X1.here hx rfl (hb hby at_14) ?_
    show Steps p.tables e below (T1.setTop (mkF m 15 #[.val (.int p1), .val (.int p2), .val (.int (3 : Int32)), .val (.ref s_HEURISTICALLY_COMMITTED), .unset, .unset, .unset, .unset] [(.int (5 : Int32)), (.int (3 : Int32))])) _
    refine XS.icmpNo X1.here hx rfl (hb hby at_15) rfl (tlt (by decide : (3 : Int32) < (5 : Int32))).2.1 ?_
    show Steps p.tables e below (T1.setTop (mkF m 18 #[.val (.int p1), .val (.int p2), .val (.int (3 : Int32)), .val (.ref s_HEURISTICALLY_COMMITTED), .unset, .unset, .unset, .unset] [])) _
    refine XS.iconst X1.here hx rfl (hb hby at_18) ?_
    show Steps p.tables e below (T1.setTop (mkF m 19 #[.val (.int p1), .val (.int p2), .val (.int (3 : Int32)), .val (.ref s_HEURISTICALLY_COMMITTED), .unset, .unset, .unset, .unset] [(.int (1 : Int32))])) _
    refine XS.goto X1.here hx rfl (pc0 := 19) (pc' := 23) rfl (hb hby at_19) (by decide) (by decide) ?_
    show Steps p.tables e below (T1.setTop (mkF m 23 #[.val (.int p1), .val (.int p2), .val (.int (3 : Int32)), .val (.ref s_HEURISTICALLY_COMMITTED), .unset, .unset, .unset, .unset] [(.int (1 : Int32))])) _
    refine XS.istore X1.here hx rfl (hb hby at_23) rfl (l' := #[.val (.int p1), .val (.int p2), .val (.int (3 : Int32)), .val (.ref s_HEURISTICALLY_COMMITTED), .val (.int (1 : Int32)), .unset, .unset, .unset]) rfl ?_
    show Steps p.tables e below (T1.setTop (mkF m 25 #[.val (.int p1), .val (.int p2), .val (.int (3 : Int32)), .val (.ref s_HEURISTICALLY_COMMITTED), .val (.int (1 : Int32)), .unset, .unset, .unset] [])) _
    refine XS.aloadN X1.here hx rfl (hb hby at_25) rfl rfl ?_
    show Steps p.tables e below (T1.setTop (mkF m 26 #[.val (.int p1), .val (.int p2), .val (.int (3 : Int32)), .val (.ref s_HEURISTICALLY_COMMITTED), .val (.int (1 : Int32)), .unset, .unset, .unset] [(.ref s_HEURISTICALLY_COMMITTED)])) _
    refine st2.trans ?_
    show Steps p.tables e below (T2.setTop (mkF m 29 #[.val (.int p1), .val (.int p2), .val (.int (3 : Int32)), .val (.ref s_HEURISTICALLY_COMMITTED), .val (.int (1 : Int32)), .unset, .unset, .unset] [(.int (1 : Int32))])) _
    refine XS.istore X2.here hx rfl (hb hby at_29) rfl (l' := #[.val (.int p1), .val (.int p2), .val (.int (3 : Int32)), .val (.ref s_HEURISTICALLY_COMMITTED), .val (.int (1 : Int32)), .val (.int (1 : Int32)), .unset, .unset]) rfl ?_
    show Steps p.tables e below (T2.setTop (mkF m 31 #[.val (.int p1), .val (.int p2), .val (.int (3 : Int32)), .val (.ref s_HEURISTICALLY_COMMITTED), .val (.int (1 : Int32)), .val (.int (1 : Int32)), .unset, .unset] [])) _
    refine XS.iload X2.here hx rfl (hb hby at_31) rfl ?_
    show Steps p.tables e below (T2.setTop (mkF m 33 #[.val (.int p1), .val (.int p2), .val (.int (3 : Int32)), .val (.ref s_HEURISTICALLY_COMMITTED), .val (.int (1 : Int32)), .val (.int (1 : Int32)), .unset, .unset] [(.int (1 : Int32))])) _
    refine XS.iload X2.here hx rfl (hb hby at_33) rfl ?_
    show Steps p.tables e below (T2.setTop (mkF m 35 #[.val (.int p1), .val (.int p2), .val (.int (3 : Int32)), .val (.ref s_HEURISTICALLY_COMMITTED), .val (.int (1 : Int32)), .val (.int (1 : Int32)), .unset, .unset] [(.int (1 : Int32)), (.int (1 : Int32))])) _
    refine XS.icmpYes X2.here hx rfl (pc0 := 35) (pc' := 40) rfl (hb hby at_35) rfl (teq (by decide : (1 : Int32) = (1 : Int32))).1 (by decide) (by decide) ?_
    show Steps p.tables e below (T2.setTop (mkF m 40 #[.val (.int p1), .val (.int p2), .val (.int (3 : Int32)), .val (.ref s_HEURISTICALLY_COMMITTED), .val (.int (1 : Int32)), .val (.int (1 : Int32)), .unset, .unset] [])) _
    refine XS.aloadN X2.here hx rfl (hb hby at_40) rfl rfl ?_
    show Steps p.tables e below (T2.setTop (mkF m 41 #[.val (.int p1), .val (.int p2), .val (.int (3 : Int32)), .val (.ref s_HEURISTICALLY_COMMITTED), .val (.int (1 : Int32)), .val (.int (1 : Int32)), .unset, .unset] [(.ref s_HEURISTICALLY_COMMITTED)])) _
    refine st3.trans ?_
    show Steps p.tables e below (T3.setTop (mkF m 44 #[.val (.int p1), .val (.int p2), .val (.int (3 : Int32)), .val (.ref s_HEURISTICALLY_COMMITTED), .val (.int (1 : Int32)), .val (.int (1 : Int32)), .unset, .unset] [(.int (0 : Int32))])) _
    refine XS.ifNo X3.here hx rfl (hb hby at_44) rfl ((if0 _ _).trans (teq (by decide : (0 : Int32) = (0 : Int32))).2) ?_
    show Steps p.tables e below (T3.setTop (mkF m 47 #[.val (.int p1), .val (.int p2), .val (.int (3 : Int32)), .val (.ref s_HEURISTICALLY_COMMITTED), .val (.int (1 : Int32)), .val (.int (1 : Int32)), .unset, .unset] [])) _
    refine XS.aloadN X3.here hx rfl (hb hby at_47) rfl rfl ?_
    show Steps p.tables e below (T3.setTop (mkF m 48 #[.val (.int p1), .val (.int p2), .val (.int (3 : Int32)), .val (.ref s_HEURISTICALLY_COMMITTED), .val (.int (1 : Int32)), .val (.int (1 : Int32)), .unset, .unset] [(.ref s_HEURISTICALLY_COMMITTED)])) _
    refine st4 _ ?_
    show Steps p.tables e below (T4.setTop (mkF m 51 #[.val (.int p1), .val (.int p2), .val (.int (3 : Int32)), .val (.ref s_HEURISTICALLY_COMMITTED), .val (.int (1 : Int32)), .val (.int (1 : Int32)), .unset, .unset] [(.ref s_HEURISTIC_COMMIT)])) _
    refine st5 _ ?_
    show Steps p.tables e below (T5.setTop (mkF m 54 #[.val (.int p1), .val (.int p2), .val (.int (3 : Int32)), .val (.ref s_HEURISTICALLY_COMMITTED), .val (.int (1 : Int32)), .val (.int (1 : Int32)), .unset, .unset] [(.ref s_HEURISTIC_COMMIT), (.ref s_HEURISTIC_COMMIT)])) _
    refine Jvm.RoadKit.acmp (g := (mkF m 54 #[.val (.int p1), .val (.int p2), .val (.int (3 : Int32)), .val (.ref s_HEURISTICALLY_COMMITTED), .val (.int (1 : Int32)), .val (.int (1 : Int32)), .unset, .unset] [(.ref s_HEURISTIC_COMMIT), (.ref s_HEURISTIC_COMMIT)])) X5 hx rfl rfl rfl (pc0 := 54) (pc' := 67) (same := true) rfl (hb hby at_54) rfl (decide_eq_true rfl) (by decide) (by decide) ?_
    show Steps p.tables e below (T5.setTop (mkF m 67 #[.val (.int p1), .val (.int p2), .val (.int (3 : Int32)), .val (.ref s_HEURISTICALLY_COMMITTED), .val (.int (1 : Int32)), .val (.int (1 : Int32)), .unset, .unset] [])) _
    refine XS.iconst X5.here hx rfl (hb hby at_67) ?_
    show Steps p.tables e below (T5.setTop (mkF m 68 #[.val (.int p1), .val (.int p2), .val (.int (3 : Int32)), .val (.ref s_HEURISTICALLY_COMMITTED), .val (.int (1 : Int32)), .val (.int (1 : Int32)), .unset, .unset] [(.int (1 : Int32))])) _
    refine XS.goto X5.here hx rfl (pc0 := 68) (pc' := 72) rfl (hb hby at_68) (by decide) (by decide) ?_
    show Steps p.tables e below (T5.setTop (mkF m 72 #[.val (.int p1), .val (.int p2), .val (.int (3 : Int32)), .val (.ref s_HEURISTICALLY_COMMITTED), .val (.int (1 : Int32)), .val (.int (1 : Int32)), .unset, .unset] [(.int (1 : Int32))])) _
    refine XS.istore X5.here hx rfl (hb hby at_72) rfl (l' := #[.val (.int p1), .val (.int p2), .val (.int (3 : Int32)), .val (.ref s_HEURISTICALLY_COMMITTED), .val (.int (1 : Int32)), .val (.int (1 : Int32)), .val (.int (1 : Int32)), .unset]) rfl ?_
    show Steps p.tables e below (T5.setTop (mkF m 74 #[.val (.int p1), .val (.int p2), .val (.int (3 : Int32)), .val (.ref s_HEURISTICALLY_COMMITTED), .val (.int (1 : Int32)), .val (.int (1 : Int32)), .val (.int (1 : Int32)), .unset] [])) _
    refine XS.iload X5.here hx rfl (hb hby at_74) rfl ?_
    show Steps p.tables e below (T5.setTop (mkF m 76 #[.val (.int p1), .val (.int p2), .val (.int (3 : Int32)), .val (.ref s_HEURISTICALLY_COMMITTED), .val (.int (1 : Int32)), .val (.int (1 : Int32)), .val (.int (1 : Int32)), .unset] [(.int (1 : Int32))])) _
    refine XS.iload X5.here hx rfl (hb hby at_76) rfl ?_
    show Steps p.tables e below (T5.setTop (mkF m 78 #[.val (.int p1), .val (.int p2), .val (.int (3 : Int32)), .val (.ref s_HEURISTICALLY_COMMITTED), .val (.int (1 : Int32)), .val (.int (1 : Int32)), .val (.int (1 : Int32)), .unset] [(.int (1 : Int32)), (.int (1 : Int32))])) _
    refine XS.icmpYes X5.here hx rfl (pc0 := 78) (pc' := 83) rfl (hb hby at_78) rfl (teq (by decide : (1 : Int32) = (1 : Int32))).1 (by decide) (by decide) ?_
    show Steps p.tables e below (T5.setTop (mkF m 83 #[.val (.int p1), .val (.int p2), .val (.int (3 : Int32)), .val (.ref s_HEURISTICALLY_COMMITTED), .val (.int (1 : Int32)), .val (.int (1 : Int32)), .val (.int (1 : Int32)), .unset] [])) _
    refine XS.iload X5.here hx rfl (hb hby at_83) rfl ?_
    show Steps p.tables e below (T5.setTop (mkF m 85 #[.val (.int p1), .val (.int p2), .val (.int (3 : Int32)), .val (.ref s_HEURISTICALLY_COMMITTED), .val (.int (1 : Int32)), .val (.int (1 : Int32)), .val (.int (1 : Int32)), .unset] [(.int (1 : Int32))])) _
    refine XS.ifNo X5.here hx rfl (hb hby at_85) rfl ((if0 _ _).trans (feq (by decide : ¬ ((1 : Int32) = (0 : Int32)))).1) ?_
    show Steps p.tables e below (T5.setTop (mkF m 88 #[.val (.int p1), .val (.int p2), .val (.int (3 : Int32)), .val (.ref s_HEURISTICALLY_COMMITTED), .val (.int (1 : Int32)), .val (.int (1 : Int32)), .val (.int (1 : Int32)), .unset] [])) _
    refine XS.iloadN X5.here hx rfl (hb hby at_88) rfl ?_
    show Steps p.tables e below (T5.setTop (mkF m 89 #[.val (.int p1), .val (.int p2), .val (.int (3 : Int32)), .val (.ref s_HEURISTICALLY_COMMITTED), .val (.int (1 : Int32)), .val (.int (1 : Int32)), .val (.int (1 : Int32)), .unset] [(.int p2)])) _
    refine XS.iconst X5.here hx rfl (hb hby at_89) ?_
    show Steps p.tables e below (T5.setTop (mkF m 90 #[.val (.int p1), .val (.int p2), .val (.int (3 : Int32)), .val (.ref s_HEURISTICALLY_COMMITTED), .val (.int (1 : Int32)), .val (.int (1 : Int32)), .val (.int (1 : Int32)), .unset] [(.int (1 : Int32)), (.int p2)])) _
    refine XS.iand X5.here hx rfl (hb hby at_90) rfl ?_
    show Steps p.tables e below (T5.setTop (mkF m 91 #[.val (.int p1), .val (.int p2), .val (.int (3 : Int32)), .val (.ref s_HEURISTICALLY_COMMITTED), .val (.int (1 : Int32)), .val (.int (1 : Int32)), .val (.int (1 : Int32)), .unset] [(.int (p2 &&& (1 : Int32)))])) _
    rw [hf]
    show Steps p.tables e below (T5.setTop (mkF m 91 #[.val (.int p1), .val (.int p2), .val (.int (3 : Int32)), .val (.ref s_HEURISTICALLY_COMMITTED), .val (.int (1 : Int32)), .val (.int (1 : Int32)), .val (.int (1 : Int32)), .unset] [(.int (1 : Int32))])) _
    refine XS.ifNo X5.here hx rfl (hb hby at_91) rfl ((if0 _ _).trans (feq (by decide : ¬ ((1 : Int32) = (0 : Int32)))).1) ?_
    show Steps p.tables e below (T5.setTop (mkF m 94 #[.val (.int p1), .val (.int p2), .val (.int (3 : Int32)), .val (.ref s_HEURISTICALLY_COMMITTED), .val (.int (1 : Int32)), .val (.int (1 : Int32)), .val (.int (1 : Int32)), .unset] [])) _
    refine st6 _ ?_
    show Steps p.tables e below (T6.setTop (mkF m 97 #[.val (.int p1), .val (.int p2), .val (.int (3 : Int32)), .val (.ref s_HEURISTICALLY_COMMITTED), .val (.int (1 : Int32)), .val (.int (1 : Int32)), .val (.int (1 : Int32)), .unset] [(.ref s_Outcome_COMMITTED)])) _
    refine XS.goto X6.here hx rfl (pc0 := 97) (pc' := 103) rfl (hb hby at_97) (by decide) (by decide) ?_
    show Steps p.tables e below (T6.setTop (mkF m 103 #[.val (.int p1), .val (.int p2), .val (.int (3 : Int32)), .val (.ref s_HEURISTICALLY_COMMITTED), .val (.int (1 : Int32)), .val (.int (1 : Int32)), .val (.int (1 : Int32)), .unset] [(.ref s_Outcome_COMMITTED)])) _
    refine XS.astore X6.here hx rfl (hb hby at_103) rfl rfl (l' := #[.val (.int p1), .val (.int p2), .val (.int (3 : Int32)), .val (.ref s_HEURISTICALLY_COMMITTED), .val (.int (1 : Int32)), .val (.int (1 : Int32)), .val (.int (1 : Int32)), .val (.ref s_Outcome_COMMITTED)]) rfl ?_
    show Steps p.tables e below (T6.setTop (mkF m 105 #[.val (.int p1), .val (.int p2), .val (.int (3 : Int32)), .val (.ref s_HEURISTICALLY_COMMITTED), .val (.int (1 : Int32)), .val (.int (1 : Int32)), .val (.int (1 : Int32)), .val (.ref s_Outcome_COMMITTED)] [])) _
    refine XS.aloadN X6.here hx rfl (hb hby at_105) rfl rfl ?_
    show Steps p.tables e below (T6.setTop (mkF m 106 #[.val (.int p1), .val (.int p2), .val (.int (3 : Int32)), .val (.ref s_HEURISTICALLY_COMMITTED), .val (.int (1 : Int32)), .val (.int (1 : Int32)), .val (.int (1 : Int32)), .val (.ref s_Outcome_COMMITTED)] [(.ref s_HEURISTICALLY_COMMITTED)])) _
    refine XS.aload X6.here hx rfl (hb hby at_106) rfl rfl ?_
    show Steps p.tables e below (T6.setTop (mkF m 108 #[.val (.int p1), .val (.int p2), .val (.int (3 : Int32)), .val (.ref s_HEURISTICALLY_COMMITTED), .val (.int (1 : Int32)), .val (.int (1 : Int32)), .val (.int (1 : Int32)), .val (.ref s_Outcome_COMMITTED)] [(.ref s_Outcome_COMMITTED), (.ref s_HEURISTICALLY_COMMITTED)])) _
    refine st7.trans ?_
    show Steps p.tables e below (T7.setTop (mkF m 111 #[.val (.int p1), .val (.int p2), .val (.int (3 : Int32)), .val (.ref s_HEURISTICALLY_COMMITTED), .val (.int (1 : Int32)), .val (.int (1 : Int32)), .val (.int (1 : Int32)), .val (.ref s_Outcome_COMMITTED)] [(.ref s_Joined_State_COMMITTED)])) _
    refine st8.trans ?_
    show Steps p.tables e below (T8.setTop (mkF m 114 #[.val (.int p1), .val (.int p2), .val (.int (3 : Int32)), .val (.ref s_HEURISTICALLY_COMMITTED), .val (.int (1 : Int32)), .val (.int (1 : Int32)), .val (.int (1 : Int32)), .val (.ref s_Outcome_COMMITTED)] [(.int (0 : Int32))])) _
    refine XS.ifYes X8.here hx rfl (pc0 := 114) (pc' := 119) rfl (hb hby at_114) rfl ((if0 _ _).trans (teq (by decide : (0 : Int32) = (0 : Int32))).1) (by decide) (by decide) ?_
    show Steps p.tables e below (T8.setTop (mkF m 119 #[.val (.int p1), .val (.int p2), .val (.int (3 : Int32)), .val (.ref s_HEURISTICALLY_COMMITTED), .val (.int (1 : Int32)), .val (.int (1 : Int32)), .val (.int (1 : Int32)), .val (.ref s_Outcome_COMMITTED)] [])) _
    refine XS.iconst X8.here hx rfl (hb hby at_119) ?_
    show Steps p.tables e below (T8.setTop (mkF m 120 #[.val (.int p1), .val (.int p2), .val (.int (3 : Int32)), .val (.ref s_HEURISTICALLY_COMMITTED), .val (.int (1 : Int32)), .val (.int (1 : Int32)), .val (.int (1 : Int32)), .val (.ref s_Outcome_COMMITTED)] [(.int (1 : Int32))])) _
    exact retN X8 hx (t := .boolean) Bd.returns (by simp) (hb hby at_120) hr
  · show own_Q (some (.int (1 : Int32))) h0 n0 _ T8.heap _
    rw [e8]
    exact ⟨rfl, N8, rfl⟩
theorem d1_35 : decode method_2_code 35 = .ok (.iload_n 0, 1) := by decide +kernel
theorem d1_36 : decode method_2_code 36 = .ok (.iconst 4, 1) := by decide +kernel
theorem d1_37 : decode method_2_code 37 = .ok (.if_icmp .ne 7, 3) := by decide +kernel
theorem d1_40 : decode method_2_code 40 = .ok (.getstatic 22, 3) := by decide +kernel
theorem d1_43 : decode method_2_code 43 = .ok (.areturn, 1) := by decide +kernel
set_option maxRecDepth 65536 in
set_option maxHeartbeats 40000000 in
theorem r_pick_4 (l : Launch) (Z : State) (a0 : Array Value) (hw : ∀ d ∈ tables_1, d.before a0 Z = true) (ws : List Jvm.Cond) (s_PREPARED s_IN_DOUBT s_Outcome_COMMITTED s_HEURISTICALLY_ABORTED s_HEURISTICALLY_COMMITTED s_Joined_State_COMMITTED s_HEURISTIC_ABORT s_HEURISTIC_COMMIT s_COMMITTED_AGAINST_HEURISTIC s_HEURISTIC_MISMATCH s_COMMITTED_IN_ONE_PHASE s_TxnStatus_COMMITTED s_ABORTED_AGAINST_HEURISTIC s_Outcome_ABORTED s_PRE_ABORTED s_PRE_COMMITTED s_Joined_State_ABORTED s_TxnStatus_ABORTED : Addr) (h0 : Heap) (n0 : Nat) (Z0 : n0 ≤ h0.size) (G : own_Ctx Z h0 s_PREPARED s_IN_DOUBT s_Outcome_COMMITTED s_HEURISTICALLY_ABORTED s_HEURISTICALLY_COMMITTED s_Joined_State_COMMITTED s_HEURISTIC_ABORT s_HEURISTIC_COMMIT s_COMMITTED_AGAINST_HEURISTIC s_HEURISTIC_MISMATCH s_COMMITTED_IN_ONE_PHASE s_TxnStatus_COMMITTED s_ABORTED_AGAINST_HEURISTIC s_Outcome_ABORTED s_PRE_ABORTED s_PRE_COMMITTED s_Joined_State_ABORTED s_TxnStatus_ABORTED)   :
    MetFree l (⟨"com/example/unanimity/unanimity/core/StateAwaitsDecisionPinLaw", "pick", "(I)Lcom/example/unanimity/unanimity/core/Joined$State;"⟩ : MethodName) (head1 (Jvm.Cond.code (⟨"com/example/unanimity/unanimity/core/StateAwaitsDecisionPinLaw", "pick", "(I)Lcom/example/unanimity/unanimity/core/Joined$State;"⟩ : MethodName) method_2_code 1 (some (.object "com/example/unanimity/unanimity/core/Joined$State")) :: ws) ({ frames := 0, cells := 0, slots := 0, locals := 0 } : Room)) (fun a U => a = #[(.int (4 : Int32))] ∧ Z.Warmed39 U.vm ∧ U.heap = h0) (fun _ _ _ _ _ => True) (fun _ U o U' => ∃ v L, o = .returned v ∧ own_Q (some (.ref s_HEURISTICALLY_ABORTED)) h0 n0 v U'.heap L ∧ FrameEnd U o U' L ({ frames := 0, cells := 0, slots := 0, locals := 0 } : Room).cells ({ frames := 0, cells := 0, slots := 0, locals := 0 } : Room).slots) := by
  have G0 := G
  obtain ⟨S_PREPARED, E_PREPARED, O_PREPARED, S_IN_DOUBT, E_IN_DOUBT, O_IN_DOUBT, S_Outcome_COMMITTED, E_Outcome_COMMITTED, O_Outcome_COMMITTED, S_HEURISTICALLY_ABORTED, E_HEURISTICALLY_ABORTED, O_HEURISTICALLY_ABORTED, S_HEURISTICALLY_COMMITTED, E_HEURISTICALLY_COMMITTED, O_HEURISTICALLY_COMMITTED, S_Joined_State_COMMITTED, E_Joined_State_COMMITTED, S_HEURISTIC_ABORT, E_HEURISTIC_ABORT, O_HEURISTIC_ABORT, S_HEURISTIC_COMMIT, E_HEURISTIC_COMMIT, O_HEURISTIC_COMMIT, S_COMMITTED_AGAINST_HEURISTIC, E_COMMITTED_AGAINST_HEURISTIC, S_HEURISTIC_MISMATCH, E_HEURISTIC_MISMATCH, O_HEURISTIC_MISMATCH, S_COMMITTED_IN_ONE_PHASE, E_COMMITTED_IN_ONE_PHASE, S_TxnStatus_COMMITTED, E_TxnStatus_COMMITTED, O_TxnStatus_COMMITTED, S_ABORTED_AGAINST_HEURISTIC, E_ABORTED_AGAINST_HEURISTIC, S_Outcome_ABORTED, E_Outcome_ABORTED, O_Outcome_ABORTED, S_PRE_ABORTED, E_PRE_ABORTED, O_PRE_ABORTED, S_PRE_COMMITTED, E_PRE_COMMITTED, O_PRE_COMMITTED, S_Joined_State_ABORTED, E_Joined_State_ABORTED, S_TxnStatus_ABORTED, E_TxnStatus_ABORTED, O_TxnStatus_ABORTED, F_decision_PREPARED, F_status_PREPARED, F_decision_Joined_State_COMMITTED, F_decision_HEURISTICALLY_ABORTED, F_status_HEURISTICALLY_ABORTED, F_decision_COMMITTED_AGAINST_HEURISTIC, F_status_COMMITTED_AGAINST_HEURISTIC, F_decision_COMMITTED_IN_ONE_PHASE, F_status_COMMITTED_IN_ONE_PHASE, F_decision_ABORTED_AGAINST_HEURISTIC, F_status_ABORTED_AGAINST_HEURISTIC, F_decision_PRE_ABORTED, F_status_PRE_ABORTED, F_decision_HEURISTICALLY_COMMITTED, F_status_HEURISTICALLY_COMMITTED, F_decision_PRE_COMMITTED, F_status_PRE_COMMITTED, F_decision_Joined_State_ABORTED, F_status_Joined_State_COMMITTED, F_status_Joined_State_ABORTED⟩ := G
  refine MetFree.of_bodySF (plainFor_of_name pn_1) hisR ?_
  intro p e s m args below meth c s₁ Bd hml0 hP hK
  obtain ⟨rfl, hZ, hh⟩ := hP
  have hx := Bd.exec
  have hby := Bd.bytes
  have hml : c.maxLocals = 1 := hml0
  have hown : s.vm.findClass "com/example/unanimity/unanimity/core/StateAwaitsDecisionPinLaw" = some m.cls := findClass_of_methodNamed Bd.named
  have hnm := (name_of_methodNamed Bd.named Bd.method).1
  have X0 : Stand p l e ({ frames := 0, cells := 0, slots := 0, locals := 0 } : Room) s m #[(.int (4 : Int32))] below meth c s₁ [] 0 0 := Stand.of_body Bd
  have e0 : s₁.heap = h0 := by rw [← hh, Bd.state]; rfl
  have N0 := Fr.nil n0
  have pre0 : ∀ t, Steps p.tables e below (s₁.setTop (mkF m 0 #[.val (.int (4 : Int32))] [])) t → Steps p.tables e below (s₁.setTop (entryFrame m #[(.int (4 : Int32))] 1)) t := fun t k => castTop (ef_1_4 m (4 : Int32)) k
  obtain ⟨T1, X1, e1, st1⟩ := getS2 X0 hx hZ hown (host := "") (Or.inl (hw _ (List.mem_of_getElem? (i := 43) rfl))) Via.refl e0 S_HEURISTICALLY_ABORTED (g := (mkF m 40 #[.val (.int (4 : Int32))] [])) rfl (hb hby d1_40)
  obtain ⟨fs, hr, hrun, hended, hW, hsame⟩ := X1.leave (v := some (.ref s_HEURISTICALLY_ABORTED)) (fun h => by rw [Bd.returns] at h; cases h)
  refine ⟨_, _, pre0 _ ?_, hrun, hended, _, _, rfl, ?_, ⟨_, rfl⟩, hW, hsame.mono (by decide) (by decide)⟩
  · show Steps p.tables e below (s₁.setTop (mkF m 0 #[.val (.int (4 : Int32))] [])) _
    refine XS.iloadN X0.here hx rfl (hb hby d1_0) rfl ?_
    show Steps p.tables e below (s₁.setTop (mkF m 1 #[.val (.int (4 : Int32))] [(.int (4 : Int32))])) _
    refine XS.ifYes X0.here hx rfl (pc0 := 1) (pc' := 8) rfl (hb hby d1_1) rfl ((if0 _ _).trans (feq (by decide : ¬ ((4 : Int32) = (0 : Int32)))).2) (by decide) (by decide) ?_
    show Steps p.tables e below (s₁.setTop (mkF m 8 #[.val (.int (4 : Int32))] [])) _
    refine XS.iloadN X0.here hx rfl (hb hby d1_8) rfl ?_
    show Steps p.tables e below (s₁.setTop (mkF m 9 #[.val (.int (4 : Int32))] [(.int (4 : Int32))])) _
    refine XS.iconst X0.here hx rfl (hb hby d1_9) ?_
    show Steps p.tables e below (s₁.setTop (mkF m 10 #[.val (.int (4 : Int32))] [(.int (1 : Int32)), (.int (4 : Int32))])) _
    refine XS.icmpYes X0.here hx rfl (pc0 := 10) (pc' := 17) rfl (hb hby d1_10) rfl (feq (by decide : ¬ ((4 : Int32) = (1 : Int32)))).2 (by decide) (by decide) ?_
    show Steps p.tables e below (s₁.setTop (mkF m 17 #[.val (.int (4 : Int32))] [])) _
    refine XS.iloadN X0.here hx rfl (hb hby d1_17) rfl ?_
    show Steps p.tables e below (s₁.setTop (mkF m 18 #[.val (.int (4 : Int32))] [(.int (4 : Int32))])) _
    refine XS.iconst X0.here hx rfl (hb hby d1_18) ?_
    show Steps p.tables e below (s₁.setTop (mkF m 19 #[.val (.int (4 : Int32))] [(.int (2 : Int32)), (.int (4 : Int32))])) _
    refine XS.icmpYes X0.here hx rfl (pc0 := 19) (pc' := 26) rfl (hb hby d1_19) rfl (feq (by decide : ¬ ((4 : Int32) = (2 : Int32)))).2 (by decide) (by decide) ?_
    show Steps p.tables e below (s₁.setTop (mkF m 26 #[.val (.int (4 : Int32))] [])) _
    refine XS.iloadN X0.here hx rfl (hb hby d1_26) rfl ?_
    show Steps p.tables e below (s₁.setTop (mkF m 27 #[.val (.int (4 : Int32))] [(.int (4 : Int32))])) _
    refine XS.iconst X0.here hx rfl (hb hby d1_27) ?_
    show Steps p.tables e below (s₁.setTop (mkF m 28 #[.val (.int (4 : Int32))] [(.int (3 : Int32)), (.int (4 : Int32))])) _
    refine XS.icmpYes X0.here hx rfl (pc0 := 28) (pc' := 35) rfl (hb hby d1_28) rfl (feq (by decide : ¬ ((4 : Int32) = (3 : Int32)))).2 (by decide) (by decide) ?_
    show Steps p.tables e below (s₁.setTop (mkF m 35 #[.val (.int (4 : Int32))] [])) _
    refine XS.iloadN X0.here hx rfl (hb hby d1_35) rfl ?_
    show Steps p.tables e below (s₁.setTop (mkF m 36 #[.val (.int (4 : Int32))] [(.int (4 : Int32))])) _
    refine XS.iconst X0.here hx rfl (hb hby d1_36) ?_
    show Steps p.tables e below (s₁.setTop (mkF m 37 #[.val (.int (4 : Int32))] [(.int (4 : Int32)), (.int (4 : Int32))])) _
    refine XS.icmpNo X0.here hx rfl (hb hby d1_37) rfl (teq (by decide : (4 : Int32) = (4 : Int32))).2 ?_
    show Steps p.tables e below (s₁.setTop (mkF m 40 #[.val (.int (4 : Int32))] [])) _
    refine st1 _ ?_
    show Steps p.tables e below (T1.setTop (mkF m 43 #[.val (.int (4 : Int32))] [(.ref s_HEURISTICALLY_ABORTED)])) _
    exact retOut X1 hx Bd.returns rfl (Or.inr (Or.inr (Or.inr (Or.inr ⟨rfl, rfl, rfl⟩)))) (hb hby d1_43) hr
  · show own_Q (some (.ref s_HEURISTICALLY_ABORTED)) h0 n0 _ T1.heap _
    rw [e1]
    exact ⟨rfl, N0, rfl⟩
set_option maxRecDepth 65536 in
set_option maxHeartbeats 40000000 in
theorem r_law_4_0 (l : Launch) (Z : State) (a0 : Array Value) (hw : ∀ d ∈ tables_1, d.before a0 Z = true) (ws : List Jvm.Cond) (s_PREPARED s_IN_DOUBT s_Outcome_COMMITTED s_HEURISTICALLY_ABORTED s_HEURISTICALLY_COMMITTED s_Joined_State_COMMITTED s_HEURISTIC_ABORT s_HEURISTIC_COMMIT s_COMMITTED_AGAINST_HEURISTIC s_HEURISTIC_MISMATCH s_COMMITTED_IN_ONE_PHASE s_TxnStatus_COMMITTED s_ABORTED_AGAINST_HEURISTIC s_Outcome_ABORTED s_PRE_ABORTED s_PRE_COMMITTED s_Joined_State_ABORTED s_TxnStatus_ABORTED : Addr) (h0 : Heap) (n0 : Nat) (Z0 : n0 ≤ h0.size) (G : own_Ctx Z h0 s_PREPARED s_IN_DOUBT s_Outcome_COMMITTED s_HEURISTICALLY_ABORTED s_HEURISTICALLY_COMMITTED s_Joined_State_COMMITTED s_HEURISTIC_ABORT s_HEURISTIC_COMMIT s_COMMITTED_AGAINST_HEURISTIC s_HEURISTIC_MISMATCH s_COMMITTED_IN_ONE_PHASE s_TxnStatus_COMMITTED s_ABORTED_AGAINST_HEURISTIC s_Outcome_ABORTED s_PRE_ABORTED s_PRE_COMMITTED s_Joined_State_ABORTED s_TxnStatus_ABORTED) (p1 p2 : Int32) (hk : (p1 &&& (2147483647 : Int32)) % (10 : Int32) = (4 : Int32)) (hf : p2 &&& (1 : Int32) = (0 : Int32)) :
    MetFree l x (head1 (Jvm.Cond.code x code maxLocals ret :: ws) room_1) (fun a U => a = #[(.int p1), (.int p2)] ∧ Z.Warmed39 U.vm ∧ U.heap = h0) (fun _ _ _ _ _ => True) (fun _ U o U' => ∃ v L, o = .returned v ∧ own_Q (some (.int (1 : Int32))) h0 n0 v U'.heap L ∧ FrameEnd U o U' L 0 0) := by
  have G0 := G
  obtain ⟨S_PREPARED, E_PREPARED, O_PREPARED, S_IN_DOUBT, E_IN_DOUBT, O_IN_DOUBT, S_Outcome_COMMITTED, E_Outcome_COMMITTED, O_Outcome_COMMITTED, S_HEURISTICALLY_ABORTED, E_HEURISTICALLY_ABORTED, O_HEURISTICALLY_ABORTED, S_HEURISTICALLY_COMMITTED, E_HEURISTICALLY_COMMITTED, O_HEURISTICALLY_COMMITTED, S_Joined_State_COMMITTED, E_Joined_State_COMMITTED, S_HEURISTIC_ABORT, E_HEURISTIC_ABORT, O_HEURISTIC_ABORT, S_HEURISTIC_COMMIT, E_HEURISTIC_COMMIT, O_HEURISTIC_COMMIT, S_COMMITTED_AGAINST_HEURISTIC, E_COMMITTED_AGAINST_HEURISTIC, S_HEURISTIC_MISMATCH, E_HEURISTIC_MISMATCH, O_HEURISTIC_MISMATCH, S_COMMITTED_IN_ONE_PHASE, E_COMMITTED_IN_ONE_PHASE, S_TxnStatus_COMMITTED, E_TxnStatus_COMMITTED, O_TxnStatus_COMMITTED, S_ABORTED_AGAINST_HEURISTIC, E_ABORTED_AGAINST_HEURISTIC, S_Outcome_ABORTED, E_Outcome_ABORTED, O_Outcome_ABORTED, S_PRE_ABORTED, E_PRE_ABORTED, O_PRE_ABORTED, S_PRE_COMMITTED, E_PRE_COMMITTED, O_PRE_COMMITTED, S_Joined_State_ABORTED, E_Joined_State_ABORTED, S_TxnStatus_ABORTED, E_TxnStatus_ABORTED, O_TxnStatus_ABORTED, F_decision_PREPARED, F_status_PREPARED, F_decision_Joined_State_COMMITTED, F_decision_HEURISTICALLY_ABORTED, F_status_HEURISTICALLY_ABORTED, F_decision_COMMITTED_AGAINST_HEURISTIC, F_status_COMMITTED_AGAINST_HEURISTIC, F_decision_COMMITTED_IN_ONE_PHASE, F_status_COMMITTED_IN_ONE_PHASE, F_decision_ABORTED_AGAINST_HEURISTIC, F_status_ABORTED_AGAINST_HEURISTIC, F_decision_PRE_ABORTED, F_status_PRE_ABORTED, F_decision_HEURISTICALLY_COMMITTED, F_status_HEURISTICALLY_COMMITTED, F_decision_PRE_COMMITTED, F_status_PRE_COMMITTED, F_decision_Joined_State_ABORTED, F_status_Joined_State_COMMITTED, F_status_Joined_State_ABORTED⟩ := G
  refine MetFree.of_bodySF (plainFor_of_name pn_1) hisR ?_
  intro p e s m args below meth c s₁ Bd hml0 hP hK
  obtain ⟨rfl, hZ, hh⟩ := hP
  have hx := Bd.exec
  have hby := Bd.bytes
  have hml : c.maxLocals = 8 := hml0
  have hown : s.vm.findClass "com/example/unanimity/unanimity/core/StateAwaitsDecisionPinLaw" = some m.cls := findClass_of_methodNamed Bd.named
  have hnm := (name_of_methodNamed Bd.named Bd.method).1
  have X0 : Stand p l e room_1 s m #[(.int p1), (.int p2)] below meth c s₁ [] 0 0 := Stand.of_body Bd
  have e0 : s₁.heap = h0 := by rw [← hh, Bd.state]; rfl
  have N0 := Fr.nil n0
  have pre0 : ∀ t, Steps p.tables e below (s₁.setTop (mkF m 0 #[.val (.int p1), .val (.int p2), .unset, .unset, .unset, .unset, .unset, .unset] [])) t → Steps p.tables e below (s₁.setTop (entryFrame m #[(.int p1), (.int p2)] maxLocals)) t := fun t k => castTop (ef_0_5 m p1 p2) k
  obtain ⟨_, _, ⟨T1, L1, k1, n1⟩, -, X1, ⟨Lc1, hQ1, l1, y1, z1⟩, st1⟩ := Jvm.LawKit.callS X0 hx (y := (⟨"com/example/unanimity/unanimity/core/StateAwaitsDecisionPinLaw", "pick", "(I)Lcom/example/unanimity/unanimity/core/Joined$State;"⟩ : MethodName)) hown (mvT hZ (hw _ (List.mem_of_getElem? (i := 1) rfl))) (mvT hZ (hw _ (List.mem_of_getElem? (i := 2) rfl))) (mvT hZ (hw _ (List.mem_of_getElem? (i := 3) rfl))) (mvT hZ (hw _ (List.mem_of_getElem? (i := 4) rfl))) (by decide) (backOf (W := 0) (r_pick_4 l Z a0 hw [] s_PREPARED s_IN_DOUBT s_Outcome_COMMITTED s_HEURISTICALLY_ABORTED s_HEURISTICALLY_COMMITTED s_Joined_State_COMMITTED s_HEURISTIC_ABORT s_HEURISTIC_COMMIT s_COMMITTED_AGAINST_HEURISTIC s_HEURISTIC_MISMATCH s_COMMITTED_IN_ONE_PHASE s_TxnStatus_COMMITTED s_ABORTED_AGAINST_HEURISTIC s_Outcome_ABORTED s_PRE_ABORTED s_PRE_COMMITTED s_Joined_State_ABORTED s_TxnStatus_ABORTED h0 n0 Z0 G0) hZ (hw _ (List.mem_of_getElem? (i := 4) rfl)) (hw _ (List.mem_of_getElem? (i := 3) rfl)) (by decide) (by decide)) (g := (mkF m 9 #[.val (.int p1), .val (.int p2), .val (.int (4 : Int32)), .unset, .unset, .unset, .unset, .unset] [(.int (4 : Int32))])) rfl (by rw [hml]; rfl) (argsL := [(.int (4 : Int32))]) (rest := []) (lenOf pd_1 rfl) rfl (by show 2 * 0 + _ ≤ _; exact Nat.le_of_eq rfl) (hb hby at_9) (fun _ _ => ⟨rfl, e0, (by decide : 0 + 0 ≤ _), (by decide : 0 + 0 ≤ _)⟩)
  dsimp only [Pt.U, Pt.locs, Pt.cells, Pt.slots] at X1 l1 y1 z1 st1 hQ1
  subst l1 y1 z1
  obtain ⟨rfl, N1q, e1⟩ := hQ1
  have N1 := Fr.app N0 N1q
  obtain ⟨cq2, kq2, q2a, q2b, q2c⟩ := isOf hZ e1 E_HEURISTICALLY_ABORTED
  obtain ⟨_, _, ⟨T2, L2, k2, n2⟩, -, X2, ⟨Lc2, hQ2, l2, y2, z2⟩, st2⟩ := X1.virtualBack hx (y := (⟨"com/example/unanimity/unanimity/core/Joined$State", "awaitsDecision", "()Z"⟩ : MethodName)) (z := (⟨"com/example/unanimity/unanimity/core/Joined$State", "awaitsDecision", "()Z"⟩ : MethodName)) hown (mvT hZ (hw _ (List.mem_of_getElem? (i := 8) rfl))) (mvT hZ (hw _ (List.mem_of_getElem? (i := 9) rfl))) (notFace_of_selects (args := #[]) (mvT hZ (hw _ (List.mem_of_getElem? (i := 11) rfl)))) (mvT hZ (hw _ (List.mem_of_getElem? (i := 11) rfl))) (mvT hZ (hw _ (List.mem_of_getElem? (i := 10) rfl))) (by decide) (backOf (W := 0) (r_aw_4 l Z a0 hw [] s_PREPARED s_IN_DOUBT s_Outcome_COMMITTED s_HEURISTICALLY_ABORTED s_HEURISTICALLY_COMMITTED s_Joined_State_COMMITTED s_HEURISTIC_ABORT s_HEURISTIC_COMMIT s_COMMITTED_AGAINST_HEURISTIC s_HEURISTIC_MISMATCH s_COMMITTED_IN_ONE_PHASE s_TxnStatus_COMMITTED s_ABORTED_AGAINST_HEURISTIC s_Outcome_ABORTED s_PRE_ABORTED s_PRE_COMMITTED s_Joined_State_ABORTED s_TxnStatus_ABORTED h0 n0 Z0 G0) hZ (hw _ (List.mem_of_getElem? (i := 12) rfl)) (hw _ (List.mem_of_getElem? (i := 6) rfl)) (by decide) (by decide)) q2a q2c (g := (mkF m 26 #[.val (.int p1), .val (.int p2), .val (.int (4 : Int32)), .val (.ref s_HEURISTICALLY_ABORTED), .val (.int (1 : Int32)), .unset, .unset, .unset] [(.ref s_HEURISTICALLY_ABORTED)])) rfl (by rw [hml]; rfl) (Steps.refl _) (argsL := []) (rest := []) (lenOf pd_2 rfl) rfl (by show 2 * 0 + _ ≤ _; exact Nat.le_of_eq rfl) (hb hby at_26) (fun _ _ => ⟨rfl, e1, (by decide : 0 + 0 ≤ _), (by decide : 0 + 0 ≤ _)⟩)
  dsimp only [Pt.U, Pt.locs, Pt.cells, Pt.slots] at X2 l2 y2 z2 st2 hQ2
  subst l2 y2 z2
  obtain ⟨rfl, N2q, e2⟩ := hQ2
  have N2 := Fr.app N1 N2q
  obtain ⟨cq3, kq3, q3a, q3b, q3c⟩ := isOf hZ e2 E_HEURISTICALLY_ABORTED
  obtain ⟨_, _, ⟨T3, L3, k3, n3⟩, -, X3, ⟨Lc3, hQ3, l3, y3, z3⟩, st3⟩ := X2.virtualBack hx (y := (⟨"com/example/unanimity/unanimity/core/Joined$State", "inDoubt", "()Z"⟩ : MethodName)) (z := (⟨"com/example/unanimity/unanimity/core/Joined$State", "inDoubt", "()Z"⟩ : MethodName)) hown (mvT hZ (hw _ (List.mem_of_getElem? (i := 15) rfl))) (mvT hZ (hw _ (List.mem_of_getElem? (i := 16) rfl))) (notFace_of_selects (args := #[]) (mvT hZ (hw _ (List.mem_of_getElem? (i := 18) rfl)))) (mvT hZ (hw _ (List.mem_of_getElem? (i := 18) rfl))) (mvT hZ (hw _ (List.mem_of_getElem? (i := 17) rfl))) (by decide) (backOf (W := 0) (r_in_4 l Z a0 hw [] s_PREPARED s_IN_DOUBT s_Outcome_COMMITTED s_HEURISTICALLY_ABORTED s_HEURISTICALLY_COMMITTED s_Joined_State_COMMITTED s_HEURISTIC_ABORT s_HEURISTIC_COMMIT s_COMMITTED_AGAINST_HEURISTIC s_HEURISTIC_MISMATCH s_COMMITTED_IN_ONE_PHASE s_TxnStatus_COMMITTED s_ABORTED_AGAINST_HEURISTIC s_Outcome_ABORTED s_PRE_ABORTED s_PRE_COMMITTED s_Joined_State_ABORTED s_TxnStatus_ABORTED h0 n0 Z0 G0) hZ (hw _ (List.mem_of_getElem? (i := 19) rfl)) (hw _ (List.mem_of_getElem? (i := 6) rfl)) (by decide) (by decide)) q3a q3c (g := (mkF m 41 #[.val (.int p1), .val (.int p2), .val (.int (4 : Int32)), .val (.ref s_HEURISTICALLY_ABORTED), .val (.int (1 : Int32)), .val (.int (1 : Int32)), .unset, .unset] [(.ref s_HEURISTICALLY_ABORTED)])) rfl (by rw [hml]; rfl) (Steps.refl _) (argsL := []) (rest := []) (lenOf pd_2 rfl) rfl (by show 2 * 0 + _ ≤ _; exact Nat.le_of_eq rfl) (hb hby at_41) (fun _ _ => ⟨rfl, e2, (by decide : 0 + 0 ≤ _), (by decide : 0 + 0 ≤ _)⟩)
  dsimp only [Pt.U, Pt.locs, Pt.cells, Pt.slots] at X3 l3 y3 z3 st3 hQ3
  subst l3 y3 z3
  obtain ⟨rfl, N3q, e3⟩ := hQ3
  have N3 := Fr.app N2 N3q
  obtain ⟨T4, X4, e4, st4⟩ := getF X3 hx hZ hown (host := "") (Or.inl (hw _ (List.mem_of_getElem? (i := 45) rfl))) Via.refl e3 F_status_HEURISTICALLY_ABORTED (g := (mkF m 48 #[.val (.int p1), .val (.int p2), .val (.int (4 : Int32)), .val (.ref s_HEURISTICALLY_ABORTED), .val (.int (1 : Int32)), .val (.int (1 : Int32)), .unset, .unset] [(.ref s_HEURISTICALLY_ABORTED)])) rfl rfl (hb hby at_48)
  obtain ⟨T5, X5, e5, st5⟩ := getS2 X4 hx hZ hown (host := "") (Or.inl (hw _ (List.mem_of_getElem? (i := 46) rfl))) Via.refl e4 S_HEURISTIC_COMMIT (g := (mkF m 51 #[.val (.int p1), .val (.int p2), .val (.int (4 : Int32)), .val (.ref s_HEURISTICALLY_ABORTED), .val (.int (1 : Int32)), .val (.int (1 : Int32)), .unset, .unset] [(.ref s_HEURISTIC_ABORT)])) rfl (hb hby at_51)
  obtain ⟨T6, X6, e6, st6⟩ := getF X5 hx hZ hown (host := "") (Or.inl (hw _ (List.mem_of_getElem? (i := 45) rfl))) Via.refl e5 F_status_HEURISTICALLY_ABORTED (g := (mkF m 58 #[.val (.int p1), .val (.int p2), .val (.int (4 : Int32)), .val (.ref s_HEURISTICALLY_ABORTED), .val (.int (1 : Int32)), .val (.int (1 : Int32)), .unset, .unset] [(.ref s_HEURISTICALLY_ABORTED)])) rfl rfl (hb hby at_58)
  obtain ⟨T7, X7, e7, st7⟩ := getS2 X6 hx hZ hown (host := "") (Or.inl (hw _ (List.mem_of_getElem? (i := 48) rfl))) Via.refl e6 S_HEURISTIC_ABORT (g := (mkF m 61 #[.val (.int p1), .val (.int p2), .val (.int (4 : Int32)), .val (.ref s_HEURISTICALLY_ABORTED), .val (.int (1 : Int32)), .val (.int (1 : Int32)), .unset, .unset] [(.ref s_HEURISTIC_ABORT)])) rfl (hb hby at_61)
  obtain ⟨T8, X8, e8, st8⟩ := getS2 X7 hx hZ hown (host := "") (Or.inl (hw _ (List.mem_of_getElem? (i := 65) rfl))) Via.refl e7 S_Outcome_ABORTED (g := (mkF m 100 #[.val (.int p1), .val (.int p2), .val (.int (4 : Int32)), .val (.ref s_HEURISTICALLY_ABORTED), .val (.int (1 : Int32)), .val (.int (1 : Int32)), .val (.int (1 : Int32)), .unset] [])) rfl (hb hby at_100)
  obtain ⟨cq9, kq9, q9a, q9b, q9c⟩ := isOf hZ e8 E_HEURISTICALLY_ABORTED
  obtain ⟨_, _, ⟨T9, L9, k9, n9⟩, -, X9, ⟨Lc9, hQ9, l9, y9, z9⟩, st9⟩ := X8.virtualBack hx (y := (⟨"com/example/unanimity/unanimity/core/Joined$State", "after", "(Lcom/example/unanimity/unanimity/core/Outcome;)Lcom/example/unanimity/unanimity/core/Joined$State;"⟩ : MethodName)) (z := (⟨"com/example/unanimity/unanimity/core/Joined$State", "after", "(Lcom/example/unanimity/unanimity/core/Outcome;)Lcom/example/unanimity/unanimity/core/Joined$State;"⟩ : MethodName)) hown (mvT hZ (hw _ (List.mem_of_getElem? (i := 28) rfl))) (mvT hZ (hw _ (List.mem_of_getElem? (i := 29) rfl))) (notFace_of_selects (args := #[]) (mvT hZ (hw _ (List.mem_of_getElem? (i := 31) rfl)))) (mvT hZ (hw _ (List.mem_of_getElem? (i := 31) rfl))) (mvT hZ (hw _ (List.mem_of_getElem? (i := 30) rfl))) (by decide) (backOf (W := 0) (r_after_4_Outcome_ABORTED l Z a0 hw [] s_PREPARED s_IN_DOUBT s_Outcome_COMMITTED s_HEURISTICALLY_ABORTED s_HEURISTICALLY_COMMITTED s_Joined_State_COMMITTED s_HEURISTIC_ABORT s_HEURISTIC_COMMIT s_COMMITTED_AGAINST_HEURISTIC s_HEURISTIC_MISMATCH s_COMMITTED_IN_ONE_PHASE s_TxnStatus_COMMITTED s_ABORTED_AGAINST_HEURISTIC s_Outcome_ABORTED s_PRE_ABORTED s_PRE_COMMITTED s_Joined_State_ABORTED s_TxnStatus_ABORTED h0 n0 Z0 G0) hZ (hw _ (List.mem_of_getElem? (i := 32) rfl)) (hw _ (List.mem_of_getElem? (i := 6) rfl)) (by decide) (by decide)) q9a q9c (g := (mkF m 108 #[.val (.int p1), .val (.int p2), .val (.int (4 : Int32)), .val (.ref s_HEURISTICALLY_ABORTED), .val (.int (1 : Int32)), .val (.int (1 : Int32)), .val (.int (1 : Int32)), .val (.ref s_Outcome_ABORTED)] [(.ref s_Outcome_ABORTED), (.ref s_HEURISTICALLY_ABORTED)])) rfl (by rw [hml]; rfl) (Steps.refl _) (argsL := [(.ref s_Outcome_ABORTED)]) (rest := []) (lenOf pd_0 rfl) rfl (by show 2 * 0 + _ ≤ _; exact Nat.le_of_eq rfl) (hb hby at_108) (fun _ _ => ⟨rfl, e8, (by decide : 0 + 0 ≤ _), (by decide : 0 + 0 ≤ _)⟩)
  dsimp only [Pt.U, Pt.locs, Pt.cells, Pt.slots] at X9 l9 y9 z9 st9 hQ9
  subst l9 y9 z9
  obtain ⟨rfl, N9q, e9⟩ := hQ9
  have N9 := Fr.app N3 N9q
  obtain ⟨cq10, kq10, q10a, q10b, q10c⟩ := isOf hZ e9 E_Joined_State_ABORTED
  obtain ⟨_, _, ⟨T10, L10, k10, n10⟩, -, X10, ⟨Lc10, hQ10, l10, y10, z10⟩, st10⟩ := X9.virtualBack hx (y := (⟨"com/example/unanimity/unanimity/core/Joined$State", "awaitsDecision", "()Z"⟩ : MethodName)) (z := (⟨"com/example/unanimity/unanimity/core/Joined$State", "awaitsDecision", "()Z"⟩ : MethodName)) hown (mvT hZ (hw _ (List.mem_of_getElem? (i := 8) rfl))) (mvT hZ (hw _ (List.mem_of_getElem? (i := 9) rfl))) (notFace_of_selects (args := #[]) (mvT hZ (hw _ (List.mem_of_getElem? (i := 11) rfl)))) (mvT hZ (hw _ (List.mem_of_getElem? (i := 11) rfl))) (mvT hZ (hw _ (List.mem_of_getElem? (i := 10) rfl))) (by decide) (backOf (W := 0) (r_aw_7 l Z a0 hw [] s_PREPARED s_IN_DOUBT s_Outcome_COMMITTED s_HEURISTICALLY_ABORTED s_HEURISTICALLY_COMMITTED s_Joined_State_COMMITTED s_HEURISTIC_ABORT s_HEURISTIC_COMMIT s_COMMITTED_AGAINST_HEURISTIC s_HEURISTIC_MISMATCH s_COMMITTED_IN_ONE_PHASE s_TxnStatus_COMMITTED s_ABORTED_AGAINST_HEURISTIC s_Outcome_ABORTED s_PRE_ABORTED s_PRE_COMMITTED s_Joined_State_ABORTED s_TxnStatus_ABORTED h0 n0 Z0 G0) hZ (hw _ (List.mem_of_getElem? (i := 12) rfl)) (hw _ (List.mem_of_getElem? (i := 6) rfl)) (by decide) (by decide)) q10a q10c (g := (mkF m 111 #[.val (.int p1), .val (.int p2), .val (.int (4 : Int32)), .val (.ref s_HEURISTICALLY_ABORTED), .val (.int (1 : Int32)), .val (.int (1 : Int32)), .val (.int (1 : Int32)), .val (.ref s_Outcome_ABORTED)] [(.ref s_Joined_State_ABORTED)])) rfl (by rw [hml]; rfl) (Steps.refl _) (argsL := []) (rest := []) (lenOf pd_2 rfl) rfl (by show 2 * 0 + _ ≤ _; exact Nat.le_of_eq rfl) (hb hby at_111) (fun _ _ => ⟨rfl, e9, (by decide : 0 + 0 ≤ _), (by decide : 0 + 0 ≤ _)⟩)
  dsimp only [Pt.U, Pt.locs, Pt.cells, Pt.slots] at X10 l10 y10 z10 st10 hQ10
  subst l10 y10 z10
  obtain ⟨rfl, N10q, e10⟩ := hQ10
  have N10 := Fr.app N9 N10q
  obtain ⟨fs, hr, hrun, hended, hW, hsame⟩ := X10.leave (v := some (.int (1 : Int32))) (fun h => by rw [Bd.returns] at h; cases h)
  refine ⟨_, _, pre0 _ ?_, hrun, hended, _, _, rfl, ?_, ⟨_, rfl⟩, hW, hsame.mono (by decide) (by decide)⟩
  · show Steps p.tables e below (s₁.setTop (mkF m 0 #[.val (.int p1), .val (.int p2), .unset, .unset, .unset, .unset, .unset, .unset] [])) _
    refine XS.iloadN X0.here hx rfl (hb hby at_0) rfl ?_
    show Steps p.tables e below (s₁.setTop (mkF m 1 #[.val (.int p1), .val (.int p2), .unset, .unset, .unset, .unset, .unset, .unset] [(.int p1)])) _
    refine X0.ldcInt hx hown (mvT hZ (hw _ (List.mem_of_getElem? (i := 0) rfl))) (g := (mkF m 1 #[.val (.int p1), .val (.int p2), .unset, .unset, .unset, .unset, .unset, .unset] [(.int p1)])) rfl (hb hby at_1) _ ?_
    show Steps p.tables e below (s₁.setTop (mkF m 3 #[.val (.int p1), .val (.int p2), .unset, .unset, .unset, .unset, .unset, .unset] [(.int (2147483647 : Int32)), (.int p1)])) _
    refine XS.iand X0.here hx rfl (hb hby at_3) rfl ?_
    show Steps p.tables e below (s₁.setTop (mkF m 4 #[.val (.int p1), .val (.int p2), .unset, .unset, .unset, .unset, .unset, .unset] [(.int (p1 &&& (2147483647 : Int32)))])) _
    refine XS.bipush X0.here hx rfl (hb hby at_4) ?_
    show Steps p.tables e below (s₁.setTop (mkF m 6 #[.val (.int p1), .val (.int p2), .unset, .unset, .unset, .unset, .unset, .unset] [(.int (10 : Int32)), (.int (p1 &&& (2147483647 : Int32)))])) _
    refine iremM X0 hx rfl (hb hby at_6) rfl (by decide) ?_
    show Steps p.tables e below (s₁.setTop (mkF m 7 #[.val (.int p1), .val (.int p2), .unset, .unset, .unset, .unset, .unset, .unset] [(.int ((p1 &&& (2147483647 : Int32)) % (10 : Int32)))])) _
    rw [hk]
    show Steps p.tables e below (s₁.setTop (mkF m 7 #[.val (.int p1), .val (.int p2), .unset, .unset, .unset, .unset, .unset, .unset] [(.int (4 : Int32))])) _
    refine XS.istoreN X0.here hx rfl (hb hby at_7) rfl (l' := #[.val (.int p1), .val (.int p2), .val (.int (4 : Int32)), .unset, .unset, .unset, .unset, .unset]) rfl ?_
    show Steps p.tables e below (s₁.setTop (mkF m 8 #[.val (.int p1), .val (.int p2), .val (.int (4 : Int32)), .unset, .unset, .unset, .unset, .unset] [])) _
    refine XS.iloadN X0.here hx rfl (hb hby at_8) rfl ?_
    show Steps p.tables e below (s₁.setTop (mkF m 9 #[.val (.int p1), .val (.int p2), .val (.int (4 : Int32)), .unset, .unset, .unset, .unset, .unset] [(.int (4 : Int32))])) _
    refine st1 _ ?_
    show Steps p.tables e below (T1.setTop (mkF m 12 #[.val (.int p1), .val (.int p2), .val (.int (4 : Int32)), .unset, .unset, .unset, .unset, .unset] [(.ref s_HEURISTICALLY_ABORTED)])) _
    refine XS.astoreN X1.here hx rfl (hb hby at_12) rfl rfl (l' := #[.val (.int p1), .val (.int p2), .val (.int (4 : Int32)), .val (.ref s_HEURISTICALLY_ABORTED), .unset, .unset, .unset, .unset]) rfl ?_
    show Steps p.tables e below (T1.setTop (mkF m 13 #[.val (.int p1), .val (.int p2), .val (.int (4 : Int32)), .val (.ref s_HEURISTICALLY_ABORTED), .unset, .unset, .unset, .unset] [])) _
    refine XS.iloadN X1.here hx rfl (hb hby at_13) rfl ?_
    show Steps p.tables e below (T1.setTop (mkF m 14 #[.val (.int p1), .val (.int p2), .val (.int (4 : Int32)), .val (.ref s_HEURISTICALLY_ABORTED), .unset, .unset, .unset, .unset] [(.int (4 : Int32))])) _
    refine XS.iconst X1.here hx rfl (hb hby at_14) ?_
    show Steps p.tables e below (T1.setTop (mkF m 15 #[.val (.int p1), .val (.int p2), .val (.int (4 : Int32)), .val (.ref s_HEURISTICALLY_ABORTED), .unset, .unset, .unset, .unset] [(.int (5 : Int32)), (.int (4 : Int32))])) _
    refine XS.icmpNo X1.here hx rfl (hb hby at_15) rfl (tlt (by decide : (4 : Int32) < (5 : Int32))).2.1 ?_
    show Steps p.tables e below (T1.setTop (mkF m 18 #[.val (.int p1), .val (.int p2), .val (.int (4 : Int32)), .val (.ref s_HEURISTICALLY_ABORTED), .unset, .unset, .unset, .unset] [])) _
    refine XS.iconst X1.here hx rfl (hb hby at_18) ?_
    show Steps p.tables e below (T1.setTop (mkF m 19 #[.val (.int p1), .val (.int p2), .val (.int (4 : Int32)), .val (.ref s_HEURISTICALLY_ABORTED), .unset, .unset, .unset, .unset] [(.int (1 : Int32))])) _
    refine XS.goto X1.here hx rfl (pc0 := 19) (pc' := 23) rfl (hb hby at_19) (by decide) (by decide) ?_
    show Steps p.tables e below (T1.setTop (mkF m 23 #[.val (.int p1), .val (.int p2), .val (.int (4 : Int32)), .val (.ref s_HEURISTICALLY_ABORTED), .unset, .unset, .unset, .unset] [(.int (1 : Int32))])) _
    refine XS.istore X1.here hx rfl (hb hby at_23) rfl (l' := #[.val (.int p1), .val (.int p2), .val (.int (4 : Int32)), .val (.ref s_HEURISTICALLY_ABORTED), .val (.int (1 : Int32)), .unset, .unset, .unset]) rfl ?_
    show Steps p.tables e below (T1.setTop (mkF m 25 #[.val (.int p1), .val (.int p2), .val (.int (4 : Int32)), .val (.ref s_HEURISTICALLY_ABORTED), .val (.int (1 : Int32)), .unset, .unset, .unset] [])) _
    refine XS.aloadN X1.here hx rfl (hb hby at_25) rfl rfl ?_
    show Steps p.tables e below (T1.setTop (mkF m 26 #[.val (.int p1), .val (.int p2), .val (.int (4 : Int32)), .val (.ref s_HEURISTICALLY_ABORTED), .val (.int (1 : Int32)), .unset, .unset, .unset] [(.ref s_HEURISTICALLY_ABORTED)])) _
    refine st2.trans ?_
    show Steps p.tables e below (T2.setTop (mkF m 29 #[.val (.int p1), .val (.int p2), .val (.int (4 : Int32)), .val (.ref s_HEURISTICALLY_ABORTED), .val (.int (1 : Int32)), .unset, .unset, .unset] [(.int (1 : Int32))])) _
    refine XS.istore X2.here hx rfl (hb hby at_29) rfl (l' := #[.val (.int p1), .val (.int p2), .val (.int (4 : Int32)), .val (.ref s_HEURISTICALLY_ABORTED), .val (.int (1 : Int32)), .val (.int (1 : Int32)), .unset, .unset]) rfl ?_
    show Steps p.tables e below (T2.setTop (mkF m 31 #[.val (.int p1), .val (.int p2), .val (.int (4 : Int32)), .val (.ref s_HEURISTICALLY_ABORTED), .val (.int (1 : Int32)), .val (.int (1 : Int32)), .unset, .unset] [])) _
    refine XS.iload X2.here hx rfl (hb hby at_31) rfl ?_
    show Steps p.tables e below (T2.setTop (mkF m 33 #[.val (.int p1), .val (.int p2), .val (.int (4 : Int32)), .val (.ref s_HEURISTICALLY_ABORTED), .val (.int (1 : Int32)), .val (.int (1 : Int32)), .unset, .unset] [(.int (1 : Int32))])) _
    refine XS.iload X2.here hx rfl (hb hby at_33) rfl ?_
    show Steps p.tables e below (T2.setTop (mkF m 35 #[.val (.int p1), .val (.int p2), .val (.int (4 : Int32)), .val (.ref s_HEURISTICALLY_ABORTED), .val (.int (1 : Int32)), .val (.int (1 : Int32)), .unset, .unset] [(.int (1 : Int32)), (.int (1 : Int32))])) _
    refine XS.icmpYes X2.here hx rfl (pc0 := 35) (pc' := 40) rfl (hb hby at_35) rfl (teq (by decide : (1 : Int32) = (1 : Int32))).1 (by decide) (by decide) ?_
    show Steps p.tables e below (T2.setTop (mkF m 40 #[.val (.int p1), .val (.int p2), .val (.int (4 : Int32)), .val (.ref s_HEURISTICALLY_ABORTED), .val (.int (1 : Int32)), .val (.int (1 : Int32)), .unset, .unset] [])) _
    refine XS.aloadN X2.here hx rfl (hb hby at_40) rfl rfl ?_
    show Steps p.tables e below (T2.setTop (mkF m 41 #[.val (.int p1), .val (.int p2), .val (.int (4 : Int32)), .val (.ref s_HEURISTICALLY_ABORTED), .val (.int (1 : Int32)), .val (.int (1 : Int32)), .unset, .unset] [(.ref s_HEURISTICALLY_ABORTED)])) _
    refine st3.trans ?_
    show Steps p.tables e below (T3.setTop (mkF m 44 #[.val (.int p1), .val (.int p2), .val (.int (4 : Int32)), .val (.ref s_HEURISTICALLY_ABORTED), .val (.int (1 : Int32)), .val (.int (1 : Int32)), .unset, .unset] [(.int (0 : Int32))])) _
    refine XS.ifNo X3.here hx rfl (hb hby at_44) rfl ((if0 _ _).trans (teq (by decide : (0 : Int32) = (0 : Int32))).2) ?_
    show Steps p.tables e below (T3.setTop (mkF m 47 #[.val (.int p1), .val (.int p2), .val (.int (4 : Int32)), .val (.ref s_HEURISTICALLY_ABORTED), .val (.int (1 : Int32)), .val (.int (1 : Int32)), .unset, .unset] [])) _
    refine XS.aloadN X3.here hx rfl (hb hby at_47) rfl rfl ?_
    show Steps p.tables e below (T3.setTop (mkF m 48 #[.val (.int p1), .val (.int p2), .val (.int (4 : Int32)), .val (.ref s_HEURISTICALLY_ABORTED), .val (.int (1 : Int32)), .val (.int (1 : Int32)), .unset, .unset] [(.ref s_HEURISTICALLY_ABORTED)])) _
    refine st4 _ ?_
    show Steps p.tables e below (T4.setTop (mkF m 51 #[.val (.int p1), .val (.int p2), .val (.int (4 : Int32)), .val (.ref s_HEURISTICALLY_ABORTED), .val (.int (1 : Int32)), .val (.int (1 : Int32)), .unset, .unset] [(.ref s_HEURISTIC_ABORT)])) _
    refine st5 _ ?_
    show Steps p.tables e below (T5.setTop (mkF m 54 #[.val (.int p1), .val (.int p2), .val (.int (4 : Int32)), .val (.ref s_HEURISTICALLY_ABORTED), .val (.int (1 : Int32)), .val (.int (1 : Int32)), .unset, .unset] [(.ref s_HEURISTIC_COMMIT), (.ref s_HEURISTIC_ABORT)])) _
    refine Jvm.RoadKit.acmp (g := (mkF m 54 #[.val (.int p1), .val (.int p2), .val (.int (4 : Int32)), .val (.ref s_HEURISTICALLY_ABORTED), .val (.int (1 : Int32)), .val (.int (1 : Int32)), .unset, .unset] [(.ref s_HEURISTIC_COMMIT), (.ref s_HEURISTIC_ABORT)])) X5 hx rfl rfl rfl (pc0 := 54) (pc' := 57) (same := false) rfl (hb hby at_54) rfl (decide_eq_false fun q => (Fld.ne O_HEURISTIC_ABORT O_HEURISTIC_COMMIT (fun q => absurd (Value.int.inj q) (by decide))) (Value.ref.inj q)) (by decide) (by decide) ?_
    show Steps p.tables e below (T5.setTop (mkF m 57 #[.val (.int p1), .val (.int p2), .val (.int (4 : Int32)), .val (.ref s_HEURISTICALLY_ABORTED), .val (.int (1 : Int32)), .val (.int (1 : Int32)), .unset, .unset] [])) _
    refine XS.aloadN X5.here hx rfl (hb hby at_57) rfl rfl ?_
    show Steps p.tables e below (T5.setTop (mkF m 58 #[.val (.int p1), .val (.int p2), .val (.int (4 : Int32)), .val (.ref s_HEURISTICALLY_ABORTED), .val (.int (1 : Int32)), .val (.int (1 : Int32)), .unset, .unset] [(.ref s_HEURISTICALLY_ABORTED)])) _
    refine st6 _ ?_
    show Steps p.tables e below (T6.setTop (mkF m 61 #[.val (.int p1), .val (.int p2), .val (.int (4 : Int32)), .val (.ref s_HEURISTICALLY_ABORTED), .val (.int (1 : Int32)), .val (.int (1 : Int32)), .unset, .unset] [(.ref s_HEURISTIC_ABORT)])) _
    refine st7 _ ?_
    show Steps p.tables e below (T7.setTop (mkF m 64 #[.val (.int p1), .val (.int p2), .val (.int (4 : Int32)), .val (.ref s_HEURISTICALLY_ABORTED), .val (.int (1 : Int32)), .val (.int (1 : Int32)), .unset, .unset] [(.ref s_HEURISTIC_ABORT), (.ref s_HEURISTIC_ABORT)])) _
    refine Jvm.RoadKit.acmp (g := (mkF m 64 #[.val (.int p1), .val (.int p2), .val (.int (4 : Int32)), .val (.ref s_HEURISTICALLY_ABORTED), .val (.int (1 : Int32)), .val (.int (1 : Int32)), .unset, .unset] [(.ref s_HEURISTIC_ABORT), (.ref s_HEURISTIC_ABORT)])) X7 hx rfl rfl rfl (pc0 := 64) (pc' := 67) (same := true) rfl (hb hby at_64) rfl (decide_eq_true rfl) (by decide) (by decide) ?_
    show Steps p.tables e below (T7.setTop (mkF m 67 #[.val (.int p1), .val (.int p2), .val (.int (4 : Int32)), .val (.ref s_HEURISTICALLY_ABORTED), .val (.int (1 : Int32)), .val (.int (1 : Int32)), .unset, .unset] [])) _
    refine XS.iconst X7.here hx rfl (hb hby at_67) ?_
    show Steps p.tables e below (T7.setTop (mkF m 68 #[.val (.int p1), .val (.int p2), .val (.int (4 : Int32)), .val (.ref s_HEURISTICALLY_ABORTED), .val (.int (1 : Int32)), .val (.int (1 : Int32)), .unset, .unset] [(.int (1 : Int32))])) _
    refine XS.goto X7.here hx rfl (pc0 := 68) (pc' := 72) rfl (hb hby at_68) (by decide) (by decide) ?_
    show Steps p.tables e below (T7.setTop (mkF m 72 #[.val (.int p1), .val (.int p2), .val (.int (4 : Int32)), .val (.ref s_HEURISTICALLY_ABORTED), .val (.int (1 : Int32)), .val (.int (1 : Int32)), .unset, .unset] [(.int (1 : Int32))])) _
    refine XS.istore X7.here hx rfl (hb hby at_72) rfl (l' := #[.val (.int p1), .val (.int p2), .val (.int (4 : Int32)), .val (.ref s_HEURISTICALLY_ABORTED), .val (.int (1 : Int32)), .val (.int (1 : Int32)), .val (.int (1 : Int32)), .unset]) rfl ?_
    show Steps p.tables e below (T7.setTop (mkF m 74 #[.val (.int p1), .val (.int p2), .val (.int (4 : Int32)), .val (.ref s_HEURISTICALLY_ABORTED), .val (.int (1 : Int32)), .val (.int (1 : Int32)), .val (.int (1 : Int32)), .unset] [])) _
    refine XS.iload X7.here hx rfl (hb hby at_74) rfl ?_
    show Steps p.tables e below (T7.setTop (mkF m 76 #[.val (.int p1), .val (.int p2), .val (.int (4 : Int32)), .val (.ref s_HEURISTICALLY_ABORTED), .val (.int (1 : Int32)), .val (.int (1 : Int32)), .val (.int (1 : Int32)), .unset] [(.int (1 : Int32))])) _
    refine XS.iload X7.here hx rfl (hb hby at_76) rfl ?_
    show Steps p.tables e below (T7.setTop (mkF m 78 #[.val (.int p1), .val (.int p2), .val (.int (4 : Int32)), .val (.ref s_HEURISTICALLY_ABORTED), .val (.int (1 : Int32)), .val (.int (1 : Int32)), .val (.int (1 : Int32)), .unset] [(.int (1 : Int32)), (.int (1 : Int32))])) _
    refine XS.icmpYes X7.here hx rfl (pc0 := 78) (pc' := 83) rfl (hb hby at_78) rfl (teq (by decide : (1 : Int32) = (1 : Int32))).1 (by decide) (by decide) ?_
    show Steps p.tables e below (T7.setTop (mkF m 83 #[.val (.int p1), .val (.int p2), .val (.int (4 : Int32)), .val (.ref s_HEURISTICALLY_ABORTED), .val (.int (1 : Int32)), .val (.int (1 : Int32)), .val (.int (1 : Int32)), .unset] [])) _
    refine XS.iload X7.here hx rfl (hb hby at_83) rfl ?_
    show Steps p.tables e below (T7.setTop (mkF m 85 #[.val (.int p1), .val (.int p2), .val (.int (4 : Int32)), .val (.ref s_HEURISTICALLY_ABORTED), .val (.int (1 : Int32)), .val (.int (1 : Int32)), .val (.int (1 : Int32)), .unset] [(.int (1 : Int32))])) _
    refine XS.ifNo X7.here hx rfl (hb hby at_85) rfl ((if0 _ _).trans (feq (by decide : ¬ ((1 : Int32) = (0 : Int32)))).1) ?_
    show Steps p.tables e below (T7.setTop (mkF m 88 #[.val (.int p1), .val (.int p2), .val (.int (4 : Int32)), .val (.ref s_HEURISTICALLY_ABORTED), .val (.int (1 : Int32)), .val (.int (1 : Int32)), .val (.int (1 : Int32)), .unset] [])) _
    refine XS.iloadN X7.here hx rfl (hb hby at_88) rfl ?_
    show Steps p.tables e below (T7.setTop (mkF m 89 #[.val (.int p1), .val (.int p2), .val (.int (4 : Int32)), .val (.ref s_HEURISTICALLY_ABORTED), .val (.int (1 : Int32)), .val (.int (1 : Int32)), .val (.int (1 : Int32)), .unset] [(.int p2)])) _
    refine XS.iconst X7.here hx rfl (hb hby at_89) ?_
    show Steps p.tables e below (T7.setTop (mkF m 90 #[.val (.int p1), .val (.int p2), .val (.int (4 : Int32)), .val (.ref s_HEURISTICALLY_ABORTED), .val (.int (1 : Int32)), .val (.int (1 : Int32)), .val (.int (1 : Int32)), .unset] [(.int (1 : Int32)), (.int p2)])) _
    refine XS.iand X7.here hx rfl (hb hby at_90) rfl ?_
    show Steps p.tables e below (T7.setTop (mkF m 91 #[.val (.int p1), .val (.int p2), .val (.int (4 : Int32)), .val (.ref s_HEURISTICALLY_ABORTED), .val (.int (1 : Int32)), .val (.int (1 : Int32)), .val (.int (1 : Int32)), .unset] [(.int (p2 &&& (1 : Int32)))])) _
    rw [hf]
    show Steps p.tables e below (T7.setTop (mkF m 91 #[.val (.int p1), .val (.int p2), .val (.int (4 : Int32)), .val (.ref s_HEURISTICALLY_ABORTED), .val (.int (1 : Int32)), .val (.int (1 : Int32)), .val (.int (1 : Int32)), .unset] [(.int (0 : Int32))])) _
    refine XS.ifYes X7.here hx rfl (pc0 := 91) (pc' := 100) rfl (hb hby at_91) rfl ((if0 _ _).trans (teq (by decide : (0 : Int32) = (0 : Int32))).1) (by decide) (by decide) ?_
    show Steps p.tables e below (T7.setTop (mkF m 100 #[.val (.int p1), .val (.int p2), .val (.int (4 : Int32)), .val (.ref s_HEURISTICALLY_ABORTED), .val (.int (1 : Int32)), .val (.int (1 : Int32)), .val (.int (1 : Int32)), .unset] [])) _
    refine st8 _ ?_
    show Steps p.tables e below (T8.setTop (mkF m 103 #[.val (.int p1), .val (.int p2), .val (.int (4 : Int32)), .val (.ref s_HEURISTICALLY_ABORTED), .val (.int (1 : Int32)), .val (.int (1 : Int32)), .val (.int (1 : Int32)), .unset] [(.ref s_Outcome_ABORTED)])) _
    refine XS.astore X8.here hx rfl (hb hby at_103) rfl rfl (l' := #[.val (.int p1), .val (.int p2), .val (.int (4 : Int32)), .val (.ref s_HEURISTICALLY_ABORTED), .val (.int (1 : Int32)), .val (.int (1 : Int32)), .val (.int (1 : Int32)), .val (.ref s_Outcome_ABORTED)]) rfl ?_
    show Steps p.tables e below (T8.setTop (mkF m 105 #[.val (.int p1), .val (.int p2), .val (.int (4 : Int32)), .val (.ref s_HEURISTICALLY_ABORTED), .val (.int (1 : Int32)), .val (.int (1 : Int32)), .val (.int (1 : Int32)), .val (.ref s_Outcome_ABORTED)] [])) _
    refine XS.aloadN X8.here hx rfl (hb hby at_105) rfl rfl ?_
    show Steps p.tables e below (T8.setTop (mkF m 106 #[.val (.int p1), .val (.int p2), .val (.int (4 : Int32)), .val (.ref s_HEURISTICALLY_ABORTED), .val (.int (1 : Int32)), .val (.int (1 : Int32)), .val (.int (1 : Int32)), .val (.ref s_Outcome_ABORTED)] [(.ref s_HEURISTICALLY_ABORTED)])) _
    refine XS.aload X8.here hx rfl (hb hby at_106) rfl rfl ?_
    show Steps p.tables e below (T8.setTop (mkF m 108 #[.val (.int p1), .val (.int p2), .val (.int (4 : Int32)), .val (.ref s_HEURISTICALLY_ABORTED), .val (.int (1 : Int32)), .val (.int (1 : Int32)), .val (.int (1 : Int32)), .val (.ref s_Outcome_ABORTED)] [(.ref s_Outcome_ABORTED), (.ref s_HEURISTICALLY_ABORTED)])) _
    refine st9.trans ?_
    show Steps p.tables e below (T9.setTop (mkF m 111 #[.val (.int p1), .val (.int p2), .val (.int (4 : Int32)), .val (.ref s_HEURISTICALLY_ABORTED), .val (.int (1 : Int32)), .val (.int (1 : Int32)), .val (.int (1 : Int32)), .val (.ref s_Outcome_ABORTED)] [(.ref s_Joined_State_ABORTED)])) _
    refine st10.trans ?_
    show Steps p.tables e below (T10.setTop (mkF m 114 #[.val (.int p1), .val (.int p2), .val (.int (4 : Int32)), .val (.ref s_HEURISTICALLY_ABORTED), .val (.int (1 : Int32)), .val (.int (1 : Int32)), .val (.int (1 : Int32)), .val (.ref s_Outcome_ABORTED)] [(.int (0 : Int32))])) _
    refine XS.ifYes X10.here hx rfl (pc0 := 114) (pc' := 119) rfl (hb hby at_114) rfl ((if0 _ _).trans (teq (by decide : (0 : Int32) = (0 : Int32))).1) (by decide) (by decide) ?_
    show Steps p.tables e below (T10.setTop (mkF m 119 #[.val (.int p1), .val (.int p2), .val (.int (4 : Int32)), .val (.ref s_HEURISTICALLY_ABORTED), .val (.int (1 : Int32)), .val (.int (1 : Int32)), .val (.int (1 : Int32)), .val (.ref s_Outcome_ABORTED)] [])) _
    refine XS.iconst X10.here hx rfl (hb hby at_119) ?_
    show Steps p.tables e below (T10.setTop (mkF m 120 #[.val (.int p1), .val (.int p2), .val (.int (4 : Int32)), .val (.ref s_HEURISTICALLY_ABORTED), .val (.int (1 : Int32)), .val (.int (1 : Int32)), .val (.int (1 : Int32)), .val (.ref s_Outcome_ABORTED)] [(.int (1 : Int32))])) _
    exact retN X10 hx (t := .boolean) Bd.returns (by simp) (hb hby at_120) hr
  · show own_Q (some (.int (1 : Int32))) h0 n0 _ T10.heap _
    rw [e10]
    exact ⟨rfl, N10, rfl⟩
set_option maxRecDepth 65536 in
set_option maxHeartbeats 40000000 in
theorem r_law_4_1 (l : Launch) (Z : State) (a0 : Array Value) (hw : ∀ d ∈ tables_1, d.before a0 Z = true) (ws : List Jvm.Cond) (s_PREPARED s_IN_DOUBT s_Outcome_COMMITTED s_HEURISTICALLY_ABORTED s_HEURISTICALLY_COMMITTED s_Joined_State_COMMITTED s_HEURISTIC_ABORT s_HEURISTIC_COMMIT s_COMMITTED_AGAINST_HEURISTIC s_HEURISTIC_MISMATCH s_COMMITTED_IN_ONE_PHASE s_TxnStatus_COMMITTED s_ABORTED_AGAINST_HEURISTIC s_Outcome_ABORTED s_PRE_ABORTED s_PRE_COMMITTED s_Joined_State_ABORTED s_TxnStatus_ABORTED : Addr) (h0 : Heap) (n0 : Nat) (Z0 : n0 ≤ h0.size) (G : own_Ctx Z h0 s_PREPARED s_IN_DOUBT s_Outcome_COMMITTED s_HEURISTICALLY_ABORTED s_HEURISTICALLY_COMMITTED s_Joined_State_COMMITTED s_HEURISTIC_ABORT s_HEURISTIC_COMMIT s_COMMITTED_AGAINST_HEURISTIC s_HEURISTIC_MISMATCH s_COMMITTED_IN_ONE_PHASE s_TxnStatus_COMMITTED s_ABORTED_AGAINST_HEURISTIC s_Outcome_ABORTED s_PRE_ABORTED s_PRE_COMMITTED s_Joined_State_ABORTED s_TxnStatus_ABORTED) (p1 p2 : Int32) (hk : (p1 &&& (2147483647 : Int32)) % (10 : Int32) = (4 : Int32)) (hf : p2 &&& (1 : Int32) = (1 : Int32)) :
    MetFree l x (head1 (Jvm.Cond.code x code maxLocals ret :: ws) room_1) (fun a U => a = #[(.int p1), (.int p2)] ∧ Z.Warmed39 U.vm ∧ U.heap = h0) (fun _ _ _ _ _ => True) (fun _ U o U' => ∃ v L, o = .returned v ∧ own_Q (some (.int (1 : Int32))) h0 n0 v U'.heap L ∧ FrameEnd U o U' L 0 0) := by
  have G0 := G
  obtain ⟨S_PREPARED, E_PREPARED, O_PREPARED, S_IN_DOUBT, E_IN_DOUBT, O_IN_DOUBT, S_Outcome_COMMITTED, E_Outcome_COMMITTED, O_Outcome_COMMITTED, S_HEURISTICALLY_ABORTED, E_HEURISTICALLY_ABORTED, O_HEURISTICALLY_ABORTED, S_HEURISTICALLY_COMMITTED, E_HEURISTICALLY_COMMITTED, O_HEURISTICALLY_COMMITTED, S_Joined_State_COMMITTED, E_Joined_State_COMMITTED, S_HEURISTIC_ABORT, E_HEURISTIC_ABORT, O_HEURISTIC_ABORT, S_HEURISTIC_COMMIT, E_HEURISTIC_COMMIT, O_HEURISTIC_COMMIT, S_COMMITTED_AGAINST_HEURISTIC, E_COMMITTED_AGAINST_HEURISTIC, S_HEURISTIC_MISMATCH, E_HEURISTIC_MISMATCH, O_HEURISTIC_MISMATCH, S_COMMITTED_IN_ONE_PHASE, E_COMMITTED_IN_ONE_PHASE, S_TxnStatus_COMMITTED, E_TxnStatus_COMMITTED, O_TxnStatus_COMMITTED, S_ABORTED_AGAINST_HEURISTIC, E_ABORTED_AGAINST_HEURISTIC, S_Outcome_ABORTED, E_Outcome_ABORTED, O_Outcome_ABORTED, S_PRE_ABORTED, E_PRE_ABORTED, O_PRE_ABORTED, S_PRE_COMMITTED, E_PRE_COMMITTED, O_PRE_COMMITTED, S_Joined_State_ABORTED, E_Joined_State_ABORTED, S_TxnStatus_ABORTED, E_TxnStatus_ABORTED, O_TxnStatus_ABORTED, F_decision_PREPARED, F_status_PREPARED, F_decision_Joined_State_COMMITTED, F_decision_HEURISTICALLY_ABORTED, F_status_HEURISTICALLY_ABORTED, F_decision_COMMITTED_AGAINST_HEURISTIC, F_status_COMMITTED_AGAINST_HEURISTIC, F_decision_COMMITTED_IN_ONE_PHASE, F_status_COMMITTED_IN_ONE_PHASE, F_decision_ABORTED_AGAINST_HEURISTIC, F_status_ABORTED_AGAINST_HEURISTIC, F_decision_PRE_ABORTED, F_status_PRE_ABORTED, F_decision_HEURISTICALLY_COMMITTED, F_status_HEURISTICALLY_COMMITTED, F_decision_PRE_COMMITTED, F_status_PRE_COMMITTED, F_decision_Joined_State_ABORTED, F_status_Joined_State_COMMITTED, F_status_Joined_State_ABORTED⟩ := G
  refine MetFree.of_bodySF (plainFor_of_name pn_1) hisR ?_
  intro p e s m args below meth c s₁ Bd hml0 hP hK
  obtain ⟨rfl, hZ, hh⟩ := hP
  have hx := Bd.exec
  have hby := Bd.bytes
  have hml : c.maxLocals = 8 := hml0
  have hown : s.vm.findClass "com/example/unanimity/unanimity/core/StateAwaitsDecisionPinLaw" = some m.cls := findClass_of_methodNamed Bd.named
  have hnm := (name_of_methodNamed Bd.named Bd.method).1
  have X0 : Stand p l e room_1 s m #[(.int p1), (.int p2)] below meth c s₁ [] 0 0 := Stand.of_body Bd
  have e0 : s₁.heap = h0 := by rw [← hh, Bd.state]; rfl
  have N0 := Fr.nil n0
  have pre0 : ∀ t, Steps p.tables e below (s₁.setTop (mkF m 0 #[.val (.int p1), .val (.int p2), .unset, .unset, .unset, .unset, .unset, .unset] [])) t → Steps p.tables e below (s₁.setTop (entryFrame m #[(.int p1), (.int p2)] maxLocals)) t := fun t k => castTop (ef_0_5 m p1 p2) k
  obtain ⟨_, _, ⟨T1, L1, k1, n1⟩, -, X1, ⟨Lc1, hQ1, l1, y1, z1⟩, st1⟩ := Jvm.LawKit.callS X0 hx (y := (⟨"com/example/unanimity/unanimity/core/StateAwaitsDecisionPinLaw", "pick", "(I)Lcom/example/unanimity/unanimity/core/Joined$State;"⟩ : MethodName)) hown (mvT hZ (hw _ (List.mem_of_getElem? (i := 1) rfl))) (mvT hZ (hw _ (List.mem_of_getElem? (i := 2) rfl))) (mvT hZ (hw _ (List.mem_of_getElem? (i := 3) rfl))) (mvT hZ (hw _ (List.mem_of_getElem? (i := 4) rfl))) (by decide) (backOf (W := 0) (r_pick_4 l Z a0 hw [] s_PREPARED s_IN_DOUBT s_Outcome_COMMITTED s_HEURISTICALLY_ABORTED s_HEURISTICALLY_COMMITTED s_Joined_State_COMMITTED s_HEURISTIC_ABORT s_HEURISTIC_COMMIT s_COMMITTED_AGAINST_HEURISTIC s_HEURISTIC_MISMATCH s_COMMITTED_IN_ONE_PHASE s_TxnStatus_COMMITTED s_ABORTED_AGAINST_HEURISTIC s_Outcome_ABORTED s_PRE_ABORTED s_PRE_COMMITTED s_Joined_State_ABORTED s_TxnStatus_ABORTED h0 n0 Z0 G0) hZ (hw _ (List.mem_of_getElem? (i := 4) rfl)) (hw _ (List.mem_of_getElem? (i := 3) rfl)) (by decide) (by decide)) (g := (mkF m 9 #[.val (.int p1), .val (.int p2), .val (.int (4 : Int32)), .unset, .unset, .unset, .unset, .unset] [(.int (4 : Int32))])) rfl (by rw [hml]; rfl) (argsL := [(.int (4 : Int32))]) (rest := []) (lenOf pd_1 rfl) rfl (by show 2 * 0 + _ ≤ _; exact Nat.le_of_eq rfl) (hb hby at_9) (fun _ _ => ⟨rfl, e0, (by decide : 0 + 0 ≤ _), (by decide : 0 + 0 ≤ _)⟩)
  dsimp only [Pt.U, Pt.locs, Pt.cells, Pt.slots] at X1 l1 y1 z1 st1 hQ1
  subst l1 y1 z1
  obtain ⟨rfl, N1q, e1⟩ := hQ1
  have N1 := Fr.app N0 N1q
  obtain ⟨cq2, kq2, q2a, q2b, q2c⟩ := isOf hZ e1 E_HEURISTICALLY_ABORTED
  obtain ⟨_, _, ⟨T2, L2, k2, n2⟩, -, X2, ⟨Lc2, hQ2, l2, y2, z2⟩, st2⟩ := X1.virtualBack hx (y := (⟨"com/example/unanimity/unanimity/core/Joined$State", "awaitsDecision", "()Z"⟩ : MethodName)) (z := (⟨"com/example/unanimity/unanimity/core/Joined$State", "awaitsDecision", "()Z"⟩ : MethodName)) hown (mvT hZ (hw _ (List.mem_of_getElem? (i := 8) rfl))) (mvT hZ (hw _ (List.mem_of_getElem? (i := 9) rfl))) (notFace_of_selects (args := #[]) (mvT hZ (hw _ (List.mem_of_getElem? (i := 11) rfl)))) (mvT hZ (hw _ (List.mem_of_getElem? (i := 11) rfl))) (mvT hZ (hw _ (List.mem_of_getElem? (i := 10) rfl))) (by decide) (backOf (W := 0) (r_aw_4 l Z a0 hw [] s_PREPARED s_IN_DOUBT s_Outcome_COMMITTED s_HEURISTICALLY_ABORTED s_HEURISTICALLY_COMMITTED s_Joined_State_COMMITTED s_HEURISTIC_ABORT s_HEURISTIC_COMMIT s_COMMITTED_AGAINST_HEURISTIC s_HEURISTIC_MISMATCH s_COMMITTED_IN_ONE_PHASE s_TxnStatus_COMMITTED s_ABORTED_AGAINST_HEURISTIC s_Outcome_ABORTED s_PRE_ABORTED s_PRE_COMMITTED s_Joined_State_ABORTED s_TxnStatus_ABORTED h0 n0 Z0 G0) hZ (hw _ (List.mem_of_getElem? (i := 12) rfl)) (hw _ (List.mem_of_getElem? (i := 6) rfl)) (by decide) (by decide)) q2a q2c (g := (mkF m 26 #[.val (.int p1), .val (.int p2), .val (.int (4 : Int32)), .val (.ref s_HEURISTICALLY_ABORTED), .val (.int (1 : Int32)), .unset, .unset, .unset] [(.ref s_HEURISTICALLY_ABORTED)])) rfl (by rw [hml]; rfl) (Steps.refl _) (argsL := []) (rest := []) (lenOf pd_2 rfl) rfl (by show 2 * 0 + _ ≤ _; exact Nat.le_of_eq rfl) (hb hby at_26) (fun _ _ => ⟨rfl, e1, (by decide : 0 + 0 ≤ _), (by decide : 0 + 0 ≤ _)⟩)
  dsimp only [Pt.U, Pt.locs, Pt.cells, Pt.slots] at X2 l2 y2 z2 st2 hQ2
  subst l2 y2 z2
  obtain ⟨rfl, N2q, e2⟩ := hQ2
  have N2 := Fr.app N1 N2q
  obtain ⟨cq3, kq3, q3a, q3b, q3c⟩ := isOf hZ e2 E_HEURISTICALLY_ABORTED
  obtain ⟨_, _, ⟨T3, L3, k3, n3⟩, -, X3, ⟨Lc3, hQ3, l3, y3, z3⟩, st3⟩ := X2.virtualBack hx (y := (⟨"com/example/unanimity/unanimity/core/Joined$State", "inDoubt", "()Z"⟩ : MethodName)) (z := (⟨"com/example/unanimity/unanimity/core/Joined$State", "inDoubt", "()Z"⟩ : MethodName)) hown (mvT hZ (hw _ (List.mem_of_getElem? (i := 15) rfl))) (mvT hZ (hw _ (List.mem_of_getElem? (i := 16) rfl))) (notFace_of_selects (args := #[]) (mvT hZ (hw _ (List.mem_of_getElem? (i := 18) rfl)))) (mvT hZ (hw _ (List.mem_of_getElem? (i := 18) rfl))) (mvT hZ (hw _ (List.mem_of_getElem? (i := 17) rfl))) (by decide) (backOf (W := 0) (r_in_4 l Z a0 hw [] s_PREPARED s_IN_DOUBT s_Outcome_COMMITTED s_HEURISTICALLY_ABORTED s_HEURISTICALLY_COMMITTED s_Joined_State_COMMITTED s_HEURISTIC_ABORT s_HEURISTIC_COMMIT s_COMMITTED_AGAINST_HEURISTIC s_HEURISTIC_MISMATCH s_COMMITTED_IN_ONE_PHASE s_TxnStatus_COMMITTED s_ABORTED_AGAINST_HEURISTIC s_Outcome_ABORTED s_PRE_ABORTED s_PRE_COMMITTED s_Joined_State_ABORTED s_TxnStatus_ABORTED h0 n0 Z0 G0) hZ (hw _ (List.mem_of_getElem? (i := 19) rfl)) (hw _ (List.mem_of_getElem? (i := 6) rfl)) (by decide) (by decide)) q3a q3c (g := (mkF m 41 #[.val (.int p1), .val (.int p2), .val (.int (4 : Int32)), .val (.ref s_HEURISTICALLY_ABORTED), .val (.int (1 : Int32)), .val (.int (1 : Int32)), .unset, .unset] [(.ref s_HEURISTICALLY_ABORTED)])) rfl (by rw [hml]; rfl) (Steps.refl _) (argsL := []) (rest := []) (lenOf pd_2 rfl) rfl (by show 2 * 0 + _ ≤ _; exact Nat.le_of_eq rfl) (hb hby at_41) (fun _ _ => ⟨rfl, e2, (by decide : 0 + 0 ≤ _), (by decide : 0 + 0 ≤ _)⟩)
  dsimp only [Pt.U, Pt.locs, Pt.cells, Pt.slots] at X3 l3 y3 z3 st3 hQ3
  subst l3 y3 z3
  obtain ⟨rfl, N3q, e3⟩ := hQ3
  have N3 := Fr.app N2 N3q
  obtain ⟨T4, X4, e4, st4⟩ := getF X3 hx hZ hown (host := "") (Or.inl (hw _ (List.mem_of_getElem? (i := 45) rfl))) Via.refl e3 F_status_HEURISTICALLY_ABORTED (g := (mkF m 48 #[.val (.int p1), .val (.int p2), .val (.int (4 : Int32)), .val (.ref s_HEURISTICALLY_ABORTED), .val (.int (1 : Int32)), .val (.int (1 : Int32)), .unset, .unset] [(.ref s_HEURISTICALLY_ABORTED)])) rfl rfl (hb hby at_48)
  obtain ⟨T5, X5, e5, st5⟩ := getS2 X4 hx hZ hown (host := "") (Or.inl (hw _ (List.mem_of_getElem? (i := 46) rfl))) Via.refl e4 S_HEURISTIC_COMMIT (g := (mkF m 51 #[.val (.int p1), .val (.int p2), .val (.int (4 : Int32)), .val (.ref s_HEURISTICALLY_ABORTED), .val (.int (1 : Int32)), .val (.int (1 : Int32)), .unset, .unset] [(.ref s_HEURISTIC_ABORT)])) rfl (hb hby at_51)
  obtain ⟨T6, X6, e6, st6⟩ := getF X5 hx hZ hown (host := "") (Or.inl (hw _ (List.mem_of_getElem? (i := 45) rfl))) Via.refl e5 F_status_HEURISTICALLY_ABORTED (g := (mkF m 58 #[.val (.int p1), .val (.int p2), .val (.int (4 : Int32)), .val (.ref s_HEURISTICALLY_ABORTED), .val (.int (1 : Int32)), .val (.int (1 : Int32)), .unset, .unset] [(.ref s_HEURISTICALLY_ABORTED)])) rfl rfl (hb hby at_58)
  obtain ⟨T7, X7, e7, st7⟩ := getS2 X6 hx hZ hown (host := "") (Or.inl (hw _ (List.mem_of_getElem? (i := 48) rfl))) Via.refl e6 S_HEURISTIC_ABORT (g := (mkF m 61 #[.val (.int p1), .val (.int p2), .val (.int (4 : Int32)), .val (.ref s_HEURISTICALLY_ABORTED), .val (.int (1 : Int32)), .val (.int (1 : Int32)), .unset, .unset] [(.ref s_HEURISTIC_ABORT)])) rfl (hb hby at_61)
  obtain ⟨T8, X8, e8, st8⟩ := getS2 X7 hx hZ hown (host := "") (Or.inl (hw _ (List.mem_of_getElem? (i := 25) rfl))) Via.refl e7 S_Outcome_COMMITTED (g := (mkF m 94 #[.val (.int p1), .val (.int p2), .val (.int (4 : Int32)), .val (.ref s_HEURISTICALLY_ABORTED), .val (.int (1 : Int32)), .val (.int (1 : Int32)), .val (.int (1 : Int32)), .unset] [])) rfl (hb hby at_94)
  obtain ⟨cq9, kq9, q9a, q9b, q9c⟩ := isOf hZ e8 E_HEURISTICALLY_ABORTED
  obtain ⟨_, _, ⟨T9, L9, k9, n9⟩, -, X9, ⟨Lc9, hQ9, l9, y9, z9⟩, st9⟩ := X8.virtualBack hx (y := (⟨"com/example/unanimity/unanimity/core/Joined$State", "after", "(Lcom/example/unanimity/unanimity/core/Outcome;)Lcom/example/unanimity/unanimity/core/Joined$State;"⟩ : MethodName)) (z := (⟨"com/example/unanimity/unanimity/core/Joined$State", "after", "(Lcom/example/unanimity/unanimity/core/Outcome;)Lcom/example/unanimity/unanimity/core/Joined$State;"⟩ : MethodName)) hown (mvT hZ (hw _ (List.mem_of_getElem? (i := 28) rfl))) (mvT hZ (hw _ (List.mem_of_getElem? (i := 29) rfl))) (notFace_of_selects (args := #[]) (mvT hZ (hw _ (List.mem_of_getElem? (i := 31) rfl)))) (mvT hZ (hw _ (List.mem_of_getElem? (i := 31) rfl))) (mvT hZ (hw _ (List.mem_of_getElem? (i := 30) rfl))) (by decide) (backOf (W := 0) (r_after_4_Outcome_COMMITTED l Z a0 hw [] s_PREPARED s_IN_DOUBT s_Outcome_COMMITTED s_HEURISTICALLY_ABORTED s_HEURISTICALLY_COMMITTED s_Joined_State_COMMITTED s_HEURISTIC_ABORT s_HEURISTIC_COMMIT s_COMMITTED_AGAINST_HEURISTIC s_HEURISTIC_MISMATCH s_COMMITTED_IN_ONE_PHASE s_TxnStatus_COMMITTED s_ABORTED_AGAINST_HEURISTIC s_Outcome_ABORTED s_PRE_ABORTED s_PRE_COMMITTED s_Joined_State_ABORTED s_TxnStatus_ABORTED h0 n0 Z0 G0) hZ (hw _ (List.mem_of_getElem? (i := 32) rfl)) (hw _ (List.mem_of_getElem? (i := 6) rfl)) (by decide) (by decide)) q9a q9c (g := (mkF m 108 #[.val (.int p1), .val (.int p2), .val (.int (4 : Int32)), .val (.ref s_HEURISTICALLY_ABORTED), .val (.int (1 : Int32)), .val (.int (1 : Int32)), .val (.int (1 : Int32)), .val (.ref s_Outcome_COMMITTED)] [(.ref s_Outcome_COMMITTED), (.ref s_HEURISTICALLY_ABORTED)])) rfl (by rw [hml]; rfl) (Steps.refl _) (argsL := [(.ref s_Outcome_COMMITTED)]) (rest := []) (lenOf pd_0 rfl) rfl (by show 2 * 0 + _ ≤ _; exact Nat.le_of_eq rfl) (hb hby at_108) (fun _ _ => ⟨rfl, e8, (by decide : 0 + 0 ≤ _), (by decide : 0 + 0 ≤ _)⟩)
  dsimp only [Pt.U, Pt.locs, Pt.cells, Pt.slots] at X9 l9 y9 z9 st9 hQ9
  subst l9 y9 z9
  obtain ⟨rfl, N9q, e9⟩ := hQ9
  have N9 := Fr.app N3 N9q
  obtain ⟨cq10, kq10, q10a, q10b, q10c⟩ := isOf hZ e9 E_COMMITTED_AGAINST_HEURISTIC
  obtain ⟨_, _, ⟨T10, L10, k10, n10⟩, -, X10, ⟨Lc10, hQ10, l10, y10, z10⟩, st10⟩ := X9.virtualBack hx (y := (⟨"com/example/unanimity/unanimity/core/Joined$State", "awaitsDecision", "()Z"⟩ : MethodName)) (z := (⟨"com/example/unanimity/unanimity/core/Joined$State", "awaitsDecision", "()Z"⟩ : MethodName)) hown (mvT hZ (hw _ (List.mem_of_getElem? (i := 8) rfl))) (mvT hZ (hw _ (List.mem_of_getElem? (i := 9) rfl))) (notFace_of_selects (args := #[]) (mvT hZ (hw _ (List.mem_of_getElem? (i := 11) rfl)))) (mvT hZ (hw _ (List.mem_of_getElem? (i := 11) rfl))) (mvT hZ (hw _ (List.mem_of_getElem? (i := 10) rfl))) (by decide) (backOf (W := 0) (r_aw_8 l Z a0 hw [] s_PREPARED s_IN_DOUBT s_Outcome_COMMITTED s_HEURISTICALLY_ABORTED s_HEURISTICALLY_COMMITTED s_Joined_State_COMMITTED s_HEURISTIC_ABORT s_HEURISTIC_COMMIT s_COMMITTED_AGAINST_HEURISTIC s_HEURISTIC_MISMATCH s_COMMITTED_IN_ONE_PHASE s_TxnStatus_COMMITTED s_ABORTED_AGAINST_HEURISTIC s_Outcome_ABORTED s_PRE_ABORTED s_PRE_COMMITTED s_Joined_State_ABORTED s_TxnStatus_ABORTED h0 n0 Z0 G0) hZ (hw _ (List.mem_of_getElem? (i := 12) rfl)) (hw _ (List.mem_of_getElem? (i := 6) rfl)) (by decide) (by decide)) q10a q10c (g := (mkF m 111 #[.val (.int p1), .val (.int p2), .val (.int (4 : Int32)), .val (.ref s_HEURISTICALLY_ABORTED), .val (.int (1 : Int32)), .val (.int (1 : Int32)), .val (.int (1 : Int32)), .val (.ref s_Outcome_COMMITTED)] [(.ref s_COMMITTED_AGAINST_HEURISTIC)])) rfl (by rw [hml]; rfl) (Steps.refl _) (argsL := []) (rest := []) (lenOf pd_2 rfl) rfl (by show 2 * 0 + _ ≤ _; exact Nat.le_of_eq rfl) (hb hby at_111) (fun _ _ => ⟨rfl, e9, (by decide : 0 + 0 ≤ _), (by decide : 0 + 0 ≤ _)⟩)
  dsimp only [Pt.U, Pt.locs, Pt.cells, Pt.slots] at X10 l10 y10 z10 st10 hQ10
  subst l10 y10 z10
  obtain ⟨rfl, N10q, e10⟩ := hQ10
  have N10 := Fr.app N9 N10q
  obtain ⟨fs, hr, hrun, hended, hW, hsame⟩ := X10.leave (v := some (.int (1 : Int32))) (fun h => by rw [Bd.returns] at h; cases h)
  refine ⟨_, _, pre0 _ ?_, hrun, hended, _, _, rfl, ?_, ⟨_, rfl⟩, hW, hsame.mono (by decide) (by decide)⟩
  · show Steps p.tables e below (s₁.setTop (mkF m 0 #[.val (.int p1), .val (.int p2), .unset, .unset, .unset, .unset, .unset, .unset] [])) _
    refine XS.iloadN X0.here hx rfl (hb hby at_0) rfl ?_
    show Steps p.tables e below (s₁.setTop (mkF m 1 #[.val (.int p1), .val (.int p2), .unset, .unset, .unset, .unset, .unset, .unset] [(.int p1)])) _
    refine X0.ldcInt hx hown (mvT hZ (hw _ (List.mem_of_getElem? (i := 0) rfl))) (g := (mkF m 1 #[.val (.int p1), .val (.int p2), .unset, .unset, .unset, .unset, .unset, .unset] [(.int p1)])) rfl (hb hby at_1) _ ?_
    show Steps p.tables e below (s₁.setTop (mkF m 3 #[.val (.int p1), .val (.int p2), .unset, .unset, .unset, .unset, .unset, .unset] [(.int (2147483647 : Int32)), (.int p1)])) _
    refine XS.iand X0.here hx rfl (hb hby at_3) rfl ?_
    show Steps p.tables e below (s₁.setTop (mkF m 4 #[.val (.int p1), .val (.int p2), .unset, .unset, .unset, .unset, .unset, .unset] [(.int (p1 &&& (2147483647 : Int32)))])) _
    refine XS.bipush X0.here hx rfl (hb hby at_4) ?_
    show Steps p.tables e below (s₁.setTop (mkF m 6 #[.val (.int p1), .val (.int p2), .unset, .unset, .unset, .unset, .unset, .unset] [(.int (10 : Int32)), (.int (p1 &&& (2147483647 : Int32)))])) _
    refine iremM X0 hx rfl (hb hby at_6) rfl (by decide) ?_
    show Steps p.tables e below (s₁.setTop (mkF m 7 #[.val (.int p1), .val (.int p2), .unset, .unset, .unset, .unset, .unset, .unset] [(.int ((p1 &&& (2147483647 : Int32)) % (10 : Int32)))])) _
    rw [hk]
    show Steps p.tables e below (s₁.setTop (mkF m 7 #[.val (.int p1), .val (.int p2), .unset, .unset, .unset, .unset, .unset, .unset] [(.int (4 : Int32))])) _
    refine XS.istoreN X0.here hx rfl (hb hby at_7) rfl (l' := #[.val (.int p1), .val (.int p2), .val (.int (4 : Int32)), .unset, .unset, .unset, .unset, .unset]) rfl ?_
    show Steps p.tables e below (s₁.setTop (mkF m 8 #[.val (.int p1), .val (.int p2), .val (.int (4 : Int32)), .unset, .unset, .unset, .unset, .unset] [])) _
    refine XS.iloadN X0.here hx rfl (hb hby at_8) rfl ?_
    show Steps p.tables e below (s₁.setTop (mkF m 9 #[.val (.int p1), .val (.int p2), .val (.int (4 : Int32)), .unset, .unset, .unset, .unset, .unset] [(.int (4 : Int32))])) _
    refine st1 _ ?_
    show Steps p.tables e below (T1.setTop (mkF m 12 #[.val (.int p1), .val (.int p2), .val (.int (4 : Int32)), .unset, .unset, .unset, .unset, .unset] [(.ref s_HEURISTICALLY_ABORTED)])) _
    refine XS.astoreN X1.here hx rfl (hb hby at_12) rfl rfl (l' := #[.val (.int p1), .val (.int p2), .val (.int (4 : Int32)), .val (.ref s_HEURISTICALLY_ABORTED), .unset, .unset, .unset, .unset]) rfl ?_
    show Steps p.tables e below (T1.setTop (mkF m 13 #[.val (.int p1), .val (.int p2), .val (.int (4 : Int32)), .val (.ref s_HEURISTICALLY_ABORTED), .unset, .unset, .unset, .unset] [])) _
    refine XS.iloadN X1.here hx rfl (hb hby at_13) rfl ?_
    show Steps p.tables e below (T1.setTop (mkF m 14 #[.val (.int p1), .val (.int p2), .val (.int (4 : Int32)), .val (.ref s_HEURISTICALLY_ABORTED), .unset, .unset, .unset, .unset] [(.int (4 : Int32))])) _
    refine XS.iconst X1.here hx rfl (hb hby at_14) ?_
    show Steps p.tables e below (T1.setTop (mkF m 15 #[.val (.int p1), .val (.int p2), .val (.int (4 : Int32)), .val (.ref s_HEURISTICALLY_ABORTED), .unset, .unset, .unset, .unset] [(.int (5 : Int32)), (.int (4 : Int32))])) _
    refine XS.icmpNo X1.here hx rfl (hb hby at_15) rfl (tlt (by decide : (4 : Int32) < (5 : Int32))).2.1 ?_
    show Steps p.tables e below (T1.setTop (mkF m 18 #[.val (.int p1), .val (.int p2), .val (.int (4 : Int32)), .val (.ref s_HEURISTICALLY_ABORTED), .unset, .unset, .unset, .unset] [])) _
    refine XS.iconst X1.here hx rfl (hb hby at_18) ?_
    show Steps p.tables e below (T1.setTop (mkF m 19 #[.val (.int p1), .val (.int p2), .val (.int (4 : Int32)), .val (.ref s_HEURISTICALLY_ABORTED), .unset, .unset, .unset, .unset] [(.int (1 : Int32))])) _
    refine XS.goto X1.here hx rfl (pc0 := 19) (pc' := 23) rfl (hb hby at_19) (by decide) (by decide) ?_
    show Steps p.tables e below (T1.setTop (mkF m 23 #[.val (.int p1), .val (.int p2), .val (.int (4 : Int32)), .val (.ref s_HEURISTICALLY_ABORTED), .unset, .unset, .unset, .unset] [(.int (1 : Int32))])) _
    refine XS.istore X1.here hx rfl (hb hby at_23) rfl (l' := #[.val (.int p1), .val (.int p2), .val (.int (4 : Int32)), .val (.ref s_HEURISTICALLY_ABORTED), .val (.int (1 : Int32)), .unset, .unset, .unset]) rfl ?_
    show Steps p.tables e below (T1.setTop (mkF m 25 #[.val (.int p1), .val (.int p2), .val (.int (4 : Int32)), .val (.ref s_HEURISTICALLY_ABORTED), .val (.int (1 : Int32)), .unset, .unset, .unset] [])) _
    refine XS.aloadN X1.here hx rfl (hb hby at_25) rfl rfl ?_
    show Steps p.tables e below (T1.setTop (mkF m 26 #[.val (.int p1), .val (.int p2), .val (.int (4 : Int32)), .val (.ref s_HEURISTICALLY_ABORTED), .val (.int (1 : Int32)), .unset, .unset, .unset] [(.ref s_HEURISTICALLY_ABORTED)])) _
    refine st2.trans ?_
    show Steps p.tables e below (T2.setTop (mkF m 29 #[.val (.int p1), .val (.int p2), .val (.int (4 : Int32)), .val (.ref s_HEURISTICALLY_ABORTED), .val (.int (1 : Int32)), .unset, .unset, .unset] [(.int (1 : Int32))])) _
    refine XS.istore X2.here hx rfl (hb hby at_29) rfl (l' := #[.val (.int p1), .val (.int p2), .val (.int (4 : Int32)), .val (.ref s_HEURISTICALLY_ABORTED), .val (.int (1 : Int32)), .val (.int (1 : Int32)), .unset, .unset]) rfl ?_
    show Steps p.tables e below (T2.setTop (mkF m 31 #[.val (.int p1), .val (.int p2), .val (.int (4 : Int32)), .val (.ref s_HEURISTICALLY_ABORTED), .val (.int (1 : Int32)), .val (.int (1 : Int32)), .unset, .unset] [])) _
    refine XS.iload X2.here hx rfl (hb hby at_31) rfl ?_
    show Steps p.tables e below (T2.setTop (mkF m 33 #[.val (.int p1), .val (.int p2), .val (.int (4 : Int32)), .val (.ref s_HEURISTICALLY_ABORTED), .val (.int (1 : Int32)), .val (.int (1 : Int32)), .unset, .unset] [(.int (1 : Int32))])) _
    refine XS.iload X2.here hx rfl (hb hby at_33) rfl ?_
    show Steps p.tables e below (T2.setTop (mkF m 35 #[.val (.int p1), .val (.int p2), .val (.int (4 : Int32)), .val (.ref s_HEURISTICALLY_ABORTED), .val (.int (1 : Int32)), .val (.int (1 : Int32)), .unset, .unset] [(.int (1 : Int32)), (.int (1 : Int32))])) _
    refine XS.icmpYes X2.here hx rfl (pc0 := 35) (pc' := 40) rfl (hb hby at_35) rfl (teq (by decide : (1 : Int32) = (1 : Int32))).1 (by decide) (by decide) ?_
    show Steps p.tables e below (T2.setTop (mkF m 40 #[.val (.int p1), .val (.int p2), .val (.int (4 : Int32)), .val (.ref s_HEURISTICALLY_ABORTED), .val (.int (1 : Int32)), .val (.int (1 : Int32)), .unset, .unset] [])) _
    refine XS.aloadN X2.here hx rfl (hb hby at_40) rfl rfl ?_
    show Steps p.tables e below (T2.setTop (mkF m 41 #[.val (.int p1), .val (.int p2), .val (.int (4 : Int32)), .val (.ref s_HEURISTICALLY_ABORTED), .val (.int (1 : Int32)), .val (.int (1 : Int32)), .unset, .unset] [(.ref s_HEURISTICALLY_ABORTED)])) _
    refine st3.trans ?_
    show Steps p.tables e below (T3.setTop (mkF m 44 #[.val (.int p1), .val (.int p2), .val (.int (4 : Int32)), .val (.ref s_HEURISTICALLY_ABORTED), .val (.int (1 : Int32)), .val (.int (1 : Int32)), .unset, .unset] [(.int (0 : Int32))])) _
    refine XS.ifNo X3.here hx rfl (hb hby at_44) rfl ((if0 _ _).trans (teq (by decide : (0 : Int32) = (0 : Int32))).2) ?_
    show Steps p.tables e below (T3.setTop (mkF m 47 #[.val (.int p1), .val (.int p2), .val (.int (4 : Int32)), .val (.ref s_HEURISTICALLY_ABORTED), .val (.int (1 : Int32)), .val (.int (1 : Int32)), .unset, .unset] [])) _
    refine XS.aloadN X3.here hx rfl (hb hby at_47) rfl rfl ?_
    show Steps p.tables e below (T3.setTop (mkF m 48 #[.val (.int p1), .val (.int p2), .val (.int (4 : Int32)), .val (.ref s_HEURISTICALLY_ABORTED), .val (.int (1 : Int32)), .val (.int (1 : Int32)), .unset, .unset] [(.ref s_HEURISTICALLY_ABORTED)])) _
    refine st4 _ ?_
    show Steps p.tables e below (T4.setTop (mkF m 51 #[.val (.int p1), .val (.int p2), .val (.int (4 : Int32)), .val (.ref s_HEURISTICALLY_ABORTED), .val (.int (1 : Int32)), .val (.int (1 : Int32)), .unset, .unset] [(.ref s_HEURISTIC_ABORT)])) _
    refine st5 _ ?_
    show Steps p.tables e below (T5.setTop (mkF m 54 #[.val (.int p1), .val (.int p2), .val (.int (4 : Int32)), .val (.ref s_HEURISTICALLY_ABORTED), .val (.int (1 : Int32)), .val (.int (1 : Int32)), .unset, .unset] [(.ref s_HEURISTIC_COMMIT), (.ref s_HEURISTIC_ABORT)])) _
    refine Jvm.RoadKit.acmp (g := (mkF m 54 #[.val (.int p1), .val (.int p2), .val (.int (4 : Int32)), .val (.ref s_HEURISTICALLY_ABORTED), .val (.int (1 : Int32)), .val (.int (1 : Int32)), .unset, .unset] [(.ref s_HEURISTIC_COMMIT), (.ref s_HEURISTIC_ABORT)])) X5 hx rfl rfl rfl (pc0 := 54) (pc' := 57) (same := false) rfl (hb hby at_54) rfl (decide_eq_false fun q => (Fld.ne O_HEURISTIC_ABORT O_HEURISTIC_COMMIT (fun q => absurd (Value.int.inj q) (by decide))) (Value.ref.inj q)) (by decide) (by decide) ?_
    show Steps p.tables e below (T5.setTop (mkF m 57 #[.val (.int p1), .val (.int p2), .val (.int (4 : Int32)), .val (.ref s_HEURISTICALLY_ABORTED), .val (.int (1 : Int32)), .val (.int (1 : Int32)), .unset, .unset] [])) _
    refine XS.aloadN X5.here hx rfl (hb hby at_57) rfl rfl ?_
    show Steps p.tables e below (T5.setTop (mkF m 58 #[.val (.int p1), .val (.int p2), .val (.int (4 : Int32)), .val (.ref s_HEURISTICALLY_ABORTED), .val (.int (1 : Int32)), .val (.int (1 : Int32)), .unset, .unset] [(.ref s_HEURISTICALLY_ABORTED)])) _
    refine st6 _ ?_
    show Steps p.tables e below (T6.setTop (mkF m 61 #[.val (.int p1), .val (.int p2), .val (.int (4 : Int32)), .val (.ref s_HEURISTICALLY_ABORTED), .val (.int (1 : Int32)), .val (.int (1 : Int32)), .unset, .unset] [(.ref s_HEURISTIC_ABORT)])) _
    refine st7 _ ?_
    show Steps p.tables e below (T7.setTop (mkF m 64 #[.val (.int p1), .val (.int p2), .val (.int (4 : Int32)), .val (.ref s_HEURISTICALLY_ABORTED), .val (.int (1 : Int32)), .val (.int (1 : Int32)), .unset, .unset] [(.ref s_HEURISTIC_ABORT), (.ref s_HEURISTIC_ABORT)])) _
    refine Jvm.RoadKit.acmp (g := (mkF m 64 #[.val (.int p1), .val (.int p2), .val (.int (4 : Int32)), .val (.ref s_HEURISTICALLY_ABORTED), .val (.int (1 : Int32)), .val (.int (1 : Int32)), .unset, .unset] [(.ref s_HEURISTIC_ABORT), (.ref s_HEURISTIC_ABORT)])) X7 hx rfl rfl rfl (pc0 := 64) (pc' := 67) (same := true) rfl (hb hby at_64) rfl (decide_eq_true rfl) (by decide) (by decide) ?_
    show Steps p.tables e below (T7.setTop (mkF m 67 #[.val (.int p1), .val (.int p2), .val (.int (4 : Int32)), .val (.ref s_HEURISTICALLY_ABORTED), .val (.int (1 : Int32)), .val (.int (1 : Int32)), .unset, .unset] [])) _
    refine XS.iconst X7.here hx rfl (hb hby at_67) ?_
    show Steps p.tables e below (T7.setTop (mkF m 68 #[.val (.int p1), .val (.int p2), .val (.int (4 : Int32)), .val (.ref s_HEURISTICALLY_ABORTED), .val (.int (1 : Int32)), .val (.int (1 : Int32)), .unset, .unset] [(.int (1 : Int32))])) _
    refine XS.goto X7.here hx rfl (pc0 := 68) (pc' := 72) rfl (hb hby at_68) (by decide) (by decide) ?_
    show Steps p.tables e below (T7.setTop (mkF m 72 #[.val (.int p1), .val (.int p2), .val (.int (4 : Int32)), .val (.ref s_HEURISTICALLY_ABORTED), .val (.int (1 : Int32)), .val (.int (1 : Int32)), .unset, .unset] [(.int (1 : Int32))])) _
    refine XS.istore X7.here hx rfl (hb hby at_72) rfl (l' := #[.val (.int p1), .val (.int p2), .val (.int (4 : Int32)), .val (.ref s_HEURISTICALLY_ABORTED), .val (.int (1 : Int32)), .val (.int (1 : Int32)), .val (.int (1 : Int32)), .unset]) rfl ?_
    show Steps p.tables e below (T7.setTop (mkF m 74 #[.val (.int p1), .val (.int p2), .val (.int (4 : Int32)), .val (.ref s_HEURISTICALLY_ABORTED), .val (.int (1 : Int32)), .val (.int (1 : Int32)), .val (.int (1 : Int32)), .unset] [])) _
    refine XS.iload X7.here hx rfl (hb hby at_74) rfl ?_
    show Steps p.tables e below (T7.setTop (mkF m 76 #[.val (.int p1), .val (.int p2), .val (.int (4 : Int32)), .val (.ref s_HEURISTICALLY_ABORTED), .val (.int (1 : Int32)), .val (.int (1 : Int32)), .val (.int (1 : Int32)), .unset] [(.int (1 : Int32))])) _
    refine XS.iload X7.here hx rfl (hb hby at_76) rfl ?_
    show Steps p.tables e below (T7.setTop (mkF m 78 #[.val (.int p1), .val (.int p2), .val (.int (4 : Int32)), .val (.ref s_HEURISTICALLY_ABORTED), .val (.int (1 : Int32)), .val (.int (1 : Int32)), .val (.int (1 : Int32)), .unset] [(.int (1 : Int32)), (.int (1 : Int32))])) _
    refine XS.icmpYes X7.here hx rfl (pc0 := 78) (pc' := 83) rfl (hb hby at_78) rfl (teq (by decide : (1 : Int32) = (1 : Int32))).1 (by decide) (by decide) ?_
    show Steps p.tables e below (T7.setTop (mkF m 83 #[.val (.int p1), .val (.int p2), .val (.int (4 : Int32)), .val (.ref s_HEURISTICALLY_ABORTED), .val (.int (1 : Int32)), .val (.int (1 : Int32)), .val (.int (1 : Int32)), .unset] [])) _
    refine XS.iload X7.here hx rfl (hb hby at_83) rfl ?_
    show Steps p.tables e below (T7.setTop (mkF m 85 #[.val (.int p1), .val (.int p2), .val (.int (4 : Int32)), .val (.ref s_HEURISTICALLY_ABORTED), .val (.int (1 : Int32)), .val (.int (1 : Int32)), .val (.int (1 : Int32)), .unset] [(.int (1 : Int32))])) _
    refine XS.ifNo X7.here hx rfl (hb hby at_85) rfl ((if0 _ _).trans (feq (by decide : ¬ ((1 : Int32) = (0 : Int32)))).1) ?_
    show Steps p.tables e below (T7.setTop (mkF m 88 #[.val (.int p1), .val (.int p2), .val (.int (4 : Int32)), .val (.ref s_HEURISTICALLY_ABORTED), .val (.int (1 : Int32)), .val (.int (1 : Int32)), .val (.int (1 : Int32)), .unset] [])) _
    refine XS.iloadN X7.here hx rfl (hb hby at_88) rfl ?_
    show Steps p.tables e below (T7.setTop (mkF m 89 #[.val (.int p1), .val (.int p2), .val (.int (4 : Int32)), .val (.ref s_HEURISTICALLY_ABORTED), .val (.int (1 : Int32)), .val (.int (1 : Int32)), .val (.int (1 : Int32)), .unset] [(.int p2)])) _
    refine XS.iconst X7.here hx rfl (hb hby at_89) ?_
    show Steps p.tables e below (T7.setTop (mkF m 90 #[.val (.int p1), .val (.int p2), .val (.int (4 : Int32)), .val (.ref s_HEURISTICALLY_ABORTED), .val (.int (1 : Int32)), .val (.int (1 : Int32)), .val (.int (1 : Int32)), .unset] [(.int (1 : Int32)), (.int p2)])) _
    refine XS.iand X7.here hx rfl (hb hby at_90) rfl ?_
    show Steps p.tables e below (T7.setTop (mkF m 91 #[.val (.int p1), .val (.int p2), .val (.int (4 : Int32)), .val (.ref s_HEURISTICALLY_ABORTED), .val (.int (1 : Int32)), .val (.int (1 : Int32)), .val (.int (1 : Int32)), .unset] [(.int (p2 &&& (1 : Int32)))])) _
    rw [hf]
    show Steps p.tables e below (T7.setTop (mkF m 91 #[.val (.int p1), .val (.int p2), .val (.int (4 : Int32)), .val (.ref s_HEURISTICALLY_ABORTED), .val (.int (1 : Int32)), .val (.int (1 : Int32)), .val (.int (1 : Int32)), .unset] [(.int (1 : Int32))])) _
    refine XS.ifNo X7.here hx rfl (hb hby at_91) rfl ((if0 _ _).trans (feq (by decide : ¬ ((1 : Int32) = (0 : Int32)))).1) ?_
    show Steps p.tables e below (T7.setTop (mkF m 94 #[.val (.int p1), .val (.int p2), .val (.int (4 : Int32)), .val (.ref s_HEURISTICALLY_ABORTED), .val (.int (1 : Int32)), .val (.int (1 : Int32)), .val (.int (1 : Int32)), .unset] [])) _
    refine st8 _ ?_
    show Steps p.tables e below (T8.setTop (mkF m 97 #[.val (.int p1), .val (.int p2), .val (.int (4 : Int32)), .val (.ref s_HEURISTICALLY_ABORTED), .val (.int (1 : Int32)), .val (.int (1 : Int32)), .val (.int (1 : Int32)), .unset] [(.ref s_Outcome_COMMITTED)])) _
    refine XS.goto X8.here hx rfl (pc0 := 97) (pc' := 103) rfl (hb hby at_97) (by decide) (by decide) ?_
    show Steps p.tables e below (T8.setTop (mkF m 103 #[.val (.int p1), .val (.int p2), .val (.int (4 : Int32)), .val (.ref s_HEURISTICALLY_ABORTED), .val (.int (1 : Int32)), .val (.int (1 : Int32)), .val (.int (1 : Int32)), .unset] [(.ref s_Outcome_COMMITTED)])) _
    refine XS.astore X8.here hx rfl (hb hby at_103) rfl rfl (l' := #[.val (.int p1), .val (.int p2), .val (.int (4 : Int32)), .val (.ref s_HEURISTICALLY_ABORTED), .val (.int (1 : Int32)), .val (.int (1 : Int32)), .val (.int (1 : Int32)), .val (.ref s_Outcome_COMMITTED)]) rfl ?_
    show Steps p.tables e below (T8.setTop (mkF m 105 #[.val (.int p1), .val (.int p2), .val (.int (4 : Int32)), .val (.ref s_HEURISTICALLY_ABORTED), .val (.int (1 : Int32)), .val (.int (1 : Int32)), .val (.int (1 : Int32)), .val (.ref s_Outcome_COMMITTED)] [])) _
    refine XS.aloadN X8.here hx rfl (hb hby at_105) rfl rfl ?_
    show Steps p.tables e below (T8.setTop (mkF m 106 #[.val (.int p1), .val (.int p2), .val (.int (4 : Int32)), .val (.ref s_HEURISTICALLY_ABORTED), .val (.int (1 : Int32)), .val (.int (1 : Int32)), .val (.int (1 : Int32)), .val (.ref s_Outcome_COMMITTED)] [(.ref s_HEURISTICALLY_ABORTED)])) _
    refine XS.aload X8.here hx rfl (hb hby at_106) rfl rfl ?_
    show Steps p.tables e below (T8.setTop (mkF m 108 #[.val (.int p1), .val (.int p2), .val (.int (4 : Int32)), .val (.ref s_HEURISTICALLY_ABORTED), .val (.int (1 : Int32)), .val (.int (1 : Int32)), .val (.int (1 : Int32)), .val (.ref s_Outcome_COMMITTED)] [(.ref s_Outcome_COMMITTED), (.ref s_HEURISTICALLY_ABORTED)])) _
    refine st9.trans ?_
    show Steps p.tables e below (T9.setTop (mkF m 111 #[.val (.int p1), .val (.int p2), .val (.int (4 : Int32)), .val (.ref s_HEURISTICALLY_ABORTED), .val (.int (1 : Int32)), .val (.int (1 : Int32)), .val (.int (1 : Int32)), .val (.ref s_Outcome_COMMITTED)] [(.ref s_COMMITTED_AGAINST_HEURISTIC)])) _
    refine st10.trans ?_
    show Steps p.tables e below (T10.setTop (mkF m 114 #[.val (.int p1), .val (.int p2), .val (.int (4 : Int32)), .val (.ref s_HEURISTICALLY_ABORTED), .val (.int (1 : Int32)), .val (.int (1 : Int32)), .val (.int (1 : Int32)), .val (.ref s_Outcome_COMMITTED)] [(.int (0 : Int32))])) _
    refine XS.ifYes X10.here hx rfl (pc0 := 114) (pc' := 119) rfl (hb hby at_114) rfl ((if0 _ _).trans (teq (by decide : (0 : Int32) = (0 : Int32))).1) (by decide) (by decide) ?_
    show Steps p.tables e below (T10.setTop (mkF m 119 #[.val (.int p1), .val (.int p2), .val (.int (4 : Int32)), .val (.ref s_HEURISTICALLY_ABORTED), .val (.int (1 : Int32)), .val (.int (1 : Int32)), .val (.int (1 : Int32)), .val (.ref s_Outcome_COMMITTED)] [])) _
    refine XS.iconst X10.here hx rfl (hb hby at_119) ?_
    show Steps p.tables e below (T10.setTop (mkF m 120 #[.val (.int p1), .val (.int p2), .val (.int (4 : Int32)), .val (.ref s_HEURISTICALLY_ABORTED), .val (.int (1 : Int32)), .val (.int (1 : Int32)), .val (.int (1 : Int32)), .val (.ref s_Outcome_COMMITTED)] [(.int (1 : Int32))])) _
    exact retN X10 hx (t := .boolean) Bd.returns (by simp) (hb hby at_120) hr
  · show own_Q (some (.int (1 : Int32))) h0 n0 _ T10.heap _
    rw [e10]
    exact ⟨rfl, N10, rfl⟩
theorem d1_44 : decode method_2_code 44 = .ok (.iload_n 0, 1) := by decide +kernel
theorem d1_45 : decode method_2_code 45 = .ok (.iconst 5, 1) := by decide +kernel
theorem d1_46 : decode method_2_code 46 = .ok (.if_icmp .ne 7, 3) := by decide +kernel
theorem d1_49 : decode method_2_code 49 = .ok (.getstatic 25, 3) := by decide +kernel
theorem d1_52 : decode method_2_code 52 = .ok (.areturn, 1) := by decide +kernel
set_option maxRecDepth 65536 in
set_option maxHeartbeats 40000000 in
theorem r_pick_5 (l : Launch) (Z : State) (a0 : Array Value) (hw : ∀ d ∈ tables_1, d.before a0 Z = true) (ws : List Jvm.Cond) (s_PREPARED s_IN_DOUBT s_Outcome_COMMITTED s_HEURISTICALLY_ABORTED s_HEURISTICALLY_COMMITTED s_Joined_State_COMMITTED s_HEURISTIC_ABORT s_HEURISTIC_COMMIT s_COMMITTED_AGAINST_HEURISTIC s_HEURISTIC_MISMATCH s_COMMITTED_IN_ONE_PHASE s_TxnStatus_COMMITTED s_ABORTED_AGAINST_HEURISTIC s_Outcome_ABORTED s_PRE_ABORTED s_PRE_COMMITTED s_Joined_State_ABORTED s_TxnStatus_ABORTED : Addr) (h0 : Heap) (n0 : Nat) (Z0 : n0 ≤ h0.size) (G : own_Ctx Z h0 s_PREPARED s_IN_DOUBT s_Outcome_COMMITTED s_HEURISTICALLY_ABORTED s_HEURISTICALLY_COMMITTED s_Joined_State_COMMITTED s_HEURISTIC_ABORT s_HEURISTIC_COMMIT s_COMMITTED_AGAINST_HEURISTIC s_HEURISTIC_MISMATCH s_COMMITTED_IN_ONE_PHASE s_TxnStatus_COMMITTED s_ABORTED_AGAINST_HEURISTIC s_Outcome_ABORTED s_PRE_ABORTED s_PRE_COMMITTED s_Joined_State_ABORTED s_TxnStatus_ABORTED)   :
    MetFree l (⟨"com/example/unanimity/unanimity/core/StateAwaitsDecisionPinLaw", "pick", "(I)Lcom/example/unanimity/unanimity/core/Joined$State;"⟩ : MethodName) (head1 (Jvm.Cond.code (⟨"com/example/unanimity/unanimity/core/StateAwaitsDecisionPinLaw", "pick", "(I)Lcom/example/unanimity/unanimity/core/Joined$State;"⟩ : MethodName) method_2_code 1 (some (.object "com/example/unanimity/unanimity/core/Joined$State")) :: ws) ({ frames := 0, cells := 0, slots := 0, locals := 0 } : Room)) (fun a U => a = #[(.int (5 : Int32))] ∧ Z.Warmed39 U.vm ∧ U.heap = h0) (fun _ _ _ _ _ => True) (fun _ U o U' => ∃ v L, o = .returned v ∧ own_Q (some (.ref s_Joined_State_COMMITTED)) h0 n0 v U'.heap L ∧ FrameEnd U o U' L ({ frames := 0, cells := 0, slots := 0, locals := 0 } : Room).cells ({ frames := 0, cells := 0, slots := 0, locals := 0 } : Room).slots) := by
  have G0 := G
  obtain ⟨S_PREPARED, E_PREPARED, O_PREPARED, S_IN_DOUBT, E_IN_DOUBT, O_IN_DOUBT, S_Outcome_COMMITTED, E_Outcome_COMMITTED, O_Outcome_COMMITTED, S_HEURISTICALLY_ABORTED, E_HEURISTICALLY_ABORTED, O_HEURISTICALLY_ABORTED, S_HEURISTICALLY_COMMITTED, E_HEURISTICALLY_COMMITTED, O_HEURISTICALLY_COMMITTED, S_Joined_State_COMMITTED, E_Joined_State_COMMITTED, S_HEURISTIC_ABORT, E_HEURISTIC_ABORT, O_HEURISTIC_ABORT, S_HEURISTIC_COMMIT, E_HEURISTIC_COMMIT, O_HEURISTIC_COMMIT, S_COMMITTED_AGAINST_HEURISTIC, E_COMMITTED_AGAINST_HEURISTIC, S_HEURISTIC_MISMATCH, E_HEURISTIC_MISMATCH, O_HEURISTIC_MISMATCH, S_COMMITTED_IN_ONE_PHASE, E_COMMITTED_IN_ONE_PHASE, S_TxnStatus_COMMITTED, E_TxnStatus_COMMITTED, O_TxnStatus_COMMITTED, S_ABORTED_AGAINST_HEURISTIC, E_ABORTED_AGAINST_HEURISTIC, S_Outcome_ABORTED, E_Outcome_ABORTED, O_Outcome_ABORTED, S_PRE_ABORTED, E_PRE_ABORTED, O_PRE_ABORTED, S_PRE_COMMITTED, E_PRE_COMMITTED, O_PRE_COMMITTED, S_Joined_State_ABORTED, E_Joined_State_ABORTED, S_TxnStatus_ABORTED, E_TxnStatus_ABORTED, O_TxnStatus_ABORTED, F_decision_PREPARED, F_status_PREPARED, F_decision_Joined_State_COMMITTED, F_decision_HEURISTICALLY_ABORTED, F_status_HEURISTICALLY_ABORTED, F_decision_COMMITTED_AGAINST_HEURISTIC, F_status_COMMITTED_AGAINST_HEURISTIC, F_decision_COMMITTED_IN_ONE_PHASE, F_status_COMMITTED_IN_ONE_PHASE, F_decision_ABORTED_AGAINST_HEURISTIC, F_status_ABORTED_AGAINST_HEURISTIC, F_decision_PRE_ABORTED, F_status_PRE_ABORTED, F_decision_HEURISTICALLY_COMMITTED, F_status_HEURISTICALLY_COMMITTED, F_decision_PRE_COMMITTED, F_status_PRE_COMMITTED, F_decision_Joined_State_ABORTED, F_status_Joined_State_COMMITTED, F_status_Joined_State_ABORTED⟩ := G
  refine MetFree.of_bodySF (plainFor_of_name pn_1) hisR ?_
  intro p e s m args below meth c s₁ Bd hml0 hP hK
  obtain ⟨rfl, hZ, hh⟩ := hP
  have hx := Bd.exec
  have hby := Bd.bytes
  have hml : c.maxLocals = 1 := hml0
  have hown : s.vm.findClass "com/example/unanimity/unanimity/core/StateAwaitsDecisionPinLaw" = some m.cls := findClass_of_methodNamed Bd.named
  have hnm := (name_of_methodNamed Bd.named Bd.method).1
  have X0 : Stand p l e ({ frames := 0, cells := 0, slots := 0, locals := 0 } : Room) s m #[(.int (5 : Int32))] below meth c s₁ [] 0 0 := Stand.of_body Bd
  have e0 : s₁.heap = h0 := by rw [← hh, Bd.state]; rfl
  have N0 := Fr.nil n0
  have pre0 : ∀ t, Steps p.tables e below (s₁.setTop (mkF m 0 #[.val (.int (5 : Int32))] [])) t → Steps p.tables e below (s₁.setTop (entryFrame m #[(.int (5 : Int32))] 1)) t := fun t k => castTop (ef_1_4 m (5 : Int32)) k
  obtain ⟨T1, X1, e1, st1⟩ := getS2 X0 hx hZ hown (host := "") (Or.inl (hw _ (List.mem_of_getElem? (i := 68) rfl))) Via.refl e0 S_Joined_State_COMMITTED (g := (mkF m 49 #[.val (.int (5 : Int32))] [])) rfl (hb hby d1_49)
  obtain ⟨fs, hr, hrun, hended, hW, hsame⟩ := X1.leave (v := some (.ref s_Joined_State_COMMITTED)) (fun h => by rw [Bd.returns] at h; cases h)
  refine ⟨_, _, pre0 _ ?_, hrun, hended, _, _, rfl, ?_, ⟨_, rfl⟩, hW, hsame.mono (by decide) (by decide)⟩
  · show Steps p.tables e below (s₁.setTop (mkF m 0 #[.val (.int (5 : Int32))] [])) _
    refine XS.iloadN X0.here hx rfl (hb hby d1_0) rfl ?_
    show Steps p.tables e below (s₁.setTop (mkF m 1 #[.val (.int (5 : Int32))] [(.int (5 : Int32))])) _
    refine XS.ifYes X0.here hx rfl (pc0 := 1) (pc' := 8) rfl (hb hby d1_1) rfl ((if0 _ _).trans (feq (by decide : ¬ ((5 : Int32) = (0 : Int32)))).2) (by decide) (by decide) ?_
    show Steps p.tables e below (s₁.setTop (mkF m 8 #[.val (.int (5 : Int32))] [])) _
    refine XS.iloadN X0.here hx rfl (hb hby d1_8) rfl ?_
    show Steps p.tables e below (s₁.setTop (mkF m 9 #[.val (.int (5 : Int32))] [(.int (5 : Int32))])) _
    refine XS.iconst X0.here hx rfl (hb hby d1_9) ?_
    show Steps p.tables e below (s₁.setTop (mkF m 10 #[.val (.int (5 : Int32))] [(.int (1 : Int32)), (.int (5 : Int32))])) _
    refine XS.icmpYes X0.here hx rfl (pc0 := 10) (pc' := 17) rfl (hb hby d1_10) rfl (feq (by decide : ¬ ((5 : Int32) = (1 : Int32)))).2 (by decide) (by decide) ?_
    show Steps p.tables e below (s₁.setTop (mkF m 17 #[.val (.int (5 : Int32))] [])) _
    refine XS.iloadN X0.here hx rfl (hb hby d1_17) rfl ?_
    show Steps p.tables e below (s₁.setTop (mkF m 18 #[.val (.int (5 : Int32))] [(.int (5 : Int32))])) _
    refine XS.iconst X0.here hx rfl (hb hby d1_18) ?_
    show Steps p.tables e below (s₁.setTop (mkF m 19 #[.val (.int (5 : Int32))] [(.int (2 : Int32)), (.int (5 : Int32))])) _
    refine XS.icmpYes X0.here hx rfl (pc0 := 19) (pc' := 26) rfl (hb hby d1_19) rfl (feq (by decide : ¬ ((5 : Int32) = (2 : Int32)))).2 (by decide) (by decide) ?_
    show Steps p.tables e below (s₁.setTop (mkF m 26 #[.val (.int (5 : Int32))] [])) _
    refine XS.iloadN X0.here hx rfl (hb hby d1_26) rfl ?_
    show Steps p.tables e below (s₁.setTop (mkF m 27 #[.val (.int (5 : Int32))] [(.int (5 : Int32))])) _
    refine XS.iconst X0.here hx rfl (hb hby d1_27) ?_
    show Steps p.tables e below (s₁.setTop (mkF m 28 #[.val (.int (5 : Int32))] [(.int (3 : Int32)), (.int (5 : Int32))])) _
    refine XS.icmpYes X0.here hx rfl (pc0 := 28) (pc' := 35) rfl (hb hby d1_28) rfl (feq (by decide : ¬ ((5 : Int32) = (3 : Int32)))).2 (by decide) (by decide) ?_
    show Steps p.tables e below (s₁.setTop (mkF m 35 #[.val (.int (5 : Int32))] [])) _
    refine XS.iloadN X0.here hx rfl (hb hby d1_35) rfl ?_
    show Steps p.tables e below (s₁.setTop (mkF m 36 #[.val (.int (5 : Int32))] [(.int (5 : Int32))])) _
    refine XS.iconst X0.here hx rfl (hb hby d1_36) ?_
    show Steps p.tables e below (s₁.setTop (mkF m 37 #[.val (.int (5 : Int32))] [(.int (4 : Int32)), (.int (5 : Int32))])) _
    refine XS.icmpYes X0.here hx rfl (pc0 := 37) (pc' := 44) rfl (hb hby d1_37) rfl (feq (by decide : ¬ ((5 : Int32) = (4 : Int32)))).2 (by decide) (by decide) ?_
    show Steps p.tables e below (s₁.setTop (mkF m 44 #[.val (.int (5 : Int32))] [])) _
    refine XS.iloadN X0.here hx rfl (hb hby d1_44) rfl ?_
    show Steps p.tables e below (s₁.setTop (mkF m 45 #[.val (.int (5 : Int32))] [(.int (5 : Int32))])) _
    refine XS.iconst X0.here hx rfl (hb hby d1_45) ?_
    show Steps p.tables e below (s₁.setTop (mkF m 46 #[.val (.int (5 : Int32))] [(.int (5 : Int32)), (.int (5 : Int32))])) _
    refine XS.icmpNo X0.here hx rfl (hb hby d1_46) rfl (teq (by decide : (5 : Int32) = (5 : Int32))).2 ?_
    show Steps p.tables e below (s₁.setTop (mkF m 49 #[.val (.int (5 : Int32))] [])) _
    refine st1 _ ?_
    show Steps p.tables e below (T1.setTop (mkF m 52 #[.val (.int (5 : Int32))] [(.ref s_Joined_State_COMMITTED)])) _
    exact retOut X1 hx Bd.returns rfl (Or.inr (Or.inr (Or.inr (Or.inr ⟨rfl, rfl, rfl⟩)))) (hb hby d1_52) hr
  · show own_Q (some (.ref s_Joined_State_COMMITTED)) h0 n0 _ T1.heap _
    rw [e1]
    exact ⟨rfl, N0, rfl⟩
set_option maxRecDepth 65536 in
set_option maxHeartbeats 40000000 in
theorem r_law_5 (l : Launch) (Z : State) (a0 : Array Value) (hw : ∀ d ∈ tables_1, d.before a0 Z = true) (ws : List Jvm.Cond) (s_PREPARED s_IN_DOUBT s_Outcome_COMMITTED s_HEURISTICALLY_ABORTED s_HEURISTICALLY_COMMITTED s_Joined_State_COMMITTED s_HEURISTIC_ABORT s_HEURISTIC_COMMIT s_COMMITTED_AGAINST_HEURISTIC s_HEURISTIC_MISMATCH s_COMMITTED_IN_ONE_PHASE s_TxnStatus_COMMITTED s_ABORTED_AGAINST_HEURISTIC s_Outcome_ABORTED s_PRE_ABORTED s_PRE_COMMITTED s_Joined_State_ABORTED s_TxnStatus_ABORTED : Addr) (h0 : Heap) (n0 : Nat) (Z0 : n0 ≤ h0.size) (G : own_Ctx Z h0 s_PREPARED s_IN_DOUBT s_Outcome_COMMITTED s_HEURISTICALLY_ABORTED s_HEURISTICALLY_COMMITTED s_Joined_State_COMMITTED s_HEURISTIC_ABORT s_HEURISTIC_COMMIT s_COMMITTED_AGAINST_HEURISTIC s_HEURISTIC_MISMATCH s_COMMITTED_IN_ONE_PHASE s_TxnStatus_COMMITTED s_ABORTED_AGAINST_HEURISTIC s_Outcome_ABORTED s_PRE_ABORTED s_PRE_COMMITTED s_Joined_State_ABORTED s_TxnStatus_ABORTED) (p1 p2 : Int32) (hk : (p1 &&& (2147483647 : Int32)) % (10 : Int32) = (5 : Int32)) :
    MetFree l x (head1 (Jvm.Cond.code x code maxLocals ret :: ws) room_1) (fun a U => a = #[(.int p1), (.int p2)] ∧ Z.Warmed39 U.vm ∧ U.heap = h0) (fun _ _ _ _ _ => True) (fun _ U o U' => ∃ v L, o = .returned v ∧ own_Q (some (.int (1 : Int32))) h0 n0 v U'.heap L ∧ FrameEnd U o U' L 0 0) := by
  have G0 := G
  obtain ⟨S_PREPARED, E_PREPARED, O_PREPARED, S_IN_DOUBT, E_IN_DOUBT, O_IN_DOUBT, S_Outcome_COMMITTED, E_Outcome_COMMITTED, O_Outcome_COMMITTED, S_HEURISTICALLY_ABORTED, E_HEURISTICALLY_ABORTED, O_HEURISTICALLY_ABORTED, S_HEURISTICALLY_COMMITTED, E_HEURISTICALLY_COMMITTED, O_HEURISTICALLY_COMMITTED, S_Joined_State_COMMITTED, E_Joined_State_COMMITTED, S_HEURISTIC_ABORT, E_HEURISTIC_ABORT, O_HEURISTIC_ABORT, S_HEURISTIC_COMMIT, E_HEURISTIC_COMMIT, O_HEURISTIC_COMMIT, S_COMMITTED_AGAINST_HEURISTIC, E_COMMITTED_AGAINST_HEURISTIC, S_HEURISTIC_MISMATCH, E_HEURISTIC_MISMATCH, O_HEURISTIC_MISMATCH, S_COMMITTED_IN_ONE_PHASE, E_COMMITTED_IN_ONE_PHASE, S_TxnStatus_COMMITTED, E_TxnStatus_COMMITTED, O_TxnStatus_COMMITTED, S_ABORTED_AGAINST_HEURISTIC, E_ABORTED_AGAINST_HEURISTIC, S_Outcome_ABORTED, E_Outcome_ABORTED, O_Outcome_ABORTED, S_PRE_ABORTED, E_PRE_ABORTED, O_PRE_ABORTED, S_PRE_COMMITTED, E_PRE_COMMITTED, O_PRE_COMMITTED, S_Joined_State_ABORTED, E_Joined_State_ABORTED, S_TxnStatus_ABORTED, E_TxnStatus_ABORTED, O_TxnStatus_ABORTED, F_decision_PREPARED, F_status_PREPARED, F_decision_Joined_State_COMMITTED, F_decision_HEURISTICALLY_ABORTED, F_status_HEURISTICALLY_ABORTED, F_decision_COMMITTED_AGAINST_HEURISTIC, F_status_COMMITTED_AGAINST_HEURISTIC, F_decision_COMMITTED_IN_ONE_PHASE, F_status_COMMITTED_IN_ONE_PHASE, F_decision_ABORTED_AGAINST_HEURISTIC, F_status_ABORTED_AGAINST_HEURISTIC, F_decision_PRE_ABORTED, F_status_PRE_ABORTED, F_decision_HEURISTICALLY_COMMITTED, F_status_HEURISTICALLY_COMMITTED, F_decision_PRE_COMMITTED, F_status_PRE_COMMITTED, F_decision_Joined_State_ABORTED, F_status_Joined_State_COMMITTED, F_status_Joined_State_ABORTED⟩ := G
  refine MetFree.of_bodySF (plainFor_of_name pn_1) hisR ?_
  intro p e s m args below meth c s₁ Bd hml0 hP hK
  obtain ⟨rfl, hZ, hh⟩ := hP
  have hx := Bd.exec
  have hby := Bd.bytes
  have hml : c.maxLocals = 8 := hml0
  have hown : s.vm.findClass "com/example/unanimity/unanimity/core/StateAwaitsDecisionPinLaw" = some m.cls := findClass_of_methodNamed Bd.named
  have hnm := (name_of_methodNamed Bd.named Bd.method).1
  have X0 : Stand p l e room_1 s m #[(.int p1), (.int p2)] below meth c s₁ [] 0 0 := Stand.of_body Bd
  have e0 : s₁.heap = h0 := by rw [← hh, Bd.state]; rfl
  have N0 := Fr.nil n0
  have pre0 : ∀ t, Steps p.tables e below (s₁.setTop (mkF m 0 #[.val (.int p1), .val (.int p2), .unset, .unset, .unset, .unset, .unset, .unset] [])) t → Steps p.tables e below (s₁.setTop (entryFrame m #[(.int p1), (.int p2)] maxLocals)) t := fun t k => castTop (ef_0_5 m p1 p2) k
  obtain ⟨_, _, ⟨T1, L1, k1, n1⟩, -, X1, ⟨Lc1, hQ1, l1, y1, z1⟩, st1⟩ := Jvm.LawKit.callS X0 hx (y := (⟨"com/example/unanimity/unanimity/core/StateAwaitsDecisionPinLaw", "pick", "(I)Lcom/example/unanimity/unanimity/core/Joined$State;"⟩ : MethodName)) hown (mvT hZ (hw _ (List.mem_of_getElem? (i := 1) rfl))) (mvT hZ (hw _ (List.mem_of_getElem? (i := 2) rfl))) (mvT hZ (hw _ (List.mem_of_getElem? (i := 3) rfl))) (mvT hZ (hw _ (List.mem_of_getElem? (i := 4) rfl))) (by decide) (backOf (W := 0) (r_pick_5 l Z a0 hw [] s_PREPARED s_IN_DOUBT s_Outcome_COMMITTED s_HEURISTICALLY_ABORTED s_HEURISTICALLY_COMMITTED s_Joined_State_COMMITTED s_HEURISTIC_ABORT s_HEURISTIC_COMMIT s_COMMITTED_AGAINST_HEURISTIC s_HEURISTIC_MISMATCH s_COMMITTED_IN_ONE_PHASE s_TxnStatus_COMMITTED s_ABORTED_AGAINST_HEURISTIC s_Outcome_ABORTED s_PRE_ABORTED s_PRE_COMMITTED s_Joined_State_ABORTED s_TxnStatus_ABORTED h0 n0 Z0 G0) hZ (hw _ (List.mem_of_getElem? (i := 4) rfl)) (hw _ (List.mem_of_getElem? (i := 3) rfl)) (by decide) (by decide)) (g := (mkF m 9 #[.val (.int p1), .val (.int p2), .val (.int (5 : Int32)), .unset, .unset, .unset, .unset, .unset] [(.int (5 : Int32))])) rfl (by rw [hml]; rfl) (argsL := [(.int (5 : Int32))]) (rest := []) (lenOf pd_1 rfl) rfl (by show 2 * 0 + _ ≤ _; exact Nat.le_of_eq rfl) (hb hby at_9) (fun _ _ => ⟨rfl, e0, (by decide : 0 + 0 ≤ _), (by decide : 0 + 0 ≤ _)⟩)
  dsimp only [Pt.U, Pt.locs, Pt.cells, Pt.slots] at X1 l1 y1 z1 st1 hQ1
  subst l1 y1 z1
  obtain ⟨rfl, N1q, e1⟩ := hQ1
  have N1 := Fr.app N0 N1q
  obtain ⟨cq2, kq2, q2a, q2b, q2c⟩ := isOf hZ e1 E_Joined_State_COMMITTED
  obtain ⟨_, _, ⟨T2, L2, k2, n2⟩, -, X2, ⟨Lc2, hQ2, l2, y2, z2⟩, st2⟩ := X1.virtualBack hx (y := (⟨"com/example/unanimity/unanimity/core/Joined$State", "awaitsDecision", "()Z"⟩ : MethodName)) (z := (⟨"com/example/unanimity/unanimity/core/Joined$State", "awaitsDecision", "()Z"⟩ : MethodName)) hown (mvT hZ (hw _ (List.mem_of_getElem? (i := 8) rfl))) (mvT hZ (hw _ (List.mem_of_getElem? (i := 9) rfl))) (notFace_of_selects (args := #[]) (mvT hZ (hw _ (List.mem_of_getElem? (i := 11) rfl)))) (mvT hZ (hw _ (List.mem_of_getElem? (i := 11) rfl))) (mvT hZ (hw _ (List.mem_of_getElem? (i := 10) rfl))) (by decide) (backOf (W := 0) (r_aw_5 l Z a0 hw [] s_PREPARED s_IN_DOUBT s_Outcome_COMMITTED s_HEURISTICALLY_ABORTED s_HEURISTICALLY_COMMITTED s_Joined_State_COMMITTED s_HEURISTIC_ABORT s_HEURISTIC_COMMIT s_COMMITTED_AGAINST_HEURISTIC s_HEURISTIC_MISMATCH s_COMMITTED_IN_ONE_PHASE s_TxnStatus_COMMITTED s_ABORTED_AGAINST_HEURISTIC s_Outcome_ABORTED s_PRE_ABORTED s_PRE_COMMITTED s_Joined_State_ABORTED s_TxnStatus_ABORTED h0 n0 Z0 G0) hZ (hw _ (List.mem_of_getElem? (i := 12) rfl)) (hw _ (List.mem_of_getElem? (i := 6) rfl)) (by decide) (by decide)) q2a q2c (g := (mkF m 26 #[.val (.int p1), .val (.int p2), .val (.int (5 : Int32)), .val (.ref s_Joined_State_COMMITTED), .val (.int (0 : Int32)), .unset, .unset, .unset] [(.ref s_Joined_State_COMMITTED)])) rfl (by rw [hml]; rfl) (Steps.refl _) (argsL := []) (rest := []) (lenOf pd_2 rfl) rfl (by show 2 * 0 + _ ≤ _; exact Nat.le_of_eq rfl) (hb hby at_26) (fun _ _ => ⟨rfl, e1, (by decide : 0 + 0 ≤ _), (by decide : 0 + 0 ≤ _)⟩)
  dsimp only [Pt.U, Pt.locs, Pt.cells, Pt.slots] at X2 l2 y2 z2 st2 hQ2
  subst l2 y2 z2
  obtain ⟨rfl, N2q, e2⟩ := hQ2
  have N2 := Fr.app N1 N2q
  obtain ⟨cq3, kq3, q3a, q3b, q3c⟩ := isOf hZ e2 E_Joined_State_COMMITTED
  obtain ⟨_, _, ⟨T3, L3, k3, n3⟩, -, X3, ⟨Lc3, hQ3, l3, y3, z3⟩, st3⟩ := X2.virtualBack hx (y := (⟨"com/example/unanimity/unanimity/core/Joined$State", "inDoubt", "()Z"⟩ : MethodName)) (z := (⟨"com/example/unanimity/unanimity/core/Joined$State", "inDoubt", "()Z"⟩ : MethodName)) hown (mvT hZ (hw _ (List.mem_of_getElem? (i := 15) rfl))) (mvT hZ (hw _ (List.mem_of_getElem? (i := 16) rfl))) (notFace_of_selects (args := #[]) (mvT hZ (hw _ (List.mem_of_getElem? (i := 18) rfl)))) (mvT hZ (hw _ (List.mem_of_getElem? (i := 18) rfl))) (mvT hZ (hw _ (List.mem_of_getElem? (i := 17) rfl))) (by decide) (backOf (W := 0) (r_in_5 l Z a0 hw [] s_PREPARED s_IN_DOUBT s_Outcome_COMMITTED s_HEURISTICALLY_ABORTED s_HEURISTICALLY_COMMITTED s_Joined_State_COMMITTED s_HEURISTIC_ABORT s_HEURISTIC_COMMIT s_COMMITTED_AGAINST_HEURISTIC s_HEURISTIC_MISMATCH s_COMMITTED_IN_ONE_PHASE s_TxnStatus_COMMITTED s_ABORTED_AGAINST_HEURISTIC s_Outcome_ABORTED s_PRE_ABORTED s_PRE_COMMITTED s_Joined_State_ABORTED s_TxnStatus_ABORTED h0 n0 Z0 G0) hZ (hw _ (List.mem_of_getElem? (i := 19) rfl)) (hw _ (List.mem_of_getElem? (i := 6) rfl)) (by decide) (by decide)) q3a q3c (g := (mkF m 41 #[.val (.int p1), .val (.int p2), .val (.int (5 : Int32)), .val (.ref s_Joined_State_COMMITTED), .val (.int (0 : Int32)), .val (.int (0 : Int32)), .unset, .unset] [(.ref s_Joined_State_COMMITTED)])) rfl (by rw [hml]; rfl) (Steps.refl _) (argsL := []) (rest := []) (lenOf pd_2 rfl) rfl (by show 2 * 0 + _ ≤ _; exact Nat.le_of_eq rfl) (hb hby at_41) (fun _ _ => ⟨rfl, e2, (by decide : 0 + 0 ≤ _), (by decide : 0 + 0 ≤ _)⟩)
  dsimp only [Pt.U, Pt.locs, Pt.cells, Pt.slots] at X3 l3 y3 z3 st3 hQ3
  subst l3 y3 z3
  obtain ⟨rfl, N3q, e3⟩ := hQ3
  have N3 := Fr.app N2 N3q
  obtain ⟨T4, X4, e4, st4⟩ := getF X3 hx hZ hown (host := "") (Or.inl (hw _ (List.mem_of_getElem? (i := 45) rfl))) Via.refl e3 F_status_Joined_State_COMMITTED (g := (mkF m 48 #[.val (.int p1), .val (.int p2), .val (.int (5 : Int32)), .val (.ref s_Joined_State_COMMITTED), .val (.int (0 : Int32)), .val (.int (0 : Int32)), .unset, .unset] [(.ref s_Joined_State_COMMITTED)])) rfl rfl (hb hby at_48)
  obtain ⟨T5, X5, e5, st5⟩ := getS2 X4 hx hZ hown (host := "") (Or.inl (hw _ (List.mem_of_getElem? (i := 46) rfl))) Via.refl e4 S_HEURISTIC_COMMIT (g := (mkF m 51 #[.val (.int p1), .val (.int p2), .val (.int (5 : Int32)), .val (.ref s_Joined_State_COMMITTED), .val (.int (0 : Int32)), .val (.int (0 : Int32)), .unset, .unset] [(.ref s_TxnStatus_COMMITTED)])) rfl (hb hby at_51)
  obtain ⟨T6, X6, e6, st6⟩ := getF X5 hx hZ hown (host := "") (Or.inl (hw _ (List.mem_of_getElem? (i := 45) rfl))) Via.refl e5 F_status_Joined_State_COMMITTED (g := (mkF m 58 #[.val (.int p1), .val (.int p2), .val (.int (5 : Int32)), .val (.ref s_Joined_State_COMMITTED), .val (.int (0 : Int32)), .val (.int (0 : Int32)), .unset, .unset] [(.ref s_Joined_State_COMMITTED)])) rfl rfl (hb hby at_58)
  obtain ⟨T7, X7, e7, st7⟩ := getS2 X6 hx hZ hown (host := "") (Or.inl (hw _ (List.mem_of_getElem? (i := 48) rfl))) Via.refl e6 S_HEURISTIC_ABORT (g := (mkF m 61 #[.val (.int p1), .val (.int p2), .val (.int (5 : Int32)), .val (.ref s_Joined_State_COMMITTED), .val (.int (0 : Int32)), .val (.int (0 : Int32)), .unset, .unset] [(.ref s_TxnStatus_COMMITTED)])) rfl (hb hby at_61)
  obtain ⟨fs, hr, hrun, hended, hW, hsame⟩ := X7.leave (v := some (.int (1 : Int32))) (fun h => by rw [Bd.returns] at h; cases h)
  refine ⟨_, _, pre0 _ ?_, hrun, hended, _, _, rfl, ?_, ⟨_, rfl⟩, hW, hsame.mono (by decide) (by decide)⟩
  · show Steps p.tables e below (s₁.setTop (mkF m 0 #[.val (.int p1), .val (.int p2), .unset, .unset, .unset, .unset, .unset, .unset] [])) _
    refine XS.iloadN X0.here hx rfl (hb hby at_0) rfl ?_
    show Steps p.tables e below (s₁.setTop (mkF m 1 #[.val (.int p1), .val (.int p2), .unset, .unset, .unset, .unset, .unset, .unset] [(.int p1)])) _
    refine X0.ldcInt hx hown (mvT hZ (hw _ (List.mem_of_getElem? (i := 0) rfl))) (g := (mkF m 1 #[.val (.int p1), .val (.int p2), .unset, .unset, .unset, .unset, .unset, .unset] [(.int p1)])) rfl (hb hby at_1) _ ?_
    show Steps p.tables e below (s₁.setTop (mkF m 3 #[.val (.int p1), .val (.int p2), .unset, .unset, .unset, .unset, .unset, .unset] [(.int (2147483647 : Int32)), (.int p1)])) _
    refine XS.iand X0.here hx rfl (hb hby at_3) rfl ?_
    show Steps p.tables e below (s₁.setTop (mkF m 4 #[.val (.int p1), .val (.int p2), .unset, .unset, .unset, .unset, .unset, .unset] [(.int (p1 &&& (2147483647 : Int32)))])) _
    refine XS.bipush X0.here hx rfl (hb hby at_4) ?_
    show Steps p.tables e below (s₁.setTop (mkF m 6 #[.val (.int p1), .val (.int p2), .unset, .unset, .unset, .unset, .unset, .unset] [(.int (10 : Int32)), (.int (p1 &&& (2147483647 : Int32)))])) _
    refine iremM X0 hx rfl (hb hby at_6) rfl (by decide) ?_
    show Steps p.tables e below (s₁.setTop (mkF m 7 #[.val (.int p1), .val (.int p2), .unset, .unset, .unset, .unset, .unset, .unset] [(.int ((p1 &&& (2147483647 : Int32)) % (10 : Int32)))])) _
    rw [hk]
    show Steps p.tables e below (s₁.setTop (mkF m 7 #[.val (.int p1), .val (.int p2), .unset, .unset, .unset, .unset, .unset, .unset] [(.int (5 : Int32))])) _
    refine XS.istoreN X0.here hx rfl (hb hby at_7) rfl (l' := #[.val (.int p1), .val (.int p2), .val (.int (5 : Int32)), .unset, .unset, .unset, .unset, .unset]) rfl ?_
    show Steps p.tables e below (s₁.setTop (mkF m 8 #[.val (.int p1), .val (.int p2), .val (.int (5 : Int32)), .unset, .unset, .unset, .unset, .unset] [])) _
    refine XS.iloadN X0.here hx rfl (hb hby at_8) rfl ?_
    show Steps p.tables e below (s₁.setTop (mkF m 9 #[.val (.int p1), .val (.int p2), .val (.int (5 : Int32)), .unset, .unset, .unset, .unset, .unset] [(.int (5 : Int32))])) _
    refine st1 _ ?_
    show Steps p.tables e below (T1.setTop (mkF m 12 #[.val (.int p1), .val (.int p2), .val (.int (5 : Int32)), .unset, .unset, .unset, .unset, .unset] [(.ref s_Joined_State_COMMITTED)])) _
    refine XS.astoreN X1.here hx rfl (hb hby at_12) rfl rfl (l' := #[.val (.int p1), .val (.int p2), .val (.int (5 : Int32)), .val (.ref s_Joined_State_COMMITTED), .unset, .unset, .unset, .unset]) rfl ?_
    show Steps p.tables e below (T1.setTop (mkF m 13 #[.val (.int p1), .val (.int p2), .val (.int (5 : Int32)), .val (.ref s_Joined_State_COMMITTED), .unset, .unset, .unset, .unset] [])) _
    refine XS.iloadN X1.here hx rfl (hb hby at_13) rfl ?_
    show Steps p.tables e below (T1.setTop (mkF m 14 #[.val (.int p1), .val (.int p2), .val (.int (5 : Int32)), .val (.ref s_Joined_State_COMMITTED), .unset, .unset, .unset, .unset] [(.int (5 : Int32))])) _
    refine XS.iconst X1.here hx rfl (hb hby at_14) ?_
    show Steps p.tables e below (T1.setTop (mkF m 15 #[.val (.int p1), .val (.int p2), .val (.int (5 : Int32)), .val (.ref s_Joined_State_COMMITTED), .unset, .unset, .unset, .unset] [(.int (5 : Int32)), (.int (5 : Int32))])) _
    refine XS.icmpYes X1.here hx rfl (pc0 := 15) (pc' := 22) rfl (hb hby at_15) rfl (flt (by decide : ¬ ((5 : Int32) < (5 : Int32)))).2.1 (by decide) (by decide) ?_
    show Steps p.tables e below (T1.setTop (mkF m 22 #[.val (.int p1), .val (.int p2), .val (.int (5 : Int32)), .val (.ref s_Joined_State_COMMITTED), .unset, .unset, .unset, .unset] [])) _
    refine XS.iconst X1.here hx rfl (hb hby at_22) ?_
    show Steps p.tables e below (T1.setTop (mkF m 23 #[.val (.int p1), .val (.int p2), .val (.int (5 : Int32)), .val (.ref s_Joined_State_COMMITTED), .unset, .unset, .unset, .unset] [(.int (0 : Int32))])) _
    refine XS.istore X1.here hx rfl (hb hby at_23) rfl (l' := #[.val (.int p1), .val (.int p2), .val (.int (5 : Int32)), .val (.ref s_Joined_State_COMMITTED), .val (.int (0 : Int32)), .unset, .unset, .unset]) rfl ?_
    show Steps p.tables e below (T1.setTop (mkF m 25 #[.val (.int p1), .val (.int p2), .val (.int (5 : Int32)), .val (.ref s_Joined_State_COMMITTED), .val (.int (0 : Int32)), .unset, .unset, .unset] [])) _
    refine XS.aloadN X1.here hx rfl (hb hby at_25) rfl rfl ?_
    show Steps p.tables e below (T1.setTop (mkF m 26 #[.val (.int p1), .val (.int p2), .val (.int (5 : Int32)), .val (.ref s_Joined_State_COMMITTED), .val (.int (0 : Int32)), .unset, .unset, .unset] [(.ref s_Joined_State_COMMITTED)])) _
    refine st2.trans ?_
    show Steps p.tables e below (T2.setTop (mkF m 29 #[.val (.int p1), .val (.int p2), .val (.int (5 : Int32)), .val (.ref s_Joined_State_COMMITTED), .val (.int (0 : Int32)), .unset, .unset, .unset] [(.int (0 : Int32))])) _
    refine XS.istore X2.here hx rfl (hb hby at_29) rfl (l' := #[.val (.int p1), .val (.int p2), .val (.int (5 : Int32)), .val (.ref s_Joined_State_COMMITTED), .val (.int (0 : Int32)), .val (.int (0 : Int32)), .unset, .unset]) rfl ?_
    show Steps p.tables e below (T2.setTop (mkF m 31 #[.val (.int p1), .val (.int p2), .val (.int (5 : Int32)), .val (.ref s_Joined_State_COMMITTED), .val (.int (0 : Int32)), .val (.int (0 : Int32)), .unset, .unset] [])) _
    refine XS.iload X2.here hx rfl (hb hby at_31) rfl ?_
    show Steps p.tables e below (T2.setTop (mkF m 33 #[.val (.int p1), .val (.int p2), .val (.int (5 : Int32)), .val (.ref s_Joined_State_COMMITTED), .val (.int (0 : Int32)), .val (.int (0 : Int32)), .unset, .unset] [(.int (0 : Int32))])) _
    refine XS.iload X2.here hx rfl (hb hby at_33) rfl ?_
    show Steps p.tables e below (T2.setTop (mkF m 35 #[.val (.int p1), .val (.int p2), .val (.int (5 : Int32)), .val (.ref s_Joined_State_COMMITTED), .val (.int (0 : Int32)), .val (.int (0 : Int32)), .unset, .unset] [(.int (0 : Int32)), (.int (0 : Int32))])) _
    refine XS.icmpYes X2.here hx rfl (pc0 := 35) (pc' := 40) rfl (hb hby at_35) rfl (teq (by decide : (0 : Int32) = (0 : Int32))).1 (by decide) (by decide) ?_
    show Steps p.tables e below (T2.setTop (mkF m 40 #[.val (.int p1), .val (.int p2), .val (.int (5 : Int32)), .val (.ref s_Joined_State_COMMITTED), .val (.int (0 : Int32)), .val (.int (0 : Int32)), .unset, .unset] [])) _
    refine XS.aloadN X2.here hx rfl (hb hby at_40) rfl rfl ?_
    show Steps p.tables e below (T2.setTop (mkF m 41 #[.val (.int p1), .val (.int p2), .val (.int (5 : Int32)), .val (.ref s_Joined_State_COMMITTED), .val (.int (0 : Int32)), .val (.int (0 : Int32)), .unset, .unset] [(.ref s_Joined_State_COMMITTED)])) _
    refine st3.trans ?_
    show Steps p.tables e below (T3.setTop (mkF m 44 #[.val (.int p1), .val (.int p2), .val (.int (5 : Int32)), .val (.ref s_Joined_State_COMMITTED), .val (.int (0 : Int32)), .val (.int (0 : Int32)), .unset, .unset] [(.int (0 : Int32))])) _
    refine XS.ifNo X3.here hx rfl (hb hby at_44) rfl ((if0 _ _).trans (teq (by decide : (0 : Int32) = (0 : Int32))).2) ?_
    show Steps p.tables e below (T3.setTop (mkF m 47 #[.val (.int p1), .val (.int p2), .val (.int (5 : Int32)), .val (.ref s_Joined_State_COMMITTED), .val (.int (0 : Int32)), .val (.int (0 : Int32)), .unset, .unset] [])) _
    refine XS.aloadN X3.here hx rfl (hb hby at_47) rfl rfl ?_
    show Steps p.tables e below (T3.setTop (mkF m 48 #[.val (.int p1), .val (.int p2), .val (.int (5 : Int32)), .val (.ref s_Joined_State_COMMITTED), .val (.int (0 : Int32)), .val (.int (0 : Int32)), .unset, .unset] [(.ref s_Joined_State_COMMITTED)])) _
    refine st4 _ ?_
    show Steps p.tables e below (T4.setTop (mkF m 51 #[.val (.int p1), .val (.int p2), .val (.int (5 : Int32)), .val (.ref s_Joined_State_COMMITTED), .val (.int (0 : Int32)), .val (.int (0 : Int32)), .unset, .unset] [(.ref s_TxnStatus_COMMITTED)])) _
    refine st5 _ ?_
    show Steps p.tables e below (T5.setTop (mkF m 54 #[.val (.int p1), .val (.int p2), .val (.int (5 : Int32)), .val (.ref s_Joined_State_COMMITTED), .val (.int (0 : Int32)), .val (.int (0 : Int32)), .unset, .unset] [(.ref s_HEURISTIC_COMMIT), (.ref s_TxnStatus_COMMITTED)])) _
    refine Jvm.RoadKit.acmp (g := (mkF m 54 #[.val (.int p1), .val (.int p2), .val (.int (5 : Int32)), .val (.ref s_Joined_State_COMMITTED), .val (.int (0 : Int32)), .val (.int (0 : Int32)), .unset, .unset] [(.ref s_HEURISTIC_COMMIT), (.ref s_TxnStatus_COMMITTED)])) X5 hx rfl rfl rfl (pc0 := 54) (pc' := 57) (same := false) rfl (hb hby at_54) rfl (decide_eq_false fun q => (Fld.ne O_TxnStatus_COMMITTED O_HEURISTIC_COMMIT (fun q => absurd (Value.int.inj q) (by decide))) (Value.ref.inj q)) (by decide) (by decide) ?_
    show Steps p.tables e below (T5.setTop (mkF m 57 #[.val (.int p1), .val (.int p2), .val (.int (5 : Int32)), .val (.ref s_Joined_State_COMMITTED), .val (.int (0 : Int32)), .val (.int (0 : Int32)), .unset, .unset] [])) _
    refine XS.aloadN X5.here hx rfl (hb hby at_57) rfl rfl ?_
    show Steps p.tables e below (T5.setTop (mkF m 58 #[.val (.int p1), .val (.int p2), .val (.int (5 : Int32)), .val (.ref s_Joined_State_COMMITTED), .val (.int (0 : Int32)), .val (.int (0 : Int32)), .unset, .unset] [(.ref s_Joined_State_COMMITTED)])) _
    refine st6 _ ?_
    show Steps p.tables e below (T6.setTop (mkF m 61 #[.val (.int p1), .val (.int p2), .val (.int (5 : Int32)), .val (.ref s_Joined_State_COMMITTED), .val (.int (0 : Int32)), .val (.int (0 : Int32)), .unset, .unset] [(.ref s_TxnStatus_COMMITTED)])) _
    refine st7 _ ?_
    show Steps p.tables e below (T7.setTop (mkF m 64 #[.val (.int p1), .val (.int p2), .val (.int (5 : Int32)), .val (.ref s_Joined_State_COMMITTED), .val (.int (0 : Int32)), .val (.int (0 : Int32)), .unset, .unset] [(.ref s_HEURISTIC_ABORT), (.ref s_TxnStatus_COMMITTED)])) _
    refine Jvm.RoadKit.acmp (g := (mkF m 64 #[.val (.int p1), .val (.int p2), .val (.int (5 : Int32)), .val (.ref s_Joined_State_COMMITTED), .val (.int (0 : Int32)), .val (.int (0 : Int32)), .unset, .unset] [(.ref s_HEURISTIC_ABORT), (.ref s_TxnStatus_COMMITTED)])) X7 hx rfl rfl rfl (pc0 := 64) (pc' := 71) (same := false) rfl (hb hby at_64) rfl (decide_eq_false fun q => (Fld.ne O_TxnStatus_COMMITTED O_HEURISTIC_ABORT (fun q => absurd (Value.int.inj q) (by decide))) (Value.ref.inj q)) (by decide) (by decide) ?_
    show Steps p.tables e below (T7.setTop (mkF m 71 #[.val (.int p1), .val (.int p2), .val (.int (5 : Int32)), .val (.ref s_Joined_State_COMMITTED), .val (.int (0 : Int32)), .val (.int (0 : Int32)), .unset, .unset] [])) _
    refine XS.iconst X7.here hx rfl (hb hby at_71) ?_
    show Steps p.tables e below (T7.setTop (mkF m 72 #[.val (.int p1), .val (.int p2), .val (.int (5 : Int32)), .val (.ref s_Joined_State_COMMITTED), .val (.int (0 : Int32)), .val (.int (0 : Int32)), .unset, .unset] [(.int (0 : Int32))])) _
    refine XS.istore X7.here hx rfl (hb hby at_72) rfl (l' := #[.val (.int p1), .val (.int p2), .val (.int (5 : Int32)), .val (.ref s_Joined_State_COMMITTED), .val (.int (0 : Int32)), .val (.int (0 : Int32)), .val (.int (0 : Int32)), .unset]) rfl ?_
    show Steps p.tables e below (T7.setTop (mkF m 74 #[.val (.int p1), .val (.int p2), .val (.int (5 : Int32)), .val (.ref s_Joined_State_COMMITTED), .val (.int (0 : Int32)), .val (.int (0 : Int32)), .val (.int (0 : Int32)), .unset] [])) _
    refine XS.iload X7.here hx rfl (hb hby at_74) rfl ?_
    show Steps p.tables e below (T7.setTop (mkF m 76 #[.val (.int p1), .val (.int p2), .val (.int (5 : Int32)), .val (.ref s_Joined_State_COMMITTED), .val (.int (0 : Int32)), .val (.int (0 : Int32)), .val (.int (0 : Int32)), .unset] [(.int (0 : Int32))])) _
    refine XS.iload X7.here hx rfl (hb hby at_76) rfl ?_
    show Steps p.tables e below (T7.setTop (mkF m 78 #[.val (.int p1), .val (.int p2), .val (.int (5 : Int32)), .val (.ref s_Joined_State_COMMITTED), .val (.int (0 : Int32)), .val (.int (0 : Int32)), .val (.int (0 : Int32)), .unset] [(.int (0 : Int32)), (.int (0 : Int32))])) _
    refine XS.icmpYes X7.here hx rfl (pc0 := 78) (pc' := 83) rfl (hb hby at_78) rfl (teq (by decide : (0 : Int32) = (0 : Int32))).1 (by decide) (by decide) ?_
    show Steps p.tables e below (T7.setTop (mkF m 83 #[.val (.int p1), .val (.int p2), .val (.int (5 : Int32)), .val (.ref s_Joined_State_COMMITTED), .val (.int (0 : Int32)), .val (.int (0 : Int32)), .val (.int (0 : Int32)), .unset] [])) _
    refine XS.iload X7.here hx rfl (hb hby at_83) rfl ?_
    show Steps p.tables e below (T7.setTop (mkF m 85 #[.val (.int p1), .val (.int p2), .val (.int (5 : Int32)), .val (.ref s_Joined_State_COMMITTED), .val (.int (0 : Int32)), .val (.int (0 : Int32)), .val (.int (0 : Int32)), .unset] [(.int (0 : Int32))])) _
    refine XS.ifYes X7.here hx rfl (pc0 := 85) (pc' := 119) rfl (hb hby at_85) rfl ((if0 _ _).trans (teq (by decide : (0 : Int32) = (0 : Int32))).1) (by decide) (by decide) ?_
    show Steps p.tables e below (T7.setTop (mkF m 119 #[.val (.int p1), .val (.int p2), .val (.int (5 : Int32)), .val (.ref s_Joined_State_COMMITTED), .val (.int (0 : Int32)), .val (.int (0 : Int32)), .val (.int (0 : Int32)), .unset] [])) _
    refine XS.iconst X7.here hx rfl (hb hby at_119) ?_
    show Steps p.tables e below (T7.setTop (mkF m 120 #[.val (.int p1), .val (.int p2), .val (.int (5 : Int32)), .val (.ref s_Joined_State_COMMITTED), .val (.int (0 : Int32)), .val (.int (0 : Int32)), .val (.int (0 : Int32)), .unset] [(.int (1 : Int32))])) _
    exact retN X7 hx (t := .boolean) Bd.returns (by simp) (hb hby at_120) hr
  · show own_Q (some (.int (1 : Int32))) h0 n0 _ T7.heap _
    rw [e7]
    exact ⟨rfl, N3, rfl⟩
theorem d1_53 : decode method_2_code 53 = .ok (.iload_n 0, 1) := by decide +kernel
theorem d1_54 : decode method_2_code 54 = .ok (.bipush 6, 2) := by decide +kernel
theorem d1_56 : decode method_2_code 56 = .ok (.if_icmp .ne 7, 3) := by decide +kernel
theorem d1_59 : decode method_2_code 59 = .ok (.getstatic 28, 3) := by decide +kernel
theorem d1_62 : decode method_2_code 62 = .ok (.areturn, 1) := by decide +kernel
set_option maxRecDepth 65536 in
set_option maxHeartbeats 40000000 in
theorem r_pick_6 (l : Launch) (Z : State) (a0 : Array Value) (hw : ∀ d ∈ tables_1, d.before a0 Z = true) (ws : List Jvm.Cond) (s_PREPARED s_IN_DOUBT s_Outcome_COMMITTED s_HEURISTICALLY_ABORTED s_HEURISTICALLY_COMMITTED s_Joined_State_COMMITTED s_HEURISTIC_ABORT s_HEURISTIC_COMMIT s_COMMITTED_AGAINST_HEURISTIC s_HEURISTIC_MISMATCH s_COMMITTED_IN_ONE_PHASE s_TxnStatus_COMMITTED s_ABORTED_AGAINST_HEURISTIC s_Outcome_ABORTED s_PRE_ABORTED s_PRE_COMMITTED s_Joined_State_ABORTED s_TxnStatus_ABORTED : Addr) (h0 : Heap) (n0 : Nat) (Z0 : n0 ≤ h0.size) (G : own_Ctx Z h0 s_PREPARED s_IN_DOUBT s_Outcome_COMMITTED s_HEURISTICALLY_ABORTED s_HEURISTICALLY_COMMITTED s_Joined_State_COMMITTED s_HEURISTIC_ABORT s_HEURISTIC_COMMIT s_COMMITTED_AGAINST_HEURISTIC s_HEURISTIC_MISMATCH s_COMMITTED_IN_ONE_PHASE s_TxnStatus_COMMITTED s_ABORTED_AGAINST_HEURISTIC s_Outcome_ABORTED s_PRE_ABORTED s_PRE_COMMITTED s_Joined_State_ABORTED s_TxnStatus_ABORTED)   :
    MetFree l (⟨"com/example/unanimity/unanimity/core/StateAwaitsDecisionPinLaw", "pick", "(I)Lcom/example/unanimity/unanimity/core/Joined$State;"⟩ : MethodName) (head1 (Jvm.Cond.code (⟨"com/example/unanimity/unanimity/core/StateAwaitsDecisionPinLaw", "pick", "(I)Lcom/example/unanimity/unanimity/core/Joined$State;"⟩ : MethodName) method_2_code 1 (some (.object "com/example/unanimity/unanimity/core/Joined$State")) :: ws) ({ frames := 0, cells := 0, slots := 0, locals := 0 } : Room)) (fun a U => a = #[(.int (6 : Int32))] ∧ Z.Warmed39 U.vm ∧ U.heap = h0) (fun _ _ _ _ _ => True) (fun _ U o U' => ∃ v L, o = .returned v ∧ own_Q (some (.ref s_COMMITTED_IN_ONE_PHASE)) h0 n0 v U'.heap L ∧ FrameEnd U o U' L ({ frames := 0, cells := 0, slots := 0, locals := 0 } : Room).cells ({ frames := 0, cells := 0, slots := 0, locals := 0 } : Room).slots) := by
  have G0 := G
  obtain ⟨S_PREPARED, E_PREPARED, O_PREPARED, S_IN_DOUBT, E_IN_DOUBT, O_IN_DOUBT, S_Outcome_COMMITTED, E_Outcome_COMMITTED, O_Outcome_COMMITTED, S_HEURISTICALLY_ABORTED, E_HEURISTICALLY_ABORTED, O_HEURISTICALLY_ABORTED, S_HEURISTICALLY_COMMITTED, E_HEURISTICALLY_COMMITTED, O_HEURISTICALLY_COMMITTED, S_Joined_State_COMMITTED, E_Joined_State_COMMITTED, S_HEURISTIC_ABORT, E_HEURISTIC_ABORT, O_HEURISTIC_ABORT, S_HEURISTIC_COMMIT, E_HEURISTIC_COMMIT, O_HEURISTIC_COMMIT, S_COMMITTED_AGAINST_HEURISTIC, E_COMMITTED_AGAINST_HEURISTIC, S_HEURISTIC_MISMATCH, E_HEURISTIC_MISMATCH, O_HEURISTIC_MISMATCH, S_COMMITTED_IN_ONE_PHASE, E_COMMITTED_IN_ONE_PHASE, S_TxnStatus_COMMITTED, E_TxnStatus_COMMITTED, O_TxnStatus_COMMITTED, S_ABORTED_AGAINST_HEURISTIC, E_ABORTED_AGAINST_HEURISTIC, S_Outcome_ABORTED, E_Outcome_ABORTED, O_Outcome_ABORTED, S_PRE_ABORTED, E_PRE_ABORTED, O_PRE_ABORTED, S_PRE_COMMITTED, E_PRE_COMMITTED, O_PRE_COMMITTED, S_Joined_State_ABORTED, E_Joined_State_ABORTED, S_TxnStatus_ABORTED, E_TxnStatus_ABORTED, O_TxnStatus_ABORTED, F_decision_PREPARED, F_status_PREPARED, F_decision_Joined_State_COMMITTED, F_decision_HEURISTICALLY_ABORTED, F_status_HEURISTICALLY_ABORTED, F_decision_COMMITTED_AGAINST_HEURISTIC, F_status_COMMITTED_AGAINST_HEURISTIC, F_decision_COMMITTED_IN_ONE_PHASE, F_status_COMMITTED_IN_ONE_PHASE, F_decision_ABORTED_AGAINST_HEURISTIC, F_status_ABORTED_AGAINST_HEURISTIC, F_decision_PRE_ABORTED, F_status_PRE_ABORTED, F_decision_HEURISTICALLY_COMMITTED, F_status_HEURISTICALLY_COMMITTED, F_decision_PRE_COMMITTED, F_status_PRE_COMMITTED, F_decision_Joined_State_ABORTED, F_status_Joined_State_COMMITTED, F_status_Joined_State_ABORTED⟩ := G
  refine MetFree.of_bodySF (plainFor_of_name pn_1) hisR ?_
  intro p e s m args below meth c s₁ Bd hml0 hP hK
  obtain ⟨rfl, hZ, hh⟩ := hP
  have hx := Bd.exec
  have hby := Bd.bytes
  have hml : c.maxLocals = 1 := hml0
  have hown : s.vm.findClass "com/example/unanimity/unanimity/core/StateAwaitsDecisionPinLaw" = some m.cls := findClass_of_methodNamed Bd.named
  have hnm := (name_of_methodNamed Bd.named Bd.method).1
  have X0 : Stand p l e ({ frames := 0, cells := 0, slots := 0, locals := 0 } : Room) s m #[(.int (6 : Int32))] below meth c s₁ [] 0 0 := Stand.of_body Bd
  have e0 : s₁.heap = h0 := by rw [← hh, Bd.state]; rfl
  have N0 := Fr.nil n0
  have pre0 : ∀ t, Steps p.tables e below (s₁.setTop (mkF m 0 #[.val (.int (6 : Int32))] [])) t → Steps p.tables e below (s₁.setTop (entryFrame m #[(.int (6 : Int32))] 1)) t := fun t k => castTop (ef_1_4 m (6 : Int32)) k
  obtain ⟨T1, X1, e1, st1⟩ := getS2 X0 hx hZ hown (host := "") (Or.inl (hw _ (List.mem_of_getElem? (i := 53) rfl))) Via.refl e0 S_COMMITTED_IN_ONE_PHASE (g := (mkF m 59 #[.val (.int (6 : Int32))] [])) rfl (hb hby d1_59)
  obtain ⟨fs, hr, hrun, hended, hW, hsame⟩ := X1.leave (v := some (.ref s_COMMITTED_IN_ONE_PHASE)) (fun h => by rw [Bd.returns] at h; cases h)
  refine ⟨_, _, pre0 _ ?_, hrun, hended, _, _, rfl, ?_, ⟨_, rfl⟩, hW, hsame.mono (by decide) (by decide)⟩
  · show Steps p.tables e below (s₁.setTop (mkF m 0 #[.val (.int (6 : Int32))] [])) _
    refine XS.iloadN X0.here hx rfl (hb hby d1_0) rfl ?_
    show Steps p.tables e below (s₁.setTop (mkF m 1 #[.val (.int (6 : Int32))] [(.int (6 : Int32))])) _
    refine XS.ifYes X0.here hx rfl (pc0 := 1) (pc' := 8) rfl (hb hby d1_1) rfl ((if0 _ _).trans (feq (by decide : ¬ ((6 : Int32) = (0 : Int32)))).2) (by decide) (by decide) ?_
    show Steps p.tables e below (s₁.setTop (mkF m 8 #[.val (.int (6 : Int32))] [])) _
    refine XS.iloadN X0.here hx rfl (hb hby d1_8) rfl ?_
    show Steps p.tables e below (s₁.setTop (mkF m 9 #[.val (.int (6 : Int32))] [(.int (6 : Int32))])) _
    refine XS.iconst X0.here hx rfl (hb hby d1_9) ?_
    show Steps p.tables e below (s₁.setTop (mkF m 10 #[.val (.int (6 : Int32))] [(.int (1 : Int32)), (.int (6 : Int32))])) _
    refine XS.icmpYes X0.here hx rfl (pc0 := 10) (pc' := 17) rfl (hb hby d1_10) rfl (feq (by decide : ¬ ((6 : Int32) = (1 : Int32)))).2 (by decide) (by decide) ?_
    show Steps p.tables e below (s₁.setTop (mkF m 17 #[.val (.int (6 : Int32))] [])) _
    refine XS.iloadN X0.here hx rfl (hb hby d1_17) rfl ?_
    show Steps p.tables e below (s₁.setTop (mkF m 18 #[.val (.int (6 : Int32))] [(.int (6 : Int32))])) _
    refine XS.iconst X0.here hx rfl (hb hby d1_18) ?_
    show Steps p.tables e below (s₁.setTop (mkF m 19 #[.val (.int (6 : Int32))] [(.int (2 : Int32)), (.int (6 : Int32))])) _
    refine XS.icmpYes X0.here hx rfl (pc0 := 19) (pc' := 26) rfl (hb hby d1_19) rfl (feq (by decide : ¬ ((6 : Int32) = (2 : Int32)))).2 (by decide) (by decide) ?_
    show Steps p.tables e below (s₁.setTop (mkF m 26 #[.val (.int (6 : Int32))] [])) _
    refine XS.iloadN X0.here hx rfl (hb hby d1_26) rfl ?_
    show Steps p.tables e below (s₁.setTop (mkF m 27 #[.val (.int (6 : Int32))] [(.int (6 : Int32))])) _
    refine XS.iconst X0.here hx rfl (hb hby d1_27) ?_
    show Steps p.tables e below (s₁.setTop (mkF m 28 #[.val (.int (6 : Int32))] [(.int (3 : Int32)), (.int (6 : Int32))])) _
    refine XS.icmpYes X0.here hx rfl (pc0 := 28) (pc' := 35) rfl (hb hby d1_28) rfl (feq (by decide : ¬ ((6 : Int32) = (3 : Int32)))).2 (by decide) (by decide) ?_
    show Steps p.tables e below (s₁.setTop (mkF m 35 #[.val (.int (6 : Int32))] [])) _
    refine XS.iloadN X0.here hx rfl (hb hby d1_35) rfl ?_
    show Steps p.tables e below (s₁.setTop (mkF m 36 #[.val (.int (6 : Int32))] [(.int (6 : Int32))])) _
    refine XS.iconst X0.here hx rfl (hb hby d1_36) ?_
    show Steps p.tables e below (s₁.setTop (mkF m 37 #[.val (.int (6 : Int32))] [(.int (4 : Int32)), (.int (6 : Int32))])) _
    refine XS.icmpYes X0.here hx rfl (pc0 := 37) (pc' := 44) rfl (hb hby d1_37) rfl (feq (by decide : ¬ ((6 : Int32) = (4 : Int32)))).2 (by decide) (by decide) ?_
    show Steps p.tables e below (s₁.setTop (mkF m 44 #[.val (.int (6 : Int32))] [])) _
    refine XS.iloadN X0.here hx rfl (hb hby d1_44) rfl ?_
    show Steps p.tables e below (s₁.setTop (mkF m 45 #[.val (.int (6 : Int32))] [(.int (6 : Int32))])) _
    refine XS.iconst X0.here hx rfl (hb hby d1_45) ?_
    show Steps p.tables e below (s₁.setTop (mkF m 46 #[.val (.int (6 : Int32))] [(.int (5 : Int32)), (.int (6 : Int32))])) _
    refine XS.icmpYes X0.here hx rfl (pc0 := 46) (pc' := 53) rfl (hb hby d1_46) rfl (feq (by decide : ¬ ((6 : Int32) = (5 : Int32)))).2 (by decide) (by decide) ?_
    show Steps p.tables e below (s₁.setTop (mkF m 53 #[.val (.int (6 : Int32))] [])) _
    refine XS.iloadN X0.here hx rfl (hb hby d1_53) rfl ?_
    show Steps p.tables e below (s₁.setTop (mkF m 54 #[.val (.int (6 : Int32))] [(.int (6 : Int32))])) _
    refine XS.bipush X0.here hx rfl (hb hby d1_54) ?_
    show Steps p.tables e below (s₁.setTop (mkF m 56 #[.val (.int (6 : Int32))] [(.int (6 : Int32)), (.int (6 : Int32))])) _
    refine XS.icmpNo X0.here hx rfl (hb hby d1_56) rfl (teq (by decide : (6 : Int32) = (6 : Int32))).2 ?_
    show Steps p.tables e below (s₁.setTop (mkF m 59 #[.val (.int (6 : Int32))] [])) _
    refine st1 _ ?_
    show Steps p.tables e below (T1.setTop (mkF m 62 #[.val (.int (6 : Int32))] [(.ref s_COMMITTED_IN_ONE_PHASE)])) _
    exact retOut X1 hx Bd.returns rfl (Or.inr (Or.inr (Or.inr (Or.inr ⟨rfl, rfl, rfl⟩)))) (hb hby d1_62) hr
  · show own_Q (some (.ref s_COMMITTED_IN_ONE_PHASE)) h0 n0 _ T1.heap _
    rw [e1]
    exact ⟨rfl, N0, rfl⟩
set_option maxRecDepth 65536 in
set_option maxHeartbeats 40000000 in
theorem r_law_6 (l : Launch) (Z : State) (a0 : Array Value) (hw : ∀ d ∈ tables_1, d.before a0 Z = true) (ws : List Jvm.Cond) (s_PREPARED s_IN_DOUBT s_Outcome_COMMITTED s_HEURISTICALLY_ABORTED s_HEURISTICALLY_COMMITTED s_Joined_State_COMMITTED s_HEURISTIC_ABORT s_HEURISTIC_COMMIT s_COMMITTED_AGAINST_HEURISTIC s_HEURISTIC_MISMATCH s_COMMITTED_IN_ONE_PHASE s_TxnStatus_COMMITTED s_ABORTED_AGAINST_HEURISTIC s_Outcome_ABORTED s_PRE_ABORTED s_PRE_COMMITTED s_Joined_State_ABORTED s_TxnStatus_ABORTED : Addr) (h0 : Heap) (n0 : Nat) (Z0 : n0 ≤ h0.size) (G : own_Ctx Z h0 s_PREPARED s_IN_DOUBT s_Outcome_COMMITTED s_HEURISTICALLY_ABORTED s_HEURISTICALLY_COMMITTED s_Joined_State_COMMITTED s_HEURISTIC_ABORT s_HEURISTIC_COMMIT s_COMMITTED_AGAINST_HEURISTIC s_HEURISTIC_MISMATCH s_COMMITTED_IN_ONE_PHASE s_TxnStatus_COMMITTED s_ABORTED_AGAINST_HEURISTIC s_Outcome_ABORTED s_PRE_ABORTED s_PRE_COMMITTED s_Joined_State_ABORTED s_TxnStatus_ABORTED) (p1 p2 : Int32) (hk : (p1 &&& (2147483647 : Int32)) % (10 : Int32) = (6 : Int32)) :
    MetFree l x (head1 (Jvm.Cond.code x code maxLocals ret :: ws) room_1) (fun a U => a = #[(.int p1), (.int p2)] ∧ Z.Warmed39 U.vm ∧ U.heap = h0) (fun _ _ _ _ _ => True) (fun _ U o U' => ∃ v L, o = .returned v ∧ own_Q (some (.int (1 : Int32))) h0 n0 v U'.heap L ∧ FrameEnd U o U' L 0 0) := by
  have G0 := G
  obtain ⟨S_PREPARED, E_PREPARED, O_PREPARED, S_IN_DOUBT, E_IN_DOUBT, O_IN_DOUBT, S_Outcome_COMMITTED, E_Outcome_COMMITTED, O_Outcome_COMMITTED, S_HEURISTICALLY_ABORTED, E_HEURISTICALLY_ABORTED, O_HEURISTICALLY_ABORTED, S_HEURISTICALLY_COMMITTED, E_HEURISTICALLY_COMMITTED, O_HEURISTICALLY_COMMITTED, S_Joined_State_COMMITTED, E_Joined_State_COMMITTED, S_HEURISTIC_ABORT, E_HEURISTIC_ABORT, O_HEURISTIC_ABORT, S_HEURISTIC_COMMIT, E_HEURISTIC_COMMIT, O_HEURISTIC_COMMIT, S_COMMITTED_AGAINST_HEURISTIC, E_COMMITTED_AGAINST_HEURISTIC, S_HEURISTIC_MISMATCH, E_HEURISTIC_MISMATCH, O_HEURISTIC_MISMATCH, S_COMMITTED_IN_ONE_PHASE, E_COMMITTED_IN_ONE_PHASE, S_TxnStatus_COMMITTED, E_TxnStatus_COMMITTED, O_TxnStatus_COMMITTED, S_ABORTED_AGAINST_HEURISTIC, E_ABORTED_AGAINST_HEURISTIC, S_Outcome_ABORTED, E_Outcome_ABORTED, O_Outcome_ABORTED, S_PRE_ABORTED, E_PRE_ABORTED, O_PRE_ABORTED, S_PRE_COMMITTED, E_PRE_COMMITTED, O_PRE_COMMITTED, S_Joined_State_ABORTED, E_Joined_State_ABORTED, S_TxnStatus_ABORTED, E_TxnStatus_ABORTED, O_TxnStatus_ABORTED, F_decision_PREPARED, F_status_PREPARED, F_decision_Joined_State_COMMITTED, F_decision_HEURISTICALLY_ABORTED, F_status_HEURISTICALLY_ABORTED, F_decision_COMMITTED_AGAINST_HEURISTIC, F_status_COMMITTED_AGAINST_HEURISTIC, F_decision_COMMITTED_IN_ONE_PHASE, F_status_COMMITTED_IN_ONE_PHASE, F_decision_ABORTED_AGAINST_HEURISTIC, F_status_ABORTED_AGAINST_HEURISTIC, F_decision_PRE_ABORTED, F_status_PRE_ABORTED, F_decision_HEURISTICALLY_COMMITTED, F_status_HEURISTICALLY_COMMITTED, F_decision_PRE_COMMITTED, F_status_PRE_COMMITTED, F_decision_Joined_State_ABORTED, F_status_Joined_State_COMMITTED, F_status_Joined_State_ABORTED⟩ := G
  refine MetFree.of_bodySF (plainFor_of_name pn_1) hisR ?_
  intro p e s m args below meth c s₁ Bd hml0 hP hK
  obtain ⟨rfl, hZ, hh⟩ := hP
  have hx := Bd.exec
  have hby := Bd.bytes
  have hml : c.maxLocals = 8 := hml0
  have hown : s.vm.findClass "com/example/unanimity/unanimity/core/StateAwaitsDecisionPinLaw" = some m.cls := findClass_of_methodNamed Bd.named
  have hnm := (name_of_methodNamed Bd.named Bd.method).1
  have X0 : Stand p l e room_1 s m #[(.int p1), (.int p2)] below meth c s₁ [] 0 0 := Stand.of_body Bd
  have e0 : s₁.heap = h0 := by rw [← hh, Bd.state]; rfl
  have N0 := Fr.nil n0
  have pre0 : ∀ t, Steps p.tables e below (s₁.setTop (mkF m 0 #[.val (.int p1), .val (.int p2), .unset, .unset, .unset, .unset, .unset, .unset] [])) t → Steps p.tables e below (s₁.setTop (entryFrame m #[(.int p1), (.int p2)] maxLocals)) t := fun t k => castTop (ef_0_5 m p1 p2) k
  obtain ⟨_, _, ⟨T1, L1, k1, n1⟩, -, X1, ⟨Lc1, hQ1, l1, y1, z1⟩, st1⟩ := Jvm.LawKit.callS X0 hx (y := (⟨"com/example/unanimity/unanimity/core/StateAwaitsDecisionPinLaw", "pick", "(I)Lcom/example/unanimity/unanimity/core/Joined$State;"⟩ : MethodName)) hown (mvT hZ (hw _ (List.mem_of_getElem? (i := 1) rfl))) (mvT hZ (hw _ (List.mem_of_getElem? (i := 2) rfl))) (mvT hZ (hw _ (List.mem_of_getElem? (i := 3) rfl))) (mvT hZ (hw _ (List.mem_of_getElem? (i := 4) rfl))) (by decide) (backOf (W := 0) (r_pick_6 l Z a0 hw [] s_PREPARED s_IN_DOUBT s_Outcome_COMMITTED s_HEURISTICALLY_ABORTED s_HEURISTICALLY_COMMITTED s_Joined_State_COMMITTED s_HEURISTIC_ABORT s_HEURISTIC_COMMIT s_COMMITTED_AGAINST_HEURISTIC s_HEURISTIC_MISMATCH s_COMMITTED_IN_ONE_PHASE s_TxnStatus_COMMITTED s_ABORTED_AGAINST_HEURISTIC s_Outcome_ABORTED s_PRE_ABORTED s_PRE_COMMITTED s_Joined_State_ABORTED s_TxnStatus_ABORTED h0 n0 Z0 G0) hZ (hw _ (List.mem_of_getElem? (i := 4) rfl)) (hw _ (List.mem_of_getElem? (i := 3) rfl)) (by decide) (by decide)) (g := (mkF m 9 #[.val (.int p1), .val (.int p2), .val (.int (6 : Int32)), .unset, .unset, .unset, .unset, .unset] [(.int (6 : Int32))])) rfl (by rw [hml]; rfl) (argsL := [(.int (6 : Int32))]) (rest := []) (lenOf pd_1 rfl) rfl (by show 2 * 0 + _ ≤ _; exact Nat.le_of_eq rfl) (hb hby at_9) (fun _ _ => ⟨rfl, e0, (by decide : 0 + 0 ≤ _), (by decide : 0 + 0 ≤ _)⟩)
  dsimp only [Pt.U, Pt.locs, Pt.cells, Pt.slots] at X1 l1 y1 z1 st1 hQ1
  subst l1 y1 z1
  obtain ⟨rfl, N1q, e1⟩ := hQ1
  have N1 := Fr.app N0 N1q
  obtain ⟨cq2, kq2, q2a, q2b, q2c⟩ := isOf hZ e1 E_COMMITTED_IN_ONE_PHASE
  obtain ⟨_, _, ⟨T2, L2, k2, n2⟩, -, X2, ⟨Lc2, hQ2, l2, y2, z2⟩, st2⟩ := X1.virtualBack hx (y := (⟨"com/example/unanimity/unanimity/core/Joined$State", "awaitsDecision", "()Z"⟩ : MethodName)) (z := (⟨"com/example/unanimity/unanimity/core/Joined$State", "awaitsDecision", "()Z"⟩ : MethodName)) hown (mvT hZ (hw _ (List.mem_of_getElem? (i := 8) rfl))) (mvT hZ (hw _ (List.mem_of_getElem? (i := 9) rfl))) (notFace_of_selects (args := #[]) (mvT hZ (hw _ (List.mem_of_getElem? (i := 11) rfl)))) (mvT hZ (hw _ (List.mem_of_getElem? (i := 11) rfl))) (mvT hZ (hw _ (List.mem_of_getElem? (i := 10) rfl))) (by decide) (backOf (W := 0) (r_aw_6 l Z a0 hw [] s_PREPARED s_IN_DOUBT s_Outcome_COMMITTED s_HEURISTICALLY_ABORTED s_HEURISTICALLY_COMMITTED s_Joined_State_COMMITTED s_HEURISTIC_ABORT s_HEURISTIC_COMMIT s_COMMITTED_AGAINST_HEURISTIC s_HEURISTIC_MISMATCH s_COMMITTED_IN_ONE_PHASE s_TxnStatus_COMMITTED s_ABORTED_AGAINST_HEURISTIC s_Outcome_ABORTED s_PRE_ABORTED s_PRE_COMMITTED s_Joined_State_ABORTED s_TxnStatus_ABORTED h0 n0 Z0 G0) hZ (hw _ (List.mem_of_getElem? (i := 12) rfl)) (hw _ (List.mem_of_getElem? (i := 6) rfl)) (by decide) (by decide)) q2a q2c (g := (mkF m 26 #[.val (.int p1), .val (.int p2), .val (.int (6 : Int32)), .val (.ref s_COMMITTED_IN_ONE_PHASE), .val (.int (0 : Int32)), .unset, .unset, .unset] [(.ref s_COMMITTED_IN_ONE_PHASE)])) rfl (by rw [hml]; rfl) (Steps.refl _) (argsL := []) (rest := []) (lenOf pd_2 rfl) rfl (by show 2 * 0 + _ ≤ _; exact Nat.le_of_eq rfl) (hb hby at_26) (fun _ _ => ⟨rfl, e1, (by decide : 0 + 0 ≤ _), (by decide : 0 + 0 ≤ _)⟩)
  dsimp only [Pt.U, Pt.locs, Pt.cells, Pt.slots] at X2 l2 y2 z2 st2 hQ2
  subst l2 y2 z2
  obtain ⟨rfl, N2q, e2⟩ := hQ2
  have N2 := Fr.app N1 N2q
  obtain ⟨cq3, kq3, q3a, q3b, q3c⟩ := isOf hZ e2 E_COMMITTED_IN_ONE_PHASE
  obtain ⟨_, _, ⟨T3, L3, k3, n3⟩, -, X3, ⟨Lc3, hQ3, l3, y3, z3⟩, st3⟩ := X2.virtualBack hx (y := (⟨"com/example/unanimity/unanimity/core/Joined$State", "inDoubt", "()Z"⟩ : MethodName)) (z := (⟨"com/example/unanimity/unanimity/core/Joined$State", "inDoubt", "()Z"⟩ : MethodName)) hown (mvT hZ (hw _ (List.mem_of_getElem? (i := 15) rfl))) (mvT hZ (hw _ (List.mem_of_getElem? (i := 16) rfl))) (notFace_of_selects (args := #[]) (mvT hZ (hw _ (List.mem_of_getElem? (i := 18) rfl)))) (mvT hZ (hw _ (List.mem_of_getElem? (i := 18) rfl))) (mvT hZ (hw _ (List.mem_of_getElem? (i := 17) rfl))) (by decide) (backOf (W := 0) (r_in_6 l Z a0 hw [] s_PREPARED s_IN_DOUBT s_Outcome_COMMITTED s_HEURISTICALLY_ABORTED s_HEURISTICALLY_COMMITTED s_Joined_State_COMMITTED s_HEURISTIC_ABORT s_HEURISTIC_COMMIT s_COMMITTED_AGAINST_HEURISTIC s_HEURISTIC_MISMATCH s_COMMITTED_IN_ONE_PHASE s_TxnStatus_COMMITTED s_ABORTED_AGAINST_HEURISTIC s_Outcome_ABORTED s_PRE_ABORTED s_PRE_COMMITTED s_Joined_State_ABORTED s_TxnStatus_ABORTED h0 n0 Z0 G0) hZ (hw _ (List.mem_of_getElem? (i := 19) rfl)) (hw _ (List.mem_of_getElem? (i := 6) rfl)) (by decide) (by decide)) q3a q3c (g := (mkF m 41 #[.val (.int p1), .val (.int p2), .val (.int (6 : Int32)), .val (.ref s_COMMITTED_IN_ONE_PHASE), .val (.int (0 : Int32)), .val (.int (0 : Int32)), .unset, .unset] [(.ref s_COMMITTED_IN_ONE_PHASE)])) rfl (by rw [hml]; rfl) (Steps.refl _) (argsL := []) (rest := []) (lenOf pd_2 rfl) rfl (by show 2 * 0 + _ ≤ _; exact Nat.le_of_eq rfl) (hb hby at_41) (fun _ _ => ⟨rfl, e2, (by decide : 0 + 0 ≤ _), (by decide : 0 + 0 ≤ _)⟩)
  dsimp only [Pt.U, Pt.locs, Pt.cells, Pt.slots] at X3 l3 y3 z3 st3 hQ3
  subst l3 y3 z3
  obtain ⟨rfl, N3q, e3⟩ := hQ3
  have N3 := Fr.app N2 N3q
  obtain ⟨T4, X4, e4, st4⟩ := getF X3 hx hZ hown (host := "") (Or.inl (hw _ (List.mem_of_getElem? (i := 45) rfl))) Via.refl e3 F_status_COMMITTED_IN_ONE_PHASE (g := (mkF m 48 #[.val (.int p1), .val (.int p2), .val (.int (6 : Int32)), .val (.ref s_COMMITTED_IN_ONE_PHASE), .val (.int (0 : Int32)), .val (.int (0 : Int32)), .unset, .unset] [(.ref s_COMMITTED_IN_ONE_PHASE)])) rfl rfl (hb hby at_48)
  obtain ⟨T5, X5, e5, st5⟩ := getS2 X4 hx hZ hown (host := "") (Or.inl (hw _ (List.mem_of_getElem? (i := 46) rfl))) Via.refl e4 S_HEURISTIC_COMMIT (g := (mkF m 51 #[.val (.int p1), .val (.int p2), .val (.int (6 : Int32)), .val (.ref s_COMMITTED_IN_ONE_PHASE), .val (.int (0 : Int32)), .val (.int (0 : Int32)), .unset, .unset] [(.ref s_TxnStatus_COMMITTED)])) rfl (hb hby at_51)
  obtain ⟨T6, X6, e6, st6⟩ := getF X5 hx hZ hown (host := "") (Or.inl (hw _ (List.mem_of_getElem? (i := 45) rfl))) Via.refl e5 F_status_COMMITTED_IN_ONE_PHASE (g := (mkF m 58 #[.val (.int p1), .val (.int p2), .val (.int (6 : Int32)), .val (.ref s_COMMITTED_IN_ONE_PHASE), .val (.int (0 : Int32)), .val (.int (0 : Int32)), .unset, .unset] [(.ref s_COMMITTED_IN_ONE_PHASE)])) rfl rfl (hb hby at_58)
  obtain ⟨T7, X7, e7, st7⟩ := getS2 X6 hx hZ hown (host := "") (Or.inl (hw _ (List.mem_of_getElem? (i := 48) rfl))) Via.refl e6 S_HEURISTIC_ABORT (g := (mkF m 61 #[.val (.int p1), .val (.int p2), .val (.int (6 : Int32)), .val (.ref s_COMMITTED_IN_ONE_PHASE), .val (.int (0 : Int32)), .val (.int (0 : Int32)), .unset, .unset] [(.ref s_TxnStatus_COMMITTED)])) rfl (hb hby at_61)
  obtain ⟨fs, hr, hrun, hended, hW, hsame⟩ := X7.leave (v := some (.int (1 : Int32))) (fun h => by rw [Bd.returns] at h; cases h)
  refine ⟨_, _, pre0 _ ?_, hrun, hended, _, _, rfl, ?_, ⟨_, rfl⟩, hW, hsame.mono (by decide) (by decide)⟩
  · show Steps p.tables e below (s₁.setTop (mkF m 0 #[.val (.int p1), .val (.int p2), .unset, .unset, .unset, .unset, .unset, .unset] [])) _
    refine XS.iloadN X0.here hx rfl (hb hby at_0) rfl ?_
    show Steps p.tables e below (s₁.setTop (mkF m 1 #[.val (.int p1), .val (.int p2), .unset, .unset, .unset, .unset, .unset, .unset] [(.int p1)])) _
    refine X0.ldcInt hx hown (mvT hZ (hw _ (List.mem_of_getElem? (i := 0) rfl))) (g := (mkF m 1 #[.val (.int p1), .val (.int p2), .unset, .unset, .unset, .unset, .unset, .unset] [(.int p1)])) rfl (hb hby at_1) _ ?_
    show Steps p.tables e below (s₁.setTop (mkF m 3 #[.val (.int p1), .val (.int p2), .unset, .unset, .unset, .unset, .unset, .unset] [(.int (2147483647 : Int32)), (.int p1)])) _
    refine XS.iand X0.here hx rfl (hb hby at_3) rfl ?_
    show Steps p.tables e below (s₁.setTop (mkF m 4 #[.val (.int p1), .val (.int p2), .unset, .unset, .unset, .unset, .unset, .unset] [(.int (p1 &&& (2147483647 : Int32)))])) _
    refine XS.bipush X0.here hx rfl (hb hby at_4) ?_
    show Steps p.tables e below (s₁.setTop (mkF m 6 #[.val (.int p1), .val (.int p2), .unset, .unset, .unset, .unset, .unset, .unset] [(.int (10 : Int32)), (.int (p1 &&& (2147483647 : Int32)))])) _
    refine iremM X0 hx rfl (hb hby at_6) rfl (by decide) ?_
    show Steps p.tables e below (s₁.setTop (mkF m 7 #[.val (.int p1), .val (.int p2), .unset, .unset, .unset, .unset, .unset, .unset] [(.int ((p1 &&& (2147483647 : Int32)) % (10 : Int32)))])) _
    rw [hk]
    show Steps p.tables e below (s₁.setTop (mkF m 7 #[.val (.int p1), .val (.int p2), .unset, .unset, .unset, .unset, .unset, .unset] [(.int (6 : Int32))])) _
    refine XS.istoreN X0.here hx rfl (hb hby at_7) rfl (l' := #[.val (.int p1), .val (.int p2), .val (.int (6 : Int32)), .unset, .unset, .unset, .unset, .unset]) rfl ?_
    show Steps p.tables e below (s₁.setTop (mkF m 8 #[.val (.int p1), .val (.int p2), .val (.int (6 : Int32)), .unset, .unset, .unset, .unset, .unset] [])) _
    refine XS.iloadN X0.here hx rfl (hb hby at_8) rfl ?_
    show Steps p.tables e below (s₁.setTop (mkF m 9 #[.val (.int p1), .val (.int p2), .val (.int (6 : Int32)), .unset, .unset, .unset, .unset, .unset] [(.int (6 : Int32))])) _
    refine st1 _ ?_
    show Steps p.tables e below (T1.setTop (mkF m 12 #[.val (.int p1), .val (.int p2), .val (.int (6 : Int32)), .unset, .unset, .unset, .unset, .unset] [(.ref s_COMMITTED_IN_ONE_PHASE)])) _
    refine XS.astoreN X1.here hx rfl (hb hby at_12) rfl rfl (l' := #[.val (.int p1), .val (.int p2), .val (.int (6 : Int32)), .val (.ref s_COMMITTED_IN_ONE_PHASE), .unset, .unset, .unset, .unset]) rfl ?_
    show Steps p.tables e below (T1.setTop (mkF m 13 #[.val (.int p1), .val (.int p2), .val (.int (6 : Int32)), .val (.ref s_COMMITTED_IN_ONE_PHASE), .unset, .unset, .unset, .unset] [])) _
    refine XS.iloadN X1.here hx rfl (hb hby at_13) rfl ?_
    show Steps p.tables e below (T1.setTop (mkF m 14 #[.val (.int p1), .val (.int p2), .val (.int (6 : Int32)), .val (.ref s_COMMITTED_IN_ONE_PHASE), .unset, .unset, .unset, .unset] [(.int (6 : Int32))])) _
    refine XS.iconst X1.here hx rfl (hb hby at_14) ?_
    show Steps p.tables e below (T1.setTop (mkF m 15 #[.val (.int p1), .val (.int p2), .val (.int (6 : Int32)), .val (.ref s_COMMITTED_IN_ONE_PHASE), .unset, .unset, .unset, .unset] [(.int (5 : Int32)), (.int (6 : Int32))])) _
    refine XS.icmpYes X1.here hx rfl (pc0 := 15) (pc' := 22) rfl (hb hby at_15) rfl (flt (by decide : ¬ ((6 : Int32) < (5 : Int32)))).2.1 (by decide) (by decide) ?_
    show Steps p.tables e below (T1.setTop (mkF m 22 #[.val (.int p1), .val (.int p2), .val (.int (6 : Int32)), .val (.ref s_COMMITTED_IN_ONE_PHASE), .unset, .unset, .unset, .unset] [])) _
    refine XS.iconst X1.here hx rfl (hb hby at_22) ?_
    show Steps p.tables e below (T1.setTop (mkF m 23 #[.val (.int p1), .val (.int p2), .val (.int (6 : Int32)), .val (.ref s_COMMITTED_IN_ONE_PHASE), .unset, .unset, .unset, .unset] [(.int (0 : Int32))])) _
    refine XS.istore X1.here hx rfl (hb hby at_23) rfl (l' := #[.val (.int p1), .val (.int p2), .val (.int (6 : Int32)), .val (.ref s_COMMITTED_IN_ONE_PHASE), .val (.int (0 : Int32)), .unset, .unset, .unset]) rfl ?_
    show Steps p.tables e below (T1.setTop (mkF m 25 #[.val (.int p1), .val (.int p2), .val (.int (6 : Int32)), .val (.ref s_COMMITTED_IN_ONE_PHASE), .val (.int (0 : Int32)), .unset, .unset, .unset] [])) _
    refine XS.aloadN X1.here hx rfl (hb hby at_25) rfl rfl ?_
    show Steps p.tables e below (T1.setTop (mkF m 26 #[.val (.int p1), .val (.int p2), .val (.int (6 : Int32)), .val (.ref s_COMMITTED_IN_ONE_PHASE), .val (.int (0 : Int32)), .unset, .unset, .unset] [(.ref s_COMMITTED_IN_ONE_PHASE)])) _
    refine st2.trans ?_
    show Steps p.tables e below (T2.setTop (mkF m 29 #[.val (.int p1), .val (.int p2), .val (.int (6 : Int32)), .val (.ref s_COMMITTED_IN_ONE_PHASE), .val (.int (0 : Int32)), .unset, .unset, .unset] [(.int (0 : Int32))])) _
    refine XS.istore X2.here hx rfl (hb hby at_29) rfl (l' := #[.val (.int p1), .val (.int p2), .val (.int (6 : Int32)), .val (.ref s_COMMITTED_IN_ONE_PHASE), .val (.int (0 : Int32)), .val (.int (0 : Int32)), .unset, .unset]) rfl ?_
    show Steps p.tables e below (T2.setTop (mkF m 31 #[.val (.int p1), .val (.int p2), .val (.int (6 : Int32)), .val (.ref s_COMMITTED_IN_ONE_PHASE), .val (.int (0 : Int32)), .val (.int (0 : Int32)), .unset, .unset] [])) _
    refine XS.iload X2.here hx rfl (hb hby at_31) rfl ?_
    show Steps p.tables e below (T2.setTop (mkF m 33 #[.val (.int p1), .val (.int p2), .val (.int (6 : Int32)), .val (.ref s_COMMITTED_IN_ONE_PHASE), .val (.int (0 : Int32)), .val (.int (0 : Int32)), .unset, .unset] [(.int (0 : Int32))])) _
    refine XS.iload X2.here hx rfl (hb hby at_33) rfl ?_
    show Steps p.tables e below (T2.setTop (mkF m 35 #[.val (.int p1), .val (.int p2), .val (.int (6 : Int32)), .val (.ref s_COMMITTED_IN_ONE_PHASE), .val (.int (0 : Int32)), .val (.int (0 : Int32)), .unset, .unset] [(.int (0 : Int32)), (.int (0 : Int32))])) _
    refine XS.icmpYes X2.here hx rfl (pc0 := 35) (pc' := 40) rfl (hb hby at_35) rfl (teq (by decide : (0 : Int32) = (0 : Int32))).1 (by decide) (by decide) ?_
    show Steps p.tables e below (T2.setTop (mkF m 40 #[.val (.int p1), .val (.int p2), .val (.int (6 : Int32)), .val (.ref s_COMMITTED_IN_ONE_PHASE), .val (.int (0 : Int32)), .val (.int (0 : Int32)), .unset, .unset] [])) _
    refine XS.aloadN X2.here hx rfl (hb hby at_40) rfl rfl ?_
    show Steps p.tables e below (T2.setTop (mkF m 41 #[.val (.int p1), .val (.int p2), .val (.int (6 : Int32)), .val (.ref s_COMMITTED_IN_ONE_PHASE), .val (.int (0 : Int32)), .val (.int (0 : Int32)), .unset, .unset] [(.ref s_COMMITTED_IN_ONE_PHASE)])) _
    refine st3.trans ?_
    show Steps p.tables e below (T3.setTop (mkF m 44 #[.val (.int p1), .val (.int p2), .val (.int (6 : Int32)), .val (.ref s_COMMITTED_IN_ONE_PHASE), .val (.int (0 : Int32)), .val (.int (0 : Int32)), .unset, .unset] [(.int (0 : Int32))])) _
    refine XS.ifNo X3.here hx rfl (hb hby at_44) rfl ((if0 _ _).trans (teq (by decide : (0 : Int32) = (0 : Int32))).2) ?_
    show Steps p.tables e below (T3.setTop (mkF m 47 #[.val (.int p1), .val (.int p2), .val (.int (6 : Int32)), .val (.ref s_COMMITTED_IN_ONE_PHASE), .val (.int (0 : Int32)), .val (.int (0 : Int32)), .unset, .unset] [])) _
    refine XS.aloadN X3.here hx rfl (hb hby at_47) rfl rfl ?_
    show Steps p.tables e below (T3.setTop (mkF m 48 #[.val (.int p1), .val (.int p2), .val (.int (6 : Int32)), .val (.ref s_COMMITTED_IN_ONE_PHASE), .val (.int (0 : Int32)), .val (.int (0 : Int32)), .unset, .unset] [(.ref s_COMMITTED_IN_ONE_PHASE)])) _
    refine st4 _ ?_
    show Steps p.tables e below (T4.setTop (mkF m 51 #[.val (.int p1), .val (.int p2), .val (.int (6 : Int32)), .val (.ref s_COMMITTED_IN_ONE_PHASE), .val (.int (0 : Int32)), .val (.int (0 : Int32)), .unset, .unset] [(.ref s_TxnStatus_COMMITTED)])) _
    refine st5 _ ?_
    show Steps p.tables e below (T5.setTop (mkF m 54 #[.val (.int p1), .val (.int p2), .val (.int (6 : Int32)), .val (.ref s_COMMITTED_IN_ONE_PHASE), .val (.int (0 : Int32)), .val (.int (0 : Int32)), .unset, .unset] [(.ref s_HEURISTIC_COMMIT), (.ref s_TxnStatus_COMMITTED)])) _
    refine Jvm.RoadKit.acmp (g := (mkF m 54 #[.val (.int p1), .val (.int p2), .val (.int (6 : Int32)), .val (.ref s_COMMITTED_IN_ONE_PHASE), .val (.int (0 : Int32)), .val (.int (0 : Int32)), .unset, .unset] [(.ref s_HEURISTIC_COMMIT), (.ref s_TxnStatus_COMMITTED)])) X5 hx rfl rfl rfl (pc0 := 54) (pc' := 57) (same := false) rfl (hb hby at_54) rfl (decide_eq_false fun q => (Fld.ne O_TxnStatus_COMMITTED O_HEURISTIC_COMMIT (fun q => absurd (Value.int.inj q) (by decide))) (Value.ref.inj q)) (by decide) (by decide) ?_
    show Steps p.tables e below (T5.setTop (mkF m 57 #[.val (.int p1), .val (.int p2), .val (.int (6 : Int32)), .val (.ref s_COMMITTED_IN_ONE_PHASE), .val (.int (0 : Int32)), .val (.int (0 : Int32)), .unset, .unset] [])) _
    refine XS.aloadN X5.here hx rfl (hb hby at_57) rfl rfl ?_
    show Steps p.tables e below (T5.setTop (mkF m 58 #[.val (.int p1), .val (.int p2), .val (.int (6 : Int32)), .val (.ref s_COMMITTED_IN_ONE_PHASE), .val (.int (0 : Int32)), .val (.int (0 : Int32)), .unset, .unset] [(.ref s_COMMITTED_IN_ONE_PHASE)])) _
    refine st6 _ ?_
    show Steps p.tables e below (T6.setTop (mkF m 61 #[.val (.int p1), .val (.int p2), .val (.int (6 : Int32)), .val (.ref s_COMMITTED_IN_ONE_PHASE), .val (.int (0 : Int32)), .val (.int (0 : Int32)), .unset, .unset] [(.ref s_TxnStatus_COMMITTED)])) _
    refine st7 _ ?_
    show Steps p.tables e below (T7.setTop (mkF m 64 #[.val (.int p1), .val (.int p2), .val (.int (6 : Int32)), .val (.ref s_COMMITTED_IN_ONE_PHASE), .val (.int (0 : Int32)), .val (.int (0 : Int32)), .unset, .unset] [(.ref s_HEURISTIC_ABORT), (.ref s_TxnStatus_COMMITTED)])) _
    refine Jvm.RoadKit.acmp (g := (mkF m 64 #[.val (.int p1), .val (.int p2), .val (.int (6 : Int32)), .val (.ref s_COMMITTED_IN_ONE_PHASE), .val (.int (0 : Int32)), .val (.int (0 : Int32)), .unset, .unset] [(.ref s_HEURISTIC_ABORT), (.ref s_TxnStatus_COMMITTED)])) X7 hx rfl rfl rfl (pc0 := 64) (pc' := 71) (same := false) rfl (hb hby at_64) rfl (decide_eq_false fun q => (Fld.ne O_TxnStatus_COMMITTED O_HEURISTIC_ABORT (fun q => absurd (Value.int.inj q) (by decide))) (Value.ref.inj q)) (by decide) (by decide) ?_
    show Steps p.tables e below (T7.setTop (mkF m 71 #[.val (.int p1), .val (.int p2), .val (.int (6 : Int32)), .val (.ref s_COMMITTED_IN_ONE_PHASE), .val (.int (0 : Int32)), .val (.int (0 : Int32)), .unset, .unset] [])) _
    refine XS.iconst X7.here hx rfl (hb hby at_71) ?_
    show Steps p.tables e below (T7.setTop (mkF m 72 #[.val (.int p1), .val (.int p2), .val (.int (6 : Int32)), .val (.ref s_COMMITTED_IN_ONE_PHASE), .val (.int (0 : Int32)), .val (.int (0 : Int32)), .unset, .unset] [(.int (0 : Int32))])) _
    refine XS.istore X7.here hx rfl (hb hby at_72) rfl (l' := #[.val (.int p1), .val (.int p2), .val (.int (6 : Int32)), .val (.ref s_COMMITTED_IN_ONE_PHASE), .val (.int (0 : Int32)), .val (.int (0 : Int32)), .val (.int (0 : Int32)), .unset]) rfl ?_
    show Steps p.tables e below (T7.setTop (mkF m 74 #[.val (.int p1), .val (.int p2), .val (.int (6 : Int32)), .val (.ref s_COMMITTED_IN_ONE_PHASE), .val (.int (0 : Int32)), .val (.int (0 : Int32)), .val (.int (0 : Int32)), .unset] [])) _
    refine XS.iload X7.here hx rfl (hb hby at_74) rfl ?_
    show Steps p.tables e below (T7.setTop (mkF m 76 #[.val (.int p1), .val (.int p2), .val (.int (6 : Int32)), .val (.ref s_COMMITTED_IN_ONE_PHASE), .val (.int (0 : Int32)), .val (.int (0 : Int32)), .val (.int (0 : Int32)), .unset] [(.int (0 : Int32))])) _
    refine XS.iload X7.here hx rfl (hb hby at_76) rfl ?_
    show Steps p.tables e below (T7.setTop (mkF m 78 #[.val (.int p1), .val (.int p2), .val (.int (6 : Int32)), .val (.ref s_COMMITTED_IN_ONE_PHASE), .val (.int (0 : Int32)), .val (.int (0 : Int32)), .val (.int (0 : Int32)), .unset] [(.int (0 : Int32)), (.int (0 : Int32))])) _
    refine XS.icmpYes X7.here hx rfl (pc0 := 78) (pc' := 83) rfl (hb hby at_78) rfl (teq (by decide : (0 : Int32) = (0 : Int32))).1 (by decide) (by decide) ?_
    show Steps p.tables e below (T7.setTop (mkF m 83 #[.val (.int p1), .val (.int p2), .val (.int (6 : Int32)), .val (.ref s_COMMITTED_IN_ONE_PHASE), .val (.int (0 : Int32)), .val (.int (0 : Int32)), .val (.int (0 : Int32)), .unset] [])) _
    refine XS.iload X7.here hx rfl (hb hby at_83) rfl ?_
    show Steps p.tables e below (T7.setTop (mkF m 85 #[.val (.int p1), .val (.int p2), .val (.int (6 : Int32)), .val (.ref s_COMMITTED_IN_ONE_PHASE), .val (.int (0 : Int32)), .val (.int (0 : Int32)), .val (.int (0 : Int32)), .unset] [(.int (0 : Int32))])) _
    refine XS.ifYes X7.here hx rfl (pc0 := 85) (pc' := 119) rfl (hb hby at_85) rfl ((if0 _ _).trans (teq (by decide : (0 : Int32) = (0 : Int32))).1) (by decide) (by decide) ?_
    show Steps p.tables e below (T7.setTop (mkF m 119 #[.val (.int p1), .val (.int p2), .val (.int (6 : Int32)), .val (.ref s_COMMITTED_IN_ONE_PHASE), .val (.int (0 : Int32)), .val (.int (0 : Int32)), .val (.int (0 : Int32)), .unset] [])) _
    refine XS.iconst X7.here hx rfl (hb hby at_119) ?_
    show Steps p.tables e below (T7.setTop (mkF m 120 #[.val (.int p1), .val (.int p2), .val (.int (6 : Int32)), .val (.ref s_COMMITTED_IN_ONE_PHASE), .val (.int (0 : Int32)), .val (.int (0 : Int32)), .val (.int (0 : Int32)), .unset] [(.int (1 : Int32))])) _
    exact retN X7 hx (t := .boolean) Bd.returns (by simp) (hb hby at_120) hr
  · show own_Q (some (.int (1 : Int32))) h0 n0 _ T7.heap _
    rw [e7]
    exact ⟨rfl, N3, rfl⟩
theorem d1_63 : decode method_2_code 63 = .ok (.iload_n 0, 1) := by decide +kernel
theorem d1_64 : decode method_2_code 64 = .ok (.bipush 7, 2) := by decide +kernel
theorem d1_66 : decode method_2_code 66 = .ok (.if_icmp .ne 7, 3) := by decide +kernel
theorem d1_69 : decode method_2_code 69 = .ok (.getstatic 31, 3) := by decide +kernel
theorem d1_72 : decode method_2_code 72 = .ok (.areturn, 1) := by decide +kernel
set_option maxRecDepth 65536 in
set_option maxHeartbeats 40000000 in
theorem r_pick_7 (l : Launch) (Z : State) (a0 : Array Value) (hw : ∀ d ∈ tables_1, d.before a0 Z = true) (ws : List Jvm.Cond) (s_PREPARED s_IN_DOUBT s_Outcome_COMMITTED s_HEURISTICALLY_ABORTED s_HEURISTICALLY_COMMITTED s_Joined_State_COMMITTED s_HEURISTIC_ABORT s_HEURISTIC_COMMIT s_COMMITTED_AGAINST_HEURISTIC s_HEURISTIC_MISMATCH s_COMMITTED_IN_ONE_PHASE s_TxnStatus_COMMITTED s_ABORTED_AGAINST_HEURISTIC s_Outcome_ABORTED s_PRE_ABORTED s_PRE_COMMITTED s_Joined_State_ABORTED s_TxnStatus_ABORTED : Addr) (h0 : Heap) (n0 : Nat) (Z0 : n0 ≤ h0.size) (G : own_Ctx Z h0 s_PREPARED s_IN_DOUBT s_Outcome_COMMITTED s_HEURISTICALLY_ABORTED s_HEURISTICALLY_COMMITTED s_Joined_State_COMMITTED s_HEURISTIC_ABORT s_HEURISTIC_COMMIT s_COMMITTED_AGAINST_HEURISTIC s_HEURISTIC_MISMATCH s_COMMITTED_IN_ONE_PHASE s_TxnStatus_COMMITTED s_ABORTED_AGAINST_HEURISTIC s_Outcome_ABORTED s_PRE_ABORTED s_PRE_COMMITTED s_Joined_State_ABORTED s_TxnStatus_ABORTED)   :
    MetFree l (⟨"com/example/unanimity/unanimity/core/StateAwaitsDecisionPinLaw", "pick", "(I)Lcom/example/unanimity/unanimity/core/Joined$State;"⟩ : MethodName) (head1 (Jvm.Cond.code (⟨"com/example/unanimity/unanimity/core/StateAwaitsDecisionPinLaw", "pick", "(I)Lcom/example/unanimity/unanimity/core/Joined$State;"⟩ : MethodName) method_2_code 1 (some (.object "com/example/unanimity/unanimity/core/Joined$State")) :: ws) ({ frames := 0, cells := 0, slots := 0, locals := 0 } : Room)) (fun a U => a = #[(.int (7 : Int32))] ∧ Z.Warmed39 U.vm ∧ U.heap = h0) (fun _ _ _ _ _ => True) (fun _ U o U' => ∃ v L, o = .returned v ∧ own_Q (some (.ref s_Joined_State_ABORTED)) h0 n0 v U'.heap L ∧ FrameEnd U o U' L ({ frames := 0, cells := 0, slots := 0, locals := 0 } : Room).cells ({ frames := 0, cells := 0, slots := 0, locals := 0 } : Room).slots) := by
  have G0 := G
  obtain ⟨S_PREPARED, E_PREPARED, O_PREPARED, S_IN_DOUBT, E_IN_DOUBT, O_IN_DOUBT, S_Outcome_COMMITTED, E_Outcome_COMMITTED, O_Outcome_COMMITTED, S_HEURISTICALLY_ABORTED, E_HEURISTICALLY_ABORTED, O_HEURISTICALLY_ABORTED, S_HEURISTICALLY_COMMITTED, E_HEURISTICALLY_COMMITTED, O_HEURISTICALLY_COMMITTED, S_Joined_State_COMMITTED, E_Joined_State_COMMITTED, S_HEURISTIC_ABORT, E_HEURISTIC_ABORT, O_HEURISTIC_ABORT, S_HEURISTIC_COMMIT, E_HEURISTIC_COMMIT, O_HEURISTIC_COMMIT, S_COMMITTED_AGAINST_HEURISTIC, E_COMMITTED_AGAINST_HEURISTIC, S_HEURISTIC_MISMATCH, E_HEURISTIC_MISMATCH, O_HEURISTIC_MISMATCH, S_COMMITTED_IN_ONE_PHASE, E_COMMITTED_IN_ONE_PHASE, S_TxnStatus_COMMITTED, E_TxnStatus_COMMITTED, O_TxnStatus_COMMITTED, S_ABORTED_AGAINST_HEURISTIC, E_ABORTED_AGAINST_HEURISTIC, S_Outcome_ABORTED, E_Outcome_ABORTED, O_Outcome_ABORTED, S_PRE_ABORTED, E_PRE_ABORTED, O_PRE_ABORTED, S_PRE_COMMITTED, E_PRE_COMMITTED, O_PRE_COMMITTED, S_Joined_State_ABORTED, E_Joined_State_ABORTED, S_TxnStatus_ABORTED, E_TxnStatus_ABORTED, O_TxnStatus_ABORTED, F_decision_PREPARED, F_status_PREPARED, F_decision_Joined_State_COMMITTED, F_decision_HEURISTICALLY_ABORTED, F_status_HEURISTICALLY_ABORTED, F_decision_COMMITTED_AGAINST_HEURISTIC, F_status_COMMITTED_AGAINST_HEURISTIC, F_decision_COMMITTED_IN_ONE_PHASE, F_status_COMMITTED_IN_ONE_PHASE, F_decision_ABORTED_AGAINST_HEURISTIC, F_status_ABORTED_AGAINST_HEURISTIC, F_decision_PRE_ABORTED, F_status_PRE_ABORTED, F_decision_HEURISTICALLY_COMMITTED, F_status_HEURISTICALLY_COMMITTED, F_decision_PRE_COMMITTED, F_status_PRE_COMMITTED, F_decision_Joined_State_ABORTED, F_status_Joined_State_COMMITTED, F_status_Joined_State_ABORTED⟩ := G
  refine MetFree.of_bodySF (plainFor_of_name pn_1) hisR ?_
  intro p e s m args below meth c s₁ Bd hml0 hP hK
  obtain ⟨rfl, hZ, hh⟩ := hP
  have hx := Bd.exec
  have hby := Bd.bytes
  have hml : c.maxLocals = 1 := hml0
  have hown : s.vm.findClass "com/example/unanimity/unanimity/core/StateAwaitsDecisionPinLaw" = some m.cls := findClass_of_methodNamed Bd.named
  have hnm := (name_of_methodNamed Bd.named Bd.method).1
  have X0 : Stand p l e ({ frames := 0, cells := 0, slots := 0, locals := 0 } : Room) s m #[(.int (7 : Int32))] below meth c s₁ [] 0 0 := Stand.of_body Bd
  have e0 : s₁.heap = h0 := by rw [← hh, Bd.state]; rfl
  have N0 := Fr.nil n0
  have pre0 : ∀ t, Steps p.tables e below (s₁.setTop (mkF m 0 #[.val (.int (7 : Int32))] [])) t → Steps p.tables e below (s₁.setTop (entryFrame m #[(.int (7 : Int32))] 1)) t := fun t k => castTop (ef_1_4 m (7 : Int32)) k
  obtain ⟨T1, X1, e1, st1⟩ := getS2 X0 hx hZ hown (host := "") (Or.inl (hw _ (List.mem_of_getElem? (i := 69) rfl))) Via.refl e0 S_Joined_State_ABORTED (g := (mkF m 69 #[.val (.int (7 : Int32))] [])) rfl (hb hby d1_69)
  obtain ⟨fs, hr, hrun, hended, hW, hsame⟩ := X1.leave (v := some (.ref s_Joined_State_ABORTED)) (fun h => by rw [Bd.returns] at h; cases h)
  refine ⟨_, _, pre0 _ ?_, hrun, hended, _, _, rfl, ?_, ⟨_, rfl⟩, hW, hsame.mono (by decide) (by decide)⟩
  · show Steps p.tables e below (s₁.setTop (mkF m 0 #[.val (.int (7 : Int32))] [])) _
    refine XS.iloadN X0.here hx rfl (hb hby d1_0) rfl ?_
    show Steps p.tables e below (s₁.setTop (mkF m 1 #[.val (.int (7 : Int32))] [(.int (7 : Int32))])) _
    refine XS.ifYes X0.here hx rfl (pc0 := 1) (pc' := 8) rfl (hb hby d1_1) rfl ((if0 _ _).trans (feq (by decide : ¬ ((7 : Int32) = (0 : Int32)))).2) (by decide) (by decide) ?_
    show Steps p.tables e below (s₁.setTop (mkF m 8 #[.val (.int (7 : Int32))] [])) _
    refine XS.iloadN X0.here hx rfl (hb hby d1_8) rfl ?_
    show Steps p.tables e below (s₁.setTop (mkF m 9 #[.val (.int (7 : Int32))] [(.int (7 : Int32))])) _
    refine XS.iconst X0.here hx rfl (hb hby d1_9) ?_
    show Steps p.tables e below (s₁.setTop (mkF m 10 #[.val (.int (7 : Int32))] [(.int (1 : Int32)), (.int (7 : Int32))])) _
    refine XS.icmpYes X0.here hx rfl (pc0 := 10) (pc' := 17) rfl (hb hby d1_10) rfl (feq (by decide : ¬ ((7 : Int32) = (1 : Int32)))).2 (by decide) (by decide) ?_
    show Steps p.tables e below (s₁.setTop (mkF m 17 #[.val (.int (7 : Int32))] [])) _
    refine XS.iloadN X0.here hx rfl (hb hby d1_17) rfl ?_
    show Steps p.tables e below (s₁.setTop (mkF m 18 #[.val (.int (7 : Int32))] [(.int (7 : Int32))])) _
    refine XS.iconst X0.here hx rfl (hb hby d1_18) ?_
    show Steps p.tables e below (s₁.setTop (mkF m 19 #[.val (.int (7 : Int32))] [(.int (2 : Int32)), (.int (7 : Int32))])) _
    refine XS.icmpYes X0.here hx rfl (pc0 := 19) (pc' := 26) rfl (hb hby d1_19) rfl (feq (by decide : ¬ ((7 : Int32) = (2 : Int32)))).2 (by decide) (by decide) ?_
    show Steps p.tables e below (s₁.setTop (mkF m 26 #[.val (.int (7 : Int32))] [])) _
    refine XS.iloadN X0.here hx rfl (hb hby d1_26) rfl ?_
    show Steps p.tables e below (s₁.setTop (mkF m 27 #[.val (.int (7 : Int32))] [(.int (7 : Int32))])) _
    refine XS.iconst X0.here hx rfl (hb hby d1_27) ?_
    show Steps p.tables e below (s₁.setTop (mkF m 28 #[.val (.int (7 : Int32))] [(.int (3 : Int32)), (.int (7 : Int32))])) _
    refine XS.icmpYes X0.here hx rfl (pc0 := 28) (pc' := 35) rfl (hb hby d1_28) rfl (feq (by decide : ¬ ((7 : Int32) = (3 : Int32)))).2 (by decide) (by decide) ?_
    show Steps p.tables e below (s₁.setTop (mkF m 35 #[.val (.int (7 : Int32))] [])) _
    refine XS.iloadN X0.here hx rfl (hb hby d1_35) rfl ?_
    show Steps p.tables e below (s₁.setTop (mkF m 36 #[.val (.int (7 : Int32))] [(.int (7 : Int32))])) _
    refine XS.iconst X0.here hx rfl (hb hby d1_36) ?_
    show Steps p.tables e below (s₁.setTop (mkF m 37 #[.val (.int (7 : Int32))] [(.int (4 : Int32)), (.int (7 : Int32))])) _
    refine XS.icmpYes X0.here hx rfl (pc0 := 37) (pc' := 44) rfl (hb hby d1_37) rfl (feq (by decide : ¬ ((7 : Int32) = (4 : Int32)))).2 (by decide) (by decide) ?_
    show Steps p.tables e below (s₁.setTop (mkF m 44 #[.val (.int (7 : Int32))] [])) _
    refine XS.iloadN X0.here hx rfl (hb hby d1_44) rfl ?_
    show Steps p.tables e below (s₁.setTop (mkF m 45 #[.val (.int (7 : Int32))] [(.int (7 : Int32))])) _
    refine XS.iconst X0.here hx rfl (hb hby d1_45) ?_
    show Steps p.tables e below (s₁.setTop (mkF m 46 #[.val (.int (7 : Int32))] [(.int (5 : Int32)), (.int (7 : Int32))])) _
    refine XS.icmpYes X0.here hx rfl (pc0 := 46) (pc' := 53) rfl (hb hby d1_46) rfl (feq (by decide : ¬ ((7 : Int32) = (5 : Int32)))).2 (by decide) (by decide) ?_
    show Steps p.tables e below (s₁.setTop (mkF m 53 #[.val (.int (7 : Int32))] [])) _
    refine XS.iloadN X0.here hx rfl (hb hby d1_53) rfl ?_
    show Steps p.tables e below (s₁.setTop (mkF m 54 #[.val (.int (7 : Int32))] [(.int (7 : Int32))])) _
    refine XS.bipush X0.here hx rfl (hb hby d1_54) ?_
    show Steps p.tables e below (s₁.setTop (mkF m 56 #[.val (.int (7 : Int32))] [(.int (6 : Int32)), (.int (7 : Int32))])) _
    refine XS.icmpYes X0.here hx rfl (pc0 := 56) (pc' := 63) rfl (hb hby d1_56) rfl (feq (by decide : ¬ ((7 : Int32) = (6 : Int32)))).2 (by decide) (by decide) ?_
    show Steps p.tables e below (s₁.setTop (mkF m 63 #[.val (.int (7 : Int32))] [])) _
    refine XS.iloadN X0.here hx rfl (hb hby d1_63) rfl ?_
    show Steps p.tables e below (s₁.setTop (mkF m 64 #[.val (.int (7 : Int32))] [(.int (7 : Int32))])) _
    refine XS.bipush X0.here hx rfl (hb hby d1_64) ?_
    show Steps p.tables e below (s₁.setTop (mkF m 66 #[.val (.int (7 : Int32))] [(.int (7 : Int32)), (.int (7 : Int32))])) _
    refine XS.icmpNo X0.here hx rfl (hb hby d1_66) rfl (teq (by decide : (7 : Int32) = (7 : Int32))).2 ?_
    show Steps p.tables e below (s₁.setTop (mkF m 69 #[.val (.int (7 : Int32))] [])) _
    refine st1 _ ?_
    show Steps p.tables e below (T1.setTop (mkF m 72 #[.val (.int (7 : Int32))] [(.ref s_Joined_State_ABORTED)])) _
    exact retOut X1 hx Bd.returns rfl (Or.inr (Or.inr (Or.inr (Or.inr ⟨rfl, rfl, rfl⟩)))) (hb hby d1_72) hr
  · show own_Q (some (.ref s_Joined_State_ABORTED)) h0 n0 _ T1.heap _
    rw [e1]
    exact ⟨rfl, N0, rfl⟩
set_option maxRecDepth 65536 in
set_option maxHeartbeats 40000000 in
theorem r_law_7 (l : Launch) (Z : State) (a0 : Array Value) (hw : ∀ d ∈ tables_1, d.before a0 Z = true) (ws : List Jvm.Cond) (s_PREPARED s_IN_DOUBT s_Outcome_COMMITTED s_HEURISTICALLY_ABORTED s_HEURISTICALLY_COMMITTED s_Joined_State_COMMITTED s_HEURISTIC_ABORT s_HEURISTIC_COMMIT s_COMMITTED_AGAINST_HEURISTIC s_HEURISTIC_MISMATCH s_COMMITTED_IN_ONE_PHASE s_TxnStatus_COMMITTED s_ABORTED_AGAINST_HEURISTIC s_Outcome_ABORTED s_PRE_ABORTED s_PRE_COMMITTED s_Joined_State_ABORTED s_TxnStatus_ABORTED : Addr) (h0 : Heap) (n0 : Nat) (Z0 : n0 ≤ h0.size) (G : own_Ctx Z h0 s_PREPARED s_IN_DOUBT s_Outcome_COMMITTED s_HEURISTICALLY_ABORTED s_HEURISTICALLY_COMMITTED s_Joined_State_COMMITTED s_HEURISTIC_ABORT s_HEURISTIC_COMMIT s_COMMITTED_AGAINST_HEURISTIC s_HEURISTIC_MISMATCH s_COMMITTED_IN_ONE_PHASE s_TxnStatus_COMMITTED s_ABORTED_AGAINST_HEURISTIC s_Outcome_ABORTED s_PRE_ABORTED s_PRE_COMMITTED s_Joined_State_ABORTED s_TxnStatus_ABORTED) (p1 p2 : Int32) (hk : (p1 &&& (2147483647 : Int32)) % (10 : Int32) = (7 : Int32)) :
    MetFree l x (head1 (Jvm.Cond.code x code maxLocals ret :: ws) room_1) (fun a U => a = #[(.int p1), (.int p2)] ∧ Z.Warmed39 U.vm ∧ U.heap = h0) (fun _ _ _ _ _ => True) (fun _ U o U' => ∃ v L, o = .returned v ∧ own_Q (some (.int (1 : Int32))) h0 n0 v U'.heap L ∧ FrameEnd U o U' L 0 0) := by
  have G0 := G
  obtain ⟨S_PREPARED, E_PREPARED, O_PREPARED, S_IN_DOUBT, E_IN_DOUBT, O_IN_DOUBT, S_Outcome_COMMITTED, E_Outcome_COMMITTED, O_Outcome_COMMITTED, S_HEURISTICALLY_ABORTED, E_HEURISTICALLY_ABORTED, O_HEURISTICALLY_ABORTED, S_HEURISTICALLY_COMMITTED, E_HEURISTICALLY_COMMITTED, O_HEURISTICALLY_COMMITTED, S_Joined_State_COMMITTED, E_Joined_State_COMMITTED, S_HEURISTIC_ABORT, E_HEURISTIC_ABORT, O_HEURISTIC_ABORT, S_HEURISTIC_COMMIT, E_HEURISTIC_COMMIT, O_HEURISTIC_COMMIT, S_COMMITTED_AGAINST_HEURISTIC, E_COMMITTED_AGAINST_HEURISTIC, S_HEURISTIC_MISMATCH, E_HEURISTIC_MISMATCH, O_HEURISTIC_MISMATCH, S_COMMITTED_IN_ONE_PHASE, E_COMMITTED_IN_ONE_PHASE, S_TxnStatus_COMMITTED, E_TxnStatus_COMMITTED, O_TxnStatus_COMMITTED, S_ABORTED_AGAINST_HEURISTIC, E_ABORTED_AGAINST_HEURISTIC, S_Outcome_ABORTED, E_Outcome_ABORTED, O_Outcome_ABORTED, S_PRE_ABORTED, E_PRE_ABORTED, O_PRE_ABORTED, S_PRE_COMMITTED, E_PRE_COMMITTED, O_PRE_COMMITTED, S_Joined_State_ABORTED, E_Joined_State_ABORTED, S_TxnStatus_ABORTED, E_TxnStatus_ABORTED, O_TxnStatus_ABORTED, F_decision_PREPARED, F_status_PREPARED, F_decision_Joined_State_COMMITTED, F_decision_HEURISTICALLY_ABORTED, F_status_HEURISTICALLY_ABORTED, F_decision_COMMITTED_AGAINST_HEURISTIC, F_status_COMMITTED_AGAINST_HEURISTIC, F_decision_COMMITTED_IN_ONE_PHASE, F_status_COMMITTED_IN_ONE_PHASE, F_decision_ABORTED_AGAINST_HEURISTIC, F_status_ABORTED_AGAINST_HEURISTIC, F_decision_PRE_ABORTED, F_status_PRE_ABORTED, F_decision_HEURISTICALLY_COMMITTED, F_status_HEURISTICALLY_COMMITTED, F_decision_PRE_COMMITTED, F_status_PRE_COMMITTED, F_decision_Joined_State_ABORTED, F_status_Joined_State_COMMITTED, F_status_Joined_State_ABORTED⟩ := G
  refine MetFree.of_bodySF (plainFor_of_name pn_1) hisR ?_
  intro p e s m args below meth c s₁ Bd hml0 hP hK
  obtain ⟨rfl, hZ, hh⟩ := hP
  have hx := Bd.exec
  have hby := Bd.bytes
  have hml : c.maxLocals = 8 := hml0
  have hown : s.vm.findClass "com/example/unanimity/unanimity/core/StateAwaitsDecisionPinLaw" = some m.cls := findClass_of_methodNamed Bd.named
  have hnm := (name_of_methodNamed Bd.named Bd.method).1
  have X0 : Stand p l e room_1 s m #[(.int p1), (.int p2)] below meth c s₁ [] 0 0 := Stand.of_body Bd
  have e0 : s₁.heap = h0 := by rw [← hh, Bd.state]; rfl
  have N0 := Fr.nil n0
  have pre0 : ∀ t, Steps p.tables e below (s₁.setTop (mkF m 0 #[.val (.int p1), .val (.int p2), .unset, .unset, .unset, .unset, .unset, .unset] [])) t → Steps p.tables e below (s₁.setTop (entryFrame m #[(.int p1), (.int p2)] maxLocals)) t := fun t k => castTop (ef_0_5 m p1 p2) k
  obtain ⟨_, _, ⟨T1, L1, k1, n1⟩, -, X1, ⟨Lc1, hQ1, l1, y1, z1⟩, st1⟩ := Jvm.LawKit.callS X0 hx (y := (⟨"com/example/unanimity/unanimity/core/StateAwaitsDecisionPinLaw", "pick", "(I)Lcom/example/unanimity/unanimity/core/Joined$State;"⟩ : MethodName)) hown (mvT hZ (hw _ (List.mem_of_getElem? (i := 1) rfl))) (mvT hZ (hw _ (List.mem_of_getElem? (i := 2) rfl))) (mvT hZ (hw _ (List.mem_of_getElem? (i := 3) rfl))) (mvT hZ (hw _ (List.mem_of_getElem? (i := 4) rfl))) (by decide) (backOf (W := 0) (r_pick_7 l Z a0 hw [] s_PREPARED s_IN_DOUBT s_Outcome_COMMITTED s_HEURISTICALLY_ABORTED s_HEURISTICALLY_COMMITTED s_Joined_State_COMMITTED s_HEURISTIC_ABORT s_HEURISTIC_COMMIT s_COMMITTED_AGAINST_HEURISTIC s_HEURISTIC_MISMATCH s_COMMITTED_IN_ONE_PHASE s_TxnStatus_COMMITTED s_ABORTED_AGAINST_HEURISTIC s_Outcome_ABORTED s_PRE_ABORTED s_PRE_COMMITTED s_Joined_State_ABORTED s_TxnStatus_ABORTED h0 n0 Z0 G0) hZ (hw _ (List.mem_of_getElem? (i := 4) rfl)) (hw _ (List.mem_of_getElem? (i := 3) rfl)) (by decide) (by decide)) (g := (mkF m 9 #[.val (.int p1), .val (.int p2), .val (.int (7 : Int32)), .unset, .unset, .unset, .unset, .unset] [(.int (7 : Int32))])) rfl (by rw [hml]; rfl) (argsL := [(.int (7 : Int32))]) (rest := []) (lenOf pd_1 rfl) rfl (by show 2 * 0 + _ ≤ _; exact Nat.le_of_eq rfl) (hb hby at_9) (fun _ _ => ⟨rfl, e0, (by decide : 0 + 0 ≤ _), (by decide : 0 + 0 ≤ _)⟩)
  dsimp only [Pt.U, Pt.locs, Pt.cells, Pt.slots] at X1 l1 y1 z1 st1 hQ1
  subst l1 y1 z1
  obtain ⟨rfl, N1q, e1⟩ := hQ1
  have N1 := Fr.app N0 N1q
  obtain ⟨cq2, kq2, q2a, q2b, q2c⟩ := isOf hZ e1 E_Joined_State_ABORTED
  obtain ⟨_, _, ⟨T2, L2, k2, n2⟩, -, X2, ⟨Lc2, hQ2, l2, y2, z2⟩, st2⟩ := X1.virtualBack hx (y := (⟨"com/example/unanimity/unanimity/core/Joined$State", "awaitsDecision", "()Z"⟩ : MethodName)) (z := (⟨"com/example/unanimity/unanimity/core/Joined$State", "awaitsDecision", "()Z"⟩ : MethodName)) hown (mvT hZ (hw _ (List.mem_of_getElem? (i := 8) rfl))) (mvT hZ (hw _ (List.mem_of_getElem? (i := 9) rfl))) (notFace_of_selects (args := #[]) (mvT hZ (hw _ (List.mem_of_getElem? (i := 11) rfl)))) (mvT hZ (hw _ (List.mem_of_getElem? (i := 11) rfl))) (mvT hZ (hw _ (List.mem_of_getElem? (i := 10) rfl))) (by decide) (backOf (W := 0) (r_aw_7 l Z a0 hw [] s_PREPARED s_IN_DOUBT s_Outcome_COMMITTED s_HEURISTICALLY_ABORTED s_HEURISTICALLY_COMMITTED s_Joined_State_COMMITTED s_HEURISTIC_ABORT s_HEURISTIC_COMMIT s_COMMITTED_AGAINST_HEURISTIC s_HEURISTIC_MISMATCH s_COMMITTED_IN_ONE_PHASE s_TxnStatus_COMMITTED s_ABORTED_AGAINST_HEURISTIC s_Outcome_ABORTED s_PRE_ABORTED s_PRE_COMMITTED s_Joined_State_ABORTED s_TxnStatus_ABORTED h0 n0 Z0 G0) hZ (hw _ (List.mem_of_getElem? (i := 12) rfl)) (hw _ (List.mem_of_getElem? (i := 6) rfl)) (by decide) (by decide)) q2a q2c (g := (mkF m 26 #[.val (.int p1), .val (.int p2), .val (.int (7 : Int32)), .val (.ref s_Joined_State_ABORTED), .val (.int (0 : Int32)), .unset, .unset, .unset] [(.ref s_Joined_State_ABORTED)])) rfl (by rw [hml]; rfl) (Steps.refl _) (argsL := []) (rest := []) (lenOf pd_2 rfl) rfl (by show 2 * 0 + _ ≤ _; exact Nat.le_of_eq rfl) (hb hby at_26) (fun _ _ => ⟨rfl, e1, (by decide : 0 + 0 ≤ _), (by decide : 0 + 0 ≤ _)⟩)
  dsimp only [Pt.U, Pt.locs, Pt.cells, Pt.slots] at X2 l2 y2 z2 st2 hQ2
  subst l2 y2 z2
  obtain ⟨rfl, N2q, e2⟩ := hQ2
  have N2 := Fr.app N1 N2q
  obtain ⟨cq3, kq3, q3a, q3b, q3c⟩ := isOf hZ e2 E_Joined_State_ABORTED
  obtain ⟨_, _, ⟨T3, L3, k3, n3⟩, -, X3, ⟨Lc3, hQ3, l3, y3, z3⟩, st3⟩ := X2.virtualBack hx (y := (⟨"com/example/unanimity/unanimity/core/Joined$State", "inDoubt", "()Z"⟩ : MethodName)) (z := (⟨"com/example/unanimity/unanimity/core/Joined$State", "inDoubt", "()Z"⟩ : MethodName)) hown (mvT hZ (hw _ (List.mem_of_getElem? (i := 15) rfl))) (mvT hZ (hw _ (List.mem_of_getElem? (i := 16) rfl))) (notFace_of_selects (args := #[]) (mvT hZ (hw _ (List.mem_of_getElem? (i := 18) rfl)))) (mvT hZ (hw _ (List.mem_of_getElem? (i := 18) rfl))) (mvT hZ (hw _ (List.mem_of_getElem? (i := 17) rfl))) (by decide) (backOf (W := 0) (r_in_7 l Z a0 hw [] s_PREPARED s_IN_DOUBT s_Outcome_COMMITTED s_HEURISTICALLY_ABORTED s_HEURISTICALLY_COMMITTED s_Joined_State_COMMITTED s_HEURISTIC_ABORT s_HEURISTIC_COMMIT s_COMMITTED_AGAINST_HEURISTIC s_HEURISTIC_MISMATCH s_COMMITTED_IN_ONE_PHASE s_TxnStatus_COMMITTED s_ABORTED_AGAINST_HEURISTIC s_Outcome_ABORTED s_PRE_ABORTED s_PRE_COMMITTED s_Joined_State_ABORTED s_TxnStatus_ABORTED h0 n0 Z0 G0) hZ (hw _ (List.mem_of_getElem? (i := 19) rfl)) (hw _ (List.mem_of_getElem? (i := 6) rfl)) (by decide) (by decide)) q3a q3c (g := (mkF m 41 #[.val (.int p1), .val (.int p2), .val (.int (7 : Int32)), .val (.ref s_Joined_State_ABORTED), .val (.int (0 : Int32)), .val (.int (0 : Int32)), .unset, .unset] [(.ref s_Joined_State_ABORTED)])) rfl (by rw [hml]; rfl) (Steps.refl _) (argsL := []) (rest := []) (lenOf pd_2 rfl) rfl (by show 2 * 0 + _ ≤ _; exact Nat.le_of_eq rfl) (hb hby at_41) (fun _ _ => ⟨rfl, e2, (by decide : 0 + 0 ≤ _), (by decide : 0 + 0 ≤ _)⟩)
  dsimp only [Pt.U, Pt.locs, Pt.cells, Pt.slots] at X3 l3 y3 z3 st3 hQ3
  subst l3 y3 z3
  obtain ⟨rfl, N3q, e3⟩ := hQ3
  have N3 := Fr.app N2 N3q
  obtain ⟨T4, X4, e4, st4⟩ := getF X3 hx hZ hown (host := "") (Or.inl (hw _ (List.mem_of_getElem? (i := 45) rfl))) Via.refl e3 F_status_Joined_State_ABORTED (g := (mkF m 48 #[.val (.int p1), .val (.int p2), .val (.int (7 : Int32)), .val (.ref s_Joined_State_ABORTED), .val (.int (0 : Int32)), .val (.int (0 : Int32)), .unset, .unset] [(.ref s_Joined_State_ABORTED)])) rfl rfl (hb hby at_48)
  obtain ⟨T5, X5, e5, st5⟩ := getS2 X4 hx hZ hown (host := "") (Or.inl (hw _ (List.mem_of_getElem? (i := 46) rfl))) Via.refl e4 S_HEURISTIC_COMMIT (g := (mkF m 51 #[.val (.int p1), .val (.int p2), .val (.int (7 : Int32)), .val (.ref s_Joined_State_ABORTED), .val (.int (0 : Int32)), .val (.int (0 : Int32)), .unset, .unset] [(.ref s_TxnStatus_ABORTED)])) rfl (hb hby at_51)
  obtain ⟨T6, X6, e6, st6⟩ := getF X5 hx hZ hown (host := "") (Or.inl (hw _ (List.mem_of_getElem? (i := 45) rfl))) Via.refl e5 F_status_Joined_State_ABORTED (g := (mkF m 58 #[.val (.int p1), .val (.int p2), .val (.int (7 : Int32)), .val (.ref s_Joined_State_ABORTED), .val (.int (0 : Int32)), .val (.int (0 : Int32)), .unset, .unset] [(.ref s_Joined_State_ABORTED)])) rfl rfl (hb hby at_58)
  obtain ⟨T7, X7, e7, st7⟩ := getS2 X6 hx hZ hown (host := "") (Or.inl (hw _ (List.mem_of_getElem? (i := 48) rfl))) Via.refl e6 S_HEURISTIC_ABORT (g := (mkF m 61 #[.val (.int p1), .val (.int p2), .val (.int (7 : Int32)), .val (.ref s_Joined_State_ABORTED), .val (.int (0 : Int32)), .val (.int (0 : Int32)), .unset, .unset] [(.ref s_TxnStatus_ABORTED)])) rfl (hb hby at_61)
  obtain ⟨fs, hr, hrun, hended, hW, hsame⟩ := X7.leave (v := some (.int (1 : Int32))) (fun h => by rw [Bd.returns] at h; cases h)
  refine ⟨_, _, pre0 _ ?_, hrun, hended, _, _, rfl, ?_, ⟨_, rfl⟩, hW, hsame.mono (by decide) (by decide)⟩
  · show Steps p.tables e below (s₁.setTop (mkF m 0 #[.val (.int p1), .val (.int p2), .unset, .unset, .unset, .unset, .unset, .unset] [])) _
    refine XS.iloadN X0.here hx rfl (hb hby at_0) rfl ?_
    show Steps p.tables e below (s₁.setTop (mkF m 1 #[.val (.int p1), .val (.int p2), .unset, .unset, .unset, .unset, .unset, .unset] [(.int p1)])) _
    refine X0.ldcInt hx hown (mvT hZ (hw _ (List.mem_of_getElem? (i := 0) rfl))) (g := (mkF m 1 #[.val (.int p1), .val (.int p2), .unset, .unset, .unset, .unset, .unset, .unset] [(.int p1)])) rfl (hb hby at_1) _ ?_
    show Steps p.tables e below (s₁.setTop (mkF m 3 #[.val (.int p1), .val (.int p2), .unset, .unset, .unset, .unset, .unset, .unset] [(.int (2147483647 : Int32)), (.int p1)])) _
    refine XS.iand X0.here hx rfl (hb hby at_3) rfl ?_
    show Steps p.tables e below (s₁.setTop (mkF m 4 #[.val (.int p1), .val (.int p2), .unset, .unset, .unset, .unset, .unset, .unset] [(.int (p1 &&& (2147483647 : Int32)))])) _
    refine XS.bipush X0.here hx rfl (hb hby at_4) ?_
    show Steps p.tables e below (s₁.setTop (mkF m 6 #[.val (.int p1), .val (.int p2), .unset, .unset, .unset, .unset, .unset, .unset] [(.int (10 : Int32)), (.int (p1 &&& (2147483647 : Int32)))])) _
    refine iremM X0 hx rfl (hb hby at_6) rfl (by decide) ?_
    show Steps p.tables e below (s₁.setTop (mkF m 7 #[.val (.int p1), .val (.int p2), .unset, .unset, .unset, .unset, .unset, .unset] [(.int ((p1 &&& (2147483647 : Int32)) % (10 : Int32)))])) _
    rw [hk]
    show Steps p.tables e below (s₁.setTop (mkF m 7 #[.val (.int p1), .val (.int p2), .unset, .unset, .unset, .unset, .unset, .unset] [(.int (7 : Int32))])) _
    refine XS.istoreN X0.here hx rfl (hb hby at_7) rfl (l' := #[.val (.int p1), .val (.int p2), .val (.int (7 : Int32)), .unset, .unset, .unset, .unset, .unset]) rfl ?_
    show Steps p.tables e below (s₁.setTop (mkF m 8 #[.val (.int p1), .val (.int p2), .val (.int (7 : Int32)), .unset, .unset, .unset, .unset, .unset] [])) _
    refine XS.iloadN X0.here hx rfl (hb hby at_8) rfl ?_
    show Steps p.tables e below (s₁.setTop (mkF m 9 #[.val (.int p1), .val (.int p2), .val (.int (7 : Int32)), .unset, .unset, .unset, .unset, .unset] [(.int (7 : Int32))])) _
    refine st1 _ ?_
    show Steps p.tables e below (T1.setTop (mkF m 12 #[.val (.int p1), .val (.int p2), .val (.int (7 : Int32)), .unset, .unset, .unset, .unset, .unset] [(.ref s_Joined_State_ABORTED)])) _
    refine XS.astoreN X1.here hx rfl (hb hby at_12) rfl rfl (l' := #[.val (.int p1), .val (.int p2), .val (.int (7 : Int32)), .val (.ref s_Joined_State_ABORTED), .unset, .unset, .unset, .unset]) rfl ?_
    show Steps p.tables e below (T1.setTop (mkF m 13 #[.val (.int p1), .val (.int p2), .val (.int (7 : Int32)), .val (.ref s_Joined_State_ABORTED), .unset, .unset, .unset, .unset] [])) _
    refine XS.iloadN X1.here hx rfl (hb hby at_13) rfl ?_
    show Steps p.tables e below (T1.setTop (mkF m 14 #[.val (.int p1), .val (.int p2), .val (.int (7 : Int32)), .val (.ref s_Joined_State_ABORTED), .unset, .unset, .unset, .unset] [(.int (7 : Int32))])) _
    refine XS.iconst X1.here hx rfl (hb hby at_14) ?_
    show Steps p.tables e below (T1.setTop (mkF m 15 #[.val (.int p1), .val (.int p2), .val (.int (7 : Int32)), .val (.ref s_Joined_State_ABORTED), .unset, .unset, .unset, .unset] [(.int (5 : Int32)), (.int (7 : Int32))])) _
    refine XS.icmpYes X1.here hx rfl (pc0 := 15) (pc' := 22) rfl (hb hby at_15) rfl (flt (by decide : ¬ ((7 : Int32) < (5 : Int32)))).2.1 (by decide) (by decide) ?_
    show Steps p.tables e below (T1.setTop (mkF m 22 #[.val (.int p1), .val (.int p2), .val (.int (7 : Int32)), .val (.ref s_Joined_State_ABORTED), .unset, .unset, .unset, .unset] [])) _
    refine XS.iconst X1.here hx rfl (hb hby at_22) ?_
    show Steps p.tables e below (T1.setTop (mkF m 23 #[.val (.int p1), .val (.int p2), .val (.int (7 : Int32)), .val (.ref s_Joined_State_ABORTED), .unset, .unset, .unset, .unset] [(.int (0 : Int32))])) _
    refine XS.istore X1.here hx rfl (hb hby at_23) rfl (l' := #[.val (.int p1), .val (.int p2), .val (.int (7 : Int32)), .val (.ref s_Joined_State_ABORTED), .val (.int (0 : Int32)), .unset, .unset, .unset]) rfl ?_
    show Steps p.tables e below (T1.setTop (mkF m 25 #[.val (.int p1), .val (.int p2), .val (.int (7 : Int32)), .val (.ref s_Joined_State_ABORTED), .val (.int (0 : Int32)), .unset, .unset, .unset] [])) _
    refine XS.aloadN X1.here hx rfl (hb hby at_25) rfl rfl ?_
    show Steps p.tables e below (T1.setTop (mkF m 26 #[.val (.int p1), .val (.int p2), .val (.int (7 : Int32)), .val (.ref s_Joined_State_ABORTED), .val (.int (0 : Int32)), .unset, .unset, .unset] [(.ref s_Joined_State_ABORTED)])) _
    refine st2.trans ?_
    show Steps p.tables e below (T2.setTop (mkF m 29 #[.val (.int p1), .val (.int p2), .val (.int (7 : Int32)), .val (.ref s_Joined_State_ABORTED), .val (.int (0 : Int32)), .unset, .unset, .unset] [(.int (0 : Int32))])) _
    refine XS.istore X2.here hx rfl (hb hby at_29) rfl (l' := #[.val (.int p1), .val (.int p2), .val (.int (7 : Int32)), .val (.ref s_Joined_State_ABORTED), .val (.int (0 : Int32)), .val (.int (0 : Int32)), .unset, .unset]) rfl ?_
    show Steps p.tables e below (T2.setTop (mkF m 31 #[.val (.int p1), .val (.int p2), .val (.int (7 : Int32)), .val (.ref s_Joined_State_ABORTED), .val (.int (0 : Int32)), .val (.int (0 : Int32)), .unset, .unset] [])) _
    refine XS.iload X2.here hx rfl (hb hby at_31) rfl ?_
    show Steps p.tables e below (T2.setTop (mkF m 33 #[.val (.int p1), .val (.int p2), .val (.int (7 : Int32)), .val (.ref s_Joined_State_ABORTED), .val (.int (0 : Int32)), .val (.int (0 : Int32)), .unset, .unset] [(.int (0 : Int32))])) _
    refine XS.iload X2.here hx rfl (hb hby at_33) rfl ?_
    show Steps p.tables e below (T2.setTop (mkF m 35 #[.val (.int p1), .val (.int p2), .val (.int (7 : Int32)), .val (.ref s_Joined_State_ABORTED), .val (.int (0 : Int32)), .val (.int (0 : Int32)), .unset, .unset] [(.int (0 : Int32)), (.int (0 : Int32))])) _
    refine XS.icmpYes X2.here hx rfl (pc0 := 35) (pc' := 40) rfl (hb hby at_35) rfl (teq (by decide : (0 : Int32) = (0 : Int32))).1 (by decide) (by decide) ?_
    show Steps p.tables e below (T2.setTop (mkF m 40 #[.val (.int p1), .val (.int p2), .val (.int (7 : Int32)), .val (.ref s_Joined_State_ABORTED), .val (.int (0 : Int32)), .val (.int (0 : Int32)), .unset, .unset] [])) _
    refine XS.aloadN X2.here hx rfl (hb hby at_40) rfl rfl ?_
    show Steps p.tables e below (T2.setTop (mkF m 41 #[.val (.int p1), .val (.int p2), .val (.int (7 : Int32)), .val (.ref s_Joined_State_ABORTED), .val (.int (0 : Int32)), .val (.int (0 : Int32)), .unset, .unset] [(.ref s_Joined_State_ABORTED)])) _
    refine st3.trans ?_
    show Steps p.tables e below (T3.setTop (mkF m 44 #[.val (.int p1), .val (.int p2), .val (.int (7 : Int32)), .val (.ref s_Joined_State_ABORTED), .val (.int (0 : Int32)), .val (.int (0 : Int32)), .unset, .unset] [(.int (0 : Int32))])) _
    refine XS.ifNo X3.here hx rfl (hb hby at_44) rfl ((if0 _ _).trans (teq (by decide : (0 : Int32) = (0 : Int32))).2) ?_
    show Steps p.tables e below (T3.setTop (mkF m 47 #[.val (.int p1), .val (.int p2), .val (.int (7 : Int32)), .val (.ref s_Joined_State_ABORTED), .val (.int (0 : Int32)), .val (.int (0 : Int32)), .unset, .unset] [])) _
    refine XS.aloadN X3.here hx rfl (hb hby at_47) rfl rfl ?_
    show Steps p.tables e below (T3.setTop (mkF m 48 #[.val (.int p1), .val (.int p2), .val (.int (7 : Int32)), .val (.ref s_Joined_State_ABORTED), .val (.int (0 : Int32)), .val (.int (0 : Int32)), .unset, .unset] [(.ref s_Joined_State_ABORTED)])) _
    refine st4 _ ?_
    show Steps p.tables e below (T4.setTop (mkF m 51 #[.val (.int p1), .val (.int p2), .val (.int (7 : Int32)), .val (.ref s_Joined_State_ABORTED), .val (.int (0 : Int32)), .val (.int (0 : Int32)), .unset, .unset] [(.ref s_TxnStatus_ABORTED)])) _
    refine st5 _ ?_
    show Steps p.tables e below (T5.setTop (mkF m 54 #[.val (.int p1), .val (.int p2), .val (.int (7 : Int32)), .val (.ref s_Joined_State_ABORTED), .val (.int (0 : Int32)), .val (.int (0 : Int32)), .unset, .unset] [(.ref s_HEURISTIC_COMMIT), (.ref s_TxnStatus_ABORTED)])) _
    refine Jvm.RoadKit.acmp (g := (mkF m 54 #[.val (.int p1), .val (.int p2), .val (.int (7 : Int32)), .val (.ref s_Joined_State_ABORTED), .val (.int (0 : Int32)), .val (.int (0 : Int32)), .unset, .unset] [(.ref s_HEURISTIC_COMMIT), (.ref s_TxnStatus_ABORTED)])) X5 hx rfl rfl rfl (pc0 := 54) (pc' := 57) (same := false) rfl (hb hby at_54) rfl (decide_eq_false fun q => (Fld.ne O_TxnStatus_ABORTED O_HEURISTIC_COMMIT (fun q => absurd (Value.int.inj q) (by decide))) (Value.ref.inj q)) (by decide) (by decide) ?_
    show Steps p.tables e below (T5.setTop (mkF m 57 #[.val (.int p1), .val (.int p2), .val (.int (7 : Int32)), .val (.ref s_Joined_State_ABORTED), .val (.int (0 : Int32)), .val (.int (0 : Int32)), .unset, .unset] [])) _
    refine XS.aloadN X5.here hx rfl (hb hby at_57) rfl rfl ?_
    show Steps p.tables e below (T5.setTop (mkF m 58 #[.val (.int p1), .val (.int p2), .val (.int (7 : Int32)), .val (.ref s_Joined_State_ABORTED), .val (.int (0 : Int32)), .val (.int (0 : Int32)), .unset, .unset] [(.ref s_Joined_State_ABORTED)])) _
    refine st6 _ ?_
    show Steps p.tables e below (T6.setTop (mkF m 61 #[.val (.int p1), .val (.int p2), .val (.int (7 : Int32)), .val (.ref s_Joined_State_ABORTED), .val (.int (0 : Int32)), .val (.int (0 : Int32)), .unset, .unset] [(.ref s_TxnStatus_ABORTED)])) _
    refine st7 _ ?_
    show Steps p.tables e below (T7.setTop (mkF m 64 #[.val (.int p1), .val (.int p2), .val (.int (7 : Int32)), .val (.ref s_Joined_State_ABORTED), .val (.int (0 : Int32)), .val (.int (0 : Int32)), .unset, .unset] [(.ref s_HEURISTIC_ABORT), (.ref s_TxnStatus_ABORTED)])) _
    refine Jvm.RoadKit.acmp (g := (mkF m 64 #[.val (.int p1), .val (.int p2), .val (.int (7 : Int32)), .val (.ref s_Joined_State_ABORTED), .val (.int (0 : Int32)), .val (.int (0 : Int32)), .unset, .unset] [(.ref s_HEURISTIC_ABORT), (.ref s_TxnStatus_ABORTED)])) X7 hx rfl rfl rfl (pc0 := 64) (pc' := 71) (same := false) rfl (hb hby at_64) rfl (decide_eq_false fun q => (Fld.ne O_TxnStatus_ABORTED O_HEURISTIC_ABORT (fun q => absurd (Value.int.inj q) (by decide))) (Value.ref.inj q)) (by decide) (by decide) ?_
    show Steps p.tables e below (T7.setTop (mkF m 71 #[.val (.int p1), .val (.int p2), .val (.int (7 : Int32)), .val (.ref s_Joined_State_ABORTED), .val (.int (0 : Int32)), .val (.int (0 : Int32)), .unset, .unset] [])) _
    refine XS.iconst X7.here hx rfl (hb hby at_71) ?_
    show Steps p.tables e below (T7.setTop (mkF m 72 #[.val (.int p1), .val (.int p2), .val (.int (7 : Int32)), .val (.ref s_Joined_State_ABORTED), .val (.int (0 : Int32)), .val (.int (0 : Int32)), .unset, .unset] [(.int (0 : Int32))])) _
    refine XS.istore X7.here hx rfl (hb hby at_72) rfl (l' := #[.val (.int p1), .val (.int p2), .val (.int (7 : Int32)), .val (.ref s_Joined_State_ABORTED), .val (.int (0 : Int32)), .val (.int (0 : Int32)), .val (.int (0 : Int32)), .unset]) rfl ?_
    show Steps p.tables e below (T7.setTop (mkF m 74 #[.val (.int p1), .val (.int p2), .val (.int (7 : Int32)), .val (.ref s_Joined_State_ABORTED), .val (.int (0 : Int32)), .val (.int (0 : Int32)), .val (.int (0 : Int32)), .unset] [])) _
    refine XS.iload X7.here hx rfl (hb hby at_74) rfl ?_
    show Steps p.tables e below (T7.setTop (mkF m 76 #[.val (.int p1), .val (.int p2), .val (.int (7 : Int32)), .val (.ref s_Joined_State_ABORTED), .val (.int (0 : Int32)), .val (.int (0 : Int32)), .val (.int (0 : Int32)), .unset] [(.int (0 : Int32))])) _
    refine XS.iload X7.here hx rfl (hb hby at_76) rfl ?_
    show Steps p.tables e below (T7.setTop (mkF m 78 #[.val (.int p1), .val (.int p2), .val (.int (7 : Int32)), .val (.ref s_Joined_State_ABORTED), .val (.int (0 : Int32)), .val (.int (0 : Int32)), .val (.int (0 : Int32)), .unset] [(.int (0 : Int32)), (.int (0 : Int32))])) _
    refine XS.icmpYes X7.here hx rfl (pc0 := 78) (pc' := 83) rfl (hb hby at_78) rfl (teq (by decide : (0 : Int32) = (0 : Int32))).1 (by decide) (by decide) ?_
    show Steps p.tables e below (T7.setTop (mkF m 83 #[.val (.int p1), .val (.int p2), .val (.int (7 : Int32)), .val (.ref s_Joined_State_ABORTED), .val (.int (0 : Int32)), .val (.int (0 : Int32)), .val (.int (0 : Int32)), .unset] [])) _
    refine XS.iload X7.here hx rfl (hb hby at_83) rfl ?_
    show Steps p.tables e below (T7.setTop (mkF m 85 #[.val (.int p1), .val (.int p2), .val (.int (7 : Int32)), .val (.ref s_Joined_State_ABORTED), .val (.int (0 : Int32)), .val (.int (0 : Int32)), .val (.int (0 : Int32)), .unset] [(.int (0 : Int32))])) _
    refine XS.ifYes X7.here hx rfl (pc0 := 85) (pc' := 119) rfl (hb hby at_85) rfl ((if0 _ _).trans (teq (by decide : (0 : Int32) = (0 : Int32))).1) (by decide) (by decide) ?_
    show Steps p.tables e below (T7.setTop (mkF m 119 #[.val (.int p1), .val (.int p2), .val (.int (7 : Int32)), .val (.ref s_Joined_State_ABORTED), .val (.int (0 : Int32)), .val (.int (0 : Int32)), .val (.int (0 : Int32)), .unset] [])) _
    refine XS.iconst X7.here hx rfl (hb hby at_119) ?_
    show Steps p.tables e below (T7.setTop (mkF m 120 #[.val (.int p1), .val (.int p2), .val (.int (7 : Int32)), .val (.ref s_Joined_State_ABORTED), .val (.int (0 : Int32)), .val (.int (0 : Int32)), .val (.int (0 : Int32)), .unset] [(.int (1 : Int32))])) _
    exact retN X7 hx (t := .boolean) Bd.returns (by simp) (hb hby at_120) hr
  · show own_Q (some (.int (1 : Int32))) h0 n0 _ T7.heap _
    rw [e7]
    exact ⟨rfl, N3, rfl⟩
theorem d1_73 : decode method_2_code 73 = .ok (.iload_n 0, 1) := by decide +kernel
theorem d1_74 : decode method_2_code 74 = .ok (.bipush 8, 2) := by decide +kernel
theorem d1_76 : decode method_2_code 76 = .ok (.if_icmp .ne 7, 3) := by decide +kernel
theorem d1_79 : decode method_2_code 79 = .ok (.getstatic 34, 3) := by decide +kernel
theorem d1_82 : decode method_2_code 82 = .ok (.areturn, 1) := by decide +kernel
set_option maxRecDepth 65536 in
set_option maxHeartbeats 40000000 in
theorem r_pick_8 (l : Launch) (Z : State) (a0 : Array Value) (hw : ∀ d ∈ tables_1, d.before a0 Z = true) (ws : List Jvm.Cond) (s_PREPARED s_IN_DOUBT s_Outcome_COMMITTED s_HEURISTICALLY_ABORTED s_HEURISTICALLY_COMMITTED s_Joined_State_COMMITTED s_HEURISTIC_ABORT s_HEURISTIC_COMMIT s_COMMITTED_AGAINST_HEURISTIC s_HEURISTIC_MISMATCH s_COMMITTED_IN_ONE_PHASE s_TxnStatus_COMMITTED s_ABORTED_AGAINST_HEURISTIC s_Outcome_ABORTED s_PRE_ABORTED s_PRE_COMMITTED s_Joined_State_ABORTED s_TxnStatus_ABORTED : Addr) (h0 : Heap) (n0 : Nat) (Z0 : n0 ≤ h0.size) (G : own_Ctx Z h0 s_PREPARED s_IN_DOUBT s_Outcome_COMMITTED s_HEURISTICALLY_ABORTED s_HEURISTICALLY_COMMITTED s_Joined_State_COMMITTED s_HEURISTIC_ABORT s_HEURISTIC_COMMIT s_COMMITTED_AGAINST_HEURISTIC s_HEURISTIC_MISMATCH s_COMMITTED_IN_ONE_PHASE s_TxnStatus_COMMITTED s_ABORTED_AGAINST_HEURISTIC s_Outcome_ABORTED s_PRE_ABORTED s_PRE_COMMITTED s_Joined_State_ABORTED s_TxnStatus_ABORTED)   :
    MetFree l (⟨"com/example/unanimity/unanimity/core/StateAwaitsDecisionPinLaw", "pick", "(I)Lcom/example/unanimity/unanimity/core/Joined$State;"⟩ : MethodName) (head1 (Jvm.Cond.code (⟨"com/example/unanimity/unanimity/core/StateAwaitsDecisionPinLaw", "pick", "(I)Lcom/example/unanimity/unanimity/core/Joined$State;"⟩ : MethodName) method_2_code 1 (some (.object "com/example/unanimity/unanimity/core/Joined$State")) :: ws) ({ frames := 0, cells := 0, slots := 0, locals := 0 } : Room)) (fun a U => a = #[(.int (8 : Int32))] ∧ Z.Warmed39 U.vm ∧ U.heap = h0) (fun _ _ _ _ _ => True) (fun _ U o U' => ∃ v L, o = .returned v ∧ own_Q (some (.ref s_COMMITTED_AGAINST_HEURISTIC)) h0 n0 v U'.heap L ∧ FrameEnd U o U' L ({ frames := 0, cells := 0, slots := 0, locals := 0 } : Room).cells ({ frames := 0, cells := 0, slots := 0, locals := 0 } : Room).slots) := by
  have G0 := G
  obtain ⟨S_PREPARED, E_PREPARED, O_PREPARED, S_IN_DOUBT, E_IN_DOUBT, O_IN_DOUBT, S_Outcome_COMMITTED, E_Outcome_COMMITTED, O_Outcome_COMMITTED, S_HEURISTICALLY_ABORTED, E_HEURISTICALLY_ABORTED, O_HEURISTICALLY_ABORTED, S_HEURISTICALLY_COMMITTED, E_HEURISTICALLY_COMMITTED, O_HEURISTICALLY_COMMITTED, S_Joined_State_COMMITTED, E_Joined_State_COMMITTED, S_HEURISTIC_ABORT, E_HEURISTIC_ABORT, O_HEURISTIC_ABORT, S_HEURISTIC_COMMIT, E_HEURISTIC_COMMIT, O_HEURISTIC_COMMIT, S_COMMITTED_AGAINST_HEURISTIC, E_COMMITTED_AGAINST_HEURISTIC, S_HEURISTIC_MISMATCH, E_HEURISTIC_MISMATCH, O_HEURISTIC_MISMATCH, S_COMMITTED_IN_ONE_PHASE, E_COMMITTED_IN_ONE_PHASE, S_TxnStatus_COMMITTED, E_TxnStatus_COMMITTED, O_TxnStatus_COMMITTED, S_ABORTED_AGAINST_HEURISTIC, E_ABORTED_AGAINST_HEURISTIC, S_Outcome_ABORTED, E_Outcome_ABORTED, O_Outcome_ABORTED, S_PRE_ABORTED, E_PRE_ABORTED, O_PRE_ABORTED, S_PRE_COMMITTED, E_PRE_COMMITTED, O_PRE_COMMITTED, S_Joined_State_ABORTED, E_Joined_State_ABORTED, S_TxnStatus_ABORTED, E_TxnStatus_ABORTED, O_TxnStatus_ABORTED, F_decision_PREPARED, F_status_PREPARED, F_decision_Joined_State_COMMITTED, F_decision_HEURISTICALLY_ABORTED, F_status_HEURISTICALLY_ABORTED, F_decision_COMMITTED_AGAINST_HEURISTIC, F_status_COMMITTED_AGAINST_HEURISTIC, F_decision_COMMITTED_IN_ONE_PHASE, F_status_COMMITTED_IN_ONE_PHASE, F_decision_ABORTED_AGAINST_HEURISTIC, F_status_ABORTED_AGAINST_HEURISTIC, F_decision_PRE_ABORTED, F_status_PRE_ABORTED, F_decision_HEURISTICALLY_COMMITTED, F_status_HEURISTICALLY_COMMITTED, F_decision_PRE_COMMITTED, F_status_PRE_COMMITTED, F_decision_Joined_State_ABORTED, F_status_Joined_State_COMMITTED, F_status_Joined_State_ABORTED⟩ := G
  refine MetFree.of_bodySF (plainFor_of_name pn_1) hisR ?_
  intro p e s m args below meth c s₁ Bd hml0 hP hK
  obtain ⟨rfl, hZ, hh⟩ := hP
  have hx := Bd.exec
  have hby := Bd.bytes
  have hml : c.maxLocals = 1 := hml0
  have hown : s.vm.findClass "com/example/unanimity/unanimity/core/StateAwaitsDecisionPinLaw" = some m.cls := findClass_of_methodNamed Bd.named
  have hnm := (name_of_methodNamed Bd.named Bd.method).1
  have X0 : Stand p l e ({ frames := 0, cells := 0, slots := 0, locals := 0 } : Room) s m #[(.int (8 : Int32))] below meth c s₁ [] 0 0 := Stand.of_body Bd
  have e0 : s₁.heap = h0 := by rw [← hh, Bd.state]; rfl
  have N0 := Fr.nil n0
  have pre0 : ∀ t, Steps p.tables e below (s₁.setTop (mkF m 0 #[.val (.int (8 : Int32))] [])) t → Steps p.tables e below (s₁.setTop (entryFrame m #[(.int (8 : Int32))] 1)) t := fun t k => castTop (ef_1_4 m (8 : Int32)) k
  obtain ⟨T1, X1, e1, st1⟩ := getS2 X0 hx hZ hown (host := "") (Or.inl (hw _ (List.mem_of_getElem? (i := 51) rfl))) Via.refl e0 S_COMMITTED_AGAINST_HEURISTIC (g := (mkF m 79 #[.val (.int (8 : Int32))] [])) rfl (hb hby d1_79)
  obtain ⟨fs, hr, hrun, hended, hW, hsame⟩ := X1.leave (v := some (.ref s_COMMITTED_AGAINST_HEURISTIC)) (fun h => by rw [Bd.returns] at h; cases h)
  refine ⟨_, _, pre0 _ ?_, hrun, hended, _, _, rfl, ?_, ⟨_, rfl⟩, hW, hsame.mono (by decide) (by decide)⟩
  · show Steps p.tables e below (s₁.setTop (mkF m 0 #[.val (.int (8 : Int32))] [])) _
    refine XS.iloadN X0.here hx rfl (hb hby d1_0) rfl ?_
    show Steps p.tables e below (s₁.setTop (mkF m 1 #[.val (.int (8 : Int32))] [(.int (8 : Int32))])) _
    refine XS.ifYes X0.here hx rfl (pc0 := 1) (pc' := 8) rfl (hb hby d1_1) rfl ((if0 _ _).trans (feq (by decide : ¬ ((8 : Int32) = (0 : Int32)))).2) (by decide) (by decide) ?_
    show Steps p.tables e below (s₁.setTop (mkF m 8 #[.val (.int (8 : Int32))] [])) _
    refine XS.iloadN X0.here hx rfl (hb hby d1_8) rfl ?_
    show Steps p.tables e below (s₁.setTop (mkF m 9 #[.val (.int (8 : Int32))] [(.int (8 : Int32))])) _
    refine XS.iconst X0.here hx rfl (hb hby d1_9) ?_
    show Steps p.tables e below (s₁.setTop (mkF m 10 #[.val (.int (8 : Int32))] [(.int (1 : Int32)), (.int (8 : Int32))])) _
    refine XS.icmpYes X0.here hx rfl (pc0 := 10) (pc' := 17) rfl (hb hby d1_10) rfl (feq (by decide : ¬ ((8 : Int32) = (1 : Int32)))).2 (by decide) (by decide) ?_
    show Steps p.tables e below (s₁.setTop (mkF m 17 #[.val (.int (8 : Int32))] [])) _
    refine XS.iloadN X0.here hx rfl (hb hby d1_17) rfl ?_
    show Steps p.tables e below (s₁.setTop (mkF m 18 #[.val (.int (8 : Int32))] [(.int (8 : Int32))])) _
    refine XS.iconst X0.here hx rfl (hb hby d1_18) ?_
    show Steps p.tables e below (s₁.setTop (mkF m 19 #[.val (.int (8 : Int32))] [(.int (2 : Int32)), (.int (8 : Int32))])) _
    refine XS.icmpYes X0.here hx rfl (pc0 := 19) (pc' := 26) rfl (hb hby d1_19) rfl (feq (by decide : ¬ ((8 : Int32) = (2 : Int32)))).2 (by decide) (by decide) ?_
    show Steps p.tables e below (s₁.setTop (mkF m 26 #[.val (.int (8 : Int32))] [])) _
    refine XS.iloadN X0.here hx rfl (hb hby d1_26) rfl ?_
    show Steps p.tables e below (s₁.setTop (mkF m 27 #[.val (.int (8 : Int32))] [(.int (8 : Int32))])) _
    refine XS.iconst X0.here hx rfl (hb hby d1_27) ?_
    show Steps p.tables e below (s₁.setTop (mkF m 28 #[.val (.int (8 : Int32))] [(.int (3 : Int32)), (.int (8 : Int32))])) _
    refine XS.icmpYes X0.here hx rfl (pc0 := 28) (pc' := 35) rfl (hb hby d1_28) rfl (feq (by decide : ¬ ((8 : Int32) = (3 : Int32)))).2 (by decide) (by decide) ?_
    show Steps p.tables e below (s₁.setTop (mkF m 35 #[.val (.int (8 : Int32))] [])) _
    refine XS.iloadN X0.here hx rfl (hb hby d1_35) rfl ?_
    show Steps p.tables e below (s₁.setTop (mkF m 36 #[.val (.int (8 : Int32))] [(.int (8 : Int32))])) _
    refine XS.iconst X0.here hx rfl (hb hby d1_36) ?_
    show Steps p.tables e below (s₁.setTop (mkF m 37 #[.val (.int (8 : Int32))] [(.int (4 : Int32)), (.int (8 : Int32))])) _
    refine XS.icmpYes X0.here hx rfl (pc0 := 37) (pc' := 44) rfl (hb hby d1_37) rfl (feq (by decide : ¬ ((8 : Int32) = (4 : Int32)))).2 (by decide) (by decide) ?_
    show Steps p.tables e below (s₁.setTop (mkF m 44 #[.val (.int (8 : Int32))] [])) _
    refine XS.iloadN X0.here hx rfl (hb hby d1_44) rfl ?_
    show Steps p.tables e below (s₁.setTop (mkF m 45 #[.val (.int (8 : Int32))] [(.int (8 : Int32))])) _
    refine XS.iconst X0.here hx rfl (hb hby d1_45) ?_
    show Steps p.tables e below (s₁.setTop (mkF m 46 #[.val (.int (8 : Int32))] [(.int (5 : Int32)), (.int (8 : Int32))])) _
    refine XS.icmpYes X0.here hx rfl (pc0 := 46) (pc' := 53) rfl (hb hby d1_46) rfl (feq (by decide : ¬ ((8 : Int32) = (5 : Int32)))).2 (by decide) (by decide) ?_
    show Steps p.tables e below (s₁.setTop (mkF m 53 #[.val (.int (8 : Int32))] [])) _
    refine XS.iloadN X0.here hx rfl (hb hby d1_53) rfl ?_
    show Steps p.tables e below (s₁.setTop (mkF m 54 #[.val (.int (8 : Int32))] [(.int (8 : Int32))])) _
    refine XS.bipush X0.here hx rfl (hb hby d1_54) ?_
    show Steps p.tables e below (s₁.setTop (mkF m 56 #[.val (.int (8 : Int32))] [(.int (6 : Int32)), (.int (8 : Int32))])) _
    refine XS.icmpYes X0.here hx rfl (pc0 := 56) (pc' := 63) rfl (hb hby d1_56) rfl (feq (by decide : ¬ ((8 : Int32) = (6 : Int32)))).2 (by decide) (by decide) ?_
    show Steps p.tables e below (s₁.setTop (mkF m 63 #[.val (.int (8 : Int32))] [])) _
    refine XS.iloadN X0.here hx rfl (hb hby d1_63) rfl ?_
    show Steps p.tables e below (s₁.setTop (mkF m 64 #[.val (.int (8 : Int32))] [(.int (8 : Int32))])) _
    refine XS.bipush X0.here hx rfl (hb hby d1_64) ?_
    show Steps p.tables e below (s₁.setTop (mkF m 66 #[.val (.int (8 : Int32))] [(.int (7 : Int32)), (.int (8 : Int32))])) _
    refine XS.icmpYes X0.here hx rfl (pc0 := 66) (pc' := 73) rfl (hb hby d1_66) rfl (feq (by decide : ¬ ((8 : Int32) = (7 : Int32)))).2 (by decide) (by decide) ?_
    show Steps p.tables e below (s₁.setTop (mkF m 73 #[.val (.int (8 : Int32))] [])) _
    refine XS.iloadN X0.here hx rfl (hb hby d1_73) rfl ?_
    show Steps p.tables e below (s₁.setTop (mkF m 74 #[.val (.int (8 : Int32))] [(.int (8 : Int32))])) _
    refine XS.bipush X0.here hx rfl (hb hby d1_74) ?_
    show Steps p.tables e below (s₁.setTop (mkF m 76 #[.val (.int (8 : Int32))] [(.int (8 : Int32)), (.int (8 : Int32))])) _
    refine XS.icmpNo X0.here hx rfl (hb hby d1_76) rfl (teq (by decide : (8 : Int32) = (8 : Int32))).2 ?_
    show Steps p.tables e below (s₁.setTop (mkF m 79 #[.val (.int (8 : Int32))] [])) _
    refine st1 _ ?_
    show Steps p.tables e below (T1.setTop (mkF m 82 #[.val (.int (8 : Int32))] [(.ref s_COMMITTED_AGAINST_HEURISTIC)])) _
    exact retOut X1 hx Bd.returns rfl (Or.inr (Or.inr (Or.inr (Or.inr ⟨rfl, rfl, rfl⟩)))) (hb hby d1_82) hr
  · show own_Q (some (.ref s_COMMITTED_AGAINST_HEURISTIC)) h0 n0 _ T1.heap _
    rw [e1]
    exact ⟨rfl, N0, rfl⟩
set_option maxRecDepth 65536 in
set_option maxHeartbeats 40000000 in
theorem r_law_8 (l : Launch) (Z : State) (a0 : Array Value) (hw : ∀ d ∈ tables_1, d.before a0 Z = true) (ws : List Jvm.Cond) (s_PREPARED s_IN_DOUBT s_Outcome_COMMITTED s_HEURISTICALLY_ABORTED s_HEURISTICALLY_COMMITTED s_Joined_State_COMMITTED s_HEURISTIC_ABORT s_HEURISTIC_COMMIT s_COMMITTED_AGAINST_HEURISTIC s_HEURISTIC_MISMATCH s_COMMITTED_IN_ONE_PHASE s_TxnStatus_COMMITTED s_ABORTED_AGAINST_HEURISTIC s_Outcome_ABORTED s_PRE_ABORTED s_PRE_COMMITTED s_Joined_State_ABORTED s_TxnStatus_ABORTED : Addr) (h0 : Heap) (n0 : Nat) (Z0 : n0 ≤ h0.size) (G : own_Ctx Z h0 s_PREPARED s_IN_DOUBT s_Outcome_COMMITTED s_HEURISTICALLY_ABORTED s_HEURISTICALLY_COMMITTED s_Joined_State_COMMITTED s_HEURISTIC_ABORT s_HEURISTIC_COMMIT s_COMMITTED_AGAINST_HEURISTIC s_HEURISTIC_MISMATCH s_COMMITTED_IN_ONE_PHASE s_TxnStatus_COMMITTED s_ABORTED_AGAINST_HEURISTIC s_Outcome_ABORTED s_PRE_ABORTED s_PRE_COMMITTED s_Joined_State_ABORTED s_TxnStatus_ABORTED) (p1 p2 : Int32) (hk : (p1 &&& (2147483647 : Int32)) % (10 : Int32) = (8 : Int32)) :
    MetFree l x (head1 (Jvm.Cond.code x code maxLocals ret :: ws) room_1) (fun a U => a = #[(.int p1), (.int p2)] ∧ Z.Warmed39 U.vm ∧ U.heap = h0) (fun _ _ _ _ _ => True) (fun _ U o U' => ∃ v L, o = .returned v ∧ own_Q (some (.int (1 : Int32))) h0 n0 v U'.heap L ∧ FrameEnd U o U' L 0 0) := by
  have G0 := G
  obtain ⟨S_PREPARED, E_PREPARED, O_PREPARED, S_IN_DOUBT, E_IN_DOUBT, O_IN_DOUBT, S_Outcome_COMMITTED, E_Outcome_COMMITTED, O_Outcome_COMMITTED, S_HEURISTICALLY_ABORTED, E_HEURISTICALLY_ABORTED, O_HEURISTICALLY_ABORTED, S_HEURISTICALLY_COMMITTED, E_HEURISTICALLY_COMMITTED, O_HEURISTICALLY_COMMITTED, S_Joined_State_COMMITTED, E_Joined_State_COMMITTED, S_HEURISTIC_ABORT, E_HEURISTIC_ABORT, O_HEURISTIC_ABORT, S_HEURISTIC_COMMIT, E_HEURISTIC_COMMIT, O_HEURISTIC_COMMIT, S_COMMITTED_AGAINST_HEURISTIC, E_COMMITTED_AGAINST_HEURISTIC, S_HEURISTIC_MISMATCH, E_HEURISTIC_MISMATCH, O_HEURISTIC_MISMATCH, S_COMMITTED_IN_ONE_PHASE, E_COMMITTED_IN_ONE_PHASE, S_TxnStatus_COMMITTED, E_TxnStatus_COMMITTED, O_TxnStatus_COMMITTED, S_ABORTED_AGAINST_HEURISTIC, E_ABORTED_AGAINST_HEURISTIC, S_Outcome_ABORTED, E_Outcome_ABORTED, O_Outcome_ABORTED, S_PRE_ABORTED, E_PRE_ABORTED, O_PRE_ABORTED, S_PRE_COMMITTED, E_PRE_COMMITTED, O_PRE_COMMITTED, S_Joined_State_ABORTED, E_Joined_State_ABORTED, S_TxnStatus_ABORTED, E_TxnStatus_ABORTED, O_TxnStatus_ABORTED, F_decision_PREPARED, F_status_PREPARED, F_decision_Joined_State_COMMITTED, F_decision_HEURISTICALLY_ABORTED, F_status_HEURISTICALLY_ABORTED, F_decision_COMMITTED_AGAINST_HEURISTIC, F_status_COMMITTED_AGAINST_HEURISTIC, F_decision_COMMITTED_IN_ONE_PHASE, F_status_COMMITTED_IN_ONE_PHASE, F_decision_ABORTED_AGAINST_HEURISTIC, F_status_ABORTED_AGAINST_HEURISTIC, F_decision_PRE_ABORTED, F_status_PRE_ABORTED, F_decision_HEURISTICALLY_COMMITTED, F_status_HEURISTICALLY_COMMITTED, F_decision_PRE_COMMITTED, F_status_PRE_COMMITTED, F_decision_Joined_State_ABORTED, F_status_Joined_State_COMMITTED, F_status_Joined_State_ABORTED⟩ := G
  refine MetFree.of_bodySF (plainFor_of_name pn_1) hisR ?_
  intro p e s m args below meth c s₁ Bd hml0 hP hK
  obtain ⟨rfl, hZ, hh⟩ := hP
  have hx := Bd.exec
  have hby := Bd.bytes
  have hml : c.maxLocals = 8 := hml0
  have hown : s.vm.findClass "com/example/unanimity/unanimity/core/StateAwaitsDecisionPinLaw" = some m.cls := findClass_of_methodNamed Bd.named
  have hnm := (name_of_methodNamed Bd.named Bd.method).1
  have X0 : Stand p l e room_1 s m #[(.int p1), (.int p2)] below meth c s₁ [] 0 0 := Stand.of_body Bd
  have e0 : s₁.heap = h0 := by rw [← hh, Bd.state]; rfl
  have N0 := Fr.nil n0
  have pre0 : ∀ t, Steps p.tables e below (s₁.setTop (mkF m 0 #[.val (.int p1), .val (.int p2), .unset, .unset, .unset, .unset, .unset, .unset] [])) t → Steps p.tables e below (s₁.setTop (entryFrame m #[(.int p1), (.int p2)] maxLocals)) t := fun t k => castTop (ef_0_5 m p1 p2) k
  obtain ⟨_, _, ⟨T1, L1, k1, n1⟩, -, X1, ⟨Lc1, hQ1, l1, y1, z1⟩, st1⟩ := Jvm.LawKit.callS X0 hx (y := (⟨"com/example/unanimity/unanimity/core/StateAwaitsDecisionPinLaw", "pick", "(I)Lcom/example/unanimity/unanimity/core/Joined$State;"⟩ : MethodName)) hown (mvT hZ (hw _ (List.mem_of_getElem? (i := 1) rfl))) (mvT hZ (hw _ (List.mem_of_getElem? (i := 2) rfl))) (mvT hZ (hw _ (List.mem_of_getElem? (i := 3) rfl))) (mvT hZ (hw _ (List.mem_of_getElem? (i := 4) rfl))) (by decide) (backOf (W := 0) (r_pick_8 l Z a0 hw [] s_PREPARED s_IN_DOUBT s_Outcome_COMMITTED s_HEURISTICALLY_ABORTED s_HEURISTICALLY_COMMITTED s_Joined_State_COMMITTED s_HEURISTIC_ABORT s_HEURISTIC_COMMIT s_COMMITTED_AGAINST_HEURISTIC s_HEURISTIC_MISMATCH s_COMMITTED_IN_ONE_PHASE s_TxnStatus_COMMITTED s_ABORTED_AGAINST_HEURISTIC s_Outcome_ABORTED s_PRE_ABORTED s_PRE_COMMITTED s_Joined_State_ABORTED s_TxnStatus_ABORTED h0 n0 Z0 G0) hZ (hw _ (List.mem_of_getElem? (i := 4) rfl)) (hw _ (List.mem_of_getElem? (i := 3) rfl)) (by decide) (by decide)) (g := (mkF m 9 #[.val (.int p1), .val (.int p2), .val (.int (8 : Int32)), .unset, .unset, .unset, .unset, .unset] [(.int (8 : Int32))])) rfl (by rw [hml]; rfl) (argsL := [(.int (8 : Int32))]) (rest := []) (lenOf pd_1 rfl) rfl (by show 2 * 0 + _ ≤ _; exact Nat.le_of_eq rfl) (hb hby at_9) (fun _ _ => ⟨rfl, e0, (by decide : 0 + 0 ≤ _), (by decide : 0 + 0 ≤ _)⟩)
  dsimp only [Pt.U, Pt.locs, Pt.cells, Pt.slots] at X1 l1 y1 z1 st1 hQ1
  subst l1 y1 z1
  obtain ⟨rfl, N1q, e1⟩ := hQ1
  have N1 := Fr.app N0 N1q
  obtain ⟨cq2, kq2, q2a, q2b, q2c⟩ := isOf hZ e1 E_COMMITTED_AGAINST_HEURISTIC
  obtain ⟨_, _, ⟨T2, L2, k2, n2⟩, -, X2, ⟨Lc2, hQ2, l2, y2, z2⟩, st2⟩ := X1.virtualBack hx (y := (⟨"com/example/unanimity/unanimity/core/Joined$State", "awaitsDecision", "()Z"⟩ : MethodName)) (z := (⟨"com/example/unanimity/unanimity/core/Joined$State", "awaitsDecision", "()Z"⟩ : MethodName)) hown (mvT hZ (hw _ (List.mem_of_getElem? (i := 8) rfl))) (mvT hZ (hw _ (List.mem_of_getElem? (i := 9) rfl))) (notFace_of_selects (args := #[]) (mvT hZ (hw _ (List.mem_of_getElem? (i := 11) rfl)))) (mvT hZ (hw _ (List.mem_of_getElem? (i := 11) rfl))) (mvT hZ (hw _ (List.mem_of_getElem? (i := 10) rfl))) (by decide) (backOf (W := 0) (r_aw_8 l Z a0 hw [] s_PREPARED s_IN_DOUBT s_Outcome_COMMITTED s_HEURISTICALLY_ABORTED s_HEURISTICALLY_COMMITTED s_Joined_State_COMMITTED s_HEURISTIC_ABORT s_HEURISTIC_COMMIT s_COMMITTED_AGAINST_HEURISTIC s_HEURISTIC_MISMATCH s_COMMITTED_IN_ONE_PHASE s_TxnStatus_COMMITTED s_ABORTED_AGAINST_HEURISTIC s_Outcome_ABORTED s_PRE_ABORTED s_PRE_COMMITTED s_Joined_State_ABORTED s_TxnStatus_ABORTED h0 n0 Z0 G0) hZ (hw _ (List.mem_of_getElem? (i := 12) rfl)) (hw _ (List.mem_of_getElem? (i := 6) rfl)) (by decide) (by decide)) q2a q2c (g := (mkF m 26 #[.val (.int p1), .val (.int p2), .val (.int (8 : Int32)), .val (.ref s_COMMITTED_AGAINST_HEURISTIC), .val (.int (0 : Int32)), .unset, .unset, .unset] [(.ref s_COMMITTED_AGAINST_HEURISTIC)])) rfl (by rw [hml]; rfl) (Steps.refl _) (argsL := []) (rest := []) (lenOf pd_2 rfl) rfl (by show 2 * 0 + _ ≤ _; exact Nat.le_of_eq rfl) (hb hby at_26) (fun _ _ => ⟨rfl, e1, (by decide : 0 + 0 ≤ _), (by decide : 0 + 0 ≤ _)⟩)
  dsimp only [Pt.U, Pt.locs, Pt.cells, Pt.slots] at X2 l2 y2 z2 st2 hQ2
  subst l2 y2 z2
  obtain ⟨rfl, N2q, e2⟩ := hQ2
  have N2 := Fr.app N1 N2q
  obtain ⟨cq3, kq3, q3a, q3b, q3c⟩ := isOf hZ e2 E_COMMITTED_AGAINST_HEURISTIC
  obtain ⟨_, _, ⟨T3, L3, k3, n3⟩, -, X3, ⟨Lc3, hQ3, l3, y3, z3⟩, st3⟩ := X2.virtualBack hx (y := (⟨"com/example/unanimity/unanimity/core/Joined$State", "inDoubt", "()Z"⟩ : MethodName)) (z := (⟨"com/example/unanimity/unanimity/core/Joined$State", "inDoubt", "()Z"⟩ : MethodName)) hown (mvT hZ (hw _ (List.mem_of_getElem? (i := 15) rfl))) (mvT hZ (hw _ (List.mem_of_getElem? (i := 16) rfl))) (notFace_of_selects (args := #[]) (mvT hZ (hw _ (List.mem_of_getElem? (i := 18) rfl)))) (mvT hZ (hw _ (List.mem_of_getElem? (i := 18) rfl))) (mvT hZ (hw _ (List.mem_of_getElem? (i := 17) rfl))) (by decide) (backOf (W := 0) (r_in_8 l Z a0 hw [] s_PREPARED s_IN_DOUBT s_Outcome_COMMITTED s_HEURISTICALLY_ABORTED s_HEURISTICALLY_COMMITTED s_Joined_State_COMMITTED s_HEURISTIC_ABORT s_HEURISTIC_COMMIT s_COMMITTED_AGAINST_HEURISTIC s_HEURISTIC_MISMATCH s_COMMITTED_IN_ONE_PHASE s_TxnStatus_COMMITTED s_ABORTED_AGAINST_HEURISTIC s_Outcome_ABORTED s_PRE_ABORTED s_PRE_COMMITTED s_Joined_State_ABORTED s_TxnStatus_ABORTED h0 n0 Z0 G0) hZ (hw _ (List.mem_of_getElem? (i := 19) rfl)) (hw _ (List.mem_of_getElem? (i := 6) rfl)) (by decide) (by decide)) q3a q3c (g := (mkF m 41 #[.val (.int p1), .val (.int p2), .val (.int (8 : Int32)), .val (.ref s_COMMITTED_AGAINST_HEURISTIC), .val (.int (0 : Int32)), .val (.int (0 : Int32)), .unset, .unset] [(.ref s_COMMITTED_AGAINST_HEURISTIC)])) rfl (by rw [hml]; rfl) (Steps.refl _) (argsL := []) (rest := []) (lenOf pd_2 rfl) rfl (by show 2 * 0 + _ ≤ _; exact Nat.le_of_eq rfl) (hb hby at_41) (fun _ _ => ⟨rfl, e2, (by decide : 0 + 0 ≤ _), (by decide : 0 + 0 ≤ _)⟩)
  dsimp only [Pt.U, Pt.locs, Pt.cells, Pt.slots] at X3 l3 y3 z3 st3 hQ3
  subst l3 y3 z3
  obtain ⟨rfl, N3q, e3⟩ := hQ3
  have N3 := Fr.app N2 N3q
  obtain ⟨T4, X4, e4, st4⟩ := getF X3 hx hZ hown (host := "") (Or.inl (hw _ (List.mem_of_getElem? (i := 45) rfl))) Via.refl e3 F_status_COMMITTED_AGAINST_HEURISTIC (g := (mkF m 48 #[.val (.int p1), .val (.int p2), .val (.int (8 : Int32)), .val (.ref s_COMMITTED_AGAINST_HEURISTIC), .val (.int (0 : Int32)), .val (.int (0 : Int32)), .unset, .unset] [(.ref s_COMMITTED_AGAINST_HEURISTIC)])) rfl rfl (hb hby at_48)
  obtain ⟨T5, X5, e5, st5⟩ := getS2 X4 hx hZ hown (host := "") (Or.inl (hw _ (List.mem_of_getElem? (i := 46) rfl))) Via.refl e4 S_HEURISTIC_COMMIT (g := (mkF m 51 #[.val (.int p1), .val (.int p2), .val (.int (8 : Int32)), .val (.ref s_COMMITTED_AGAINST_HEURISTIC), .val (.int (0 : Int32)), .val (.int (0 : Int32)), .unset, .unset] [(.ref s_HEURISTIC_MISMATCH)])) rfl (hb hby at_51)
  obtain ⟨T6, X6, e6, st6⟩ := getF X5 hx hZ hown (host := "") (Or.inl (hw _ (List.mem_of_getElem? (i := 45) rfl))) Via.refl e5 F_status_COMMITTED_AGAINST_HEURISTIC (g := (mkF m 58 #[.val (.int p1), .val (.int p2), .val (.int (8 : Int32)), .val (.ref s_COMMITTED_AGAINST_HEURISTIC), .val (.int (0 : Int32)), .val (.int (0 : Int32)), .unset, .unset] [(.ref s_COMMITTED_AGAINST_HEURISTIC)])) rfl rfl (hb hby at_58)
  obtain ⟨T7, X7, e7, st7⟩ := getS2 X6 hx hZ hown (host := "") (Or.inl (hw _ (List.mem_of_getElem? (i := 48) rfl))) Via.refl e6 S_HEURISTIC_ABORT (g := (mkF m 61 #[.val (.int p1), .val (.int p2), .val (.int (8 : Int32)), .val (.ref s_COMMITTED_AGAINST_HEURISTIC), .val (.int (0 : Int32)), .val (.int (0 : Int32)), .unset, .unset] [(.ref s_HEURISTIC_MISMATCH)])) rfl (hb hby at_61)
  obtain ⟨fs, hr, hrun, hended, hW, hsame⟩ := X7.leave (v := some (.int (1 : Int32))) (fun h => by rw [Bd.returns] at h; cases h)
  refine ⟨_, _, pre0 _ ?_, hrun, hended, _, _, rfl, ?_, ⟨_, rfl⟩, hW, hsame.mono (by decide) (by decide)⟩
  · show Steps p.tables e below (s₁.setTop (mkF m 0 #[.val (.int p1), .val (.int p2), .unset, .unset, .unset, .unset, .unset, .unset] [])) _
    refine XS.iloadN X0.here hx rfl (hb hby at_0) rfl ?_
    show Steps p.tables e below (s₁.setTop (mkF m 1 #[.val (.int p1), .val (.int p2), .unset, .unset, .unset, .unset, .unset, .unset] [(.int p1)])) _
    refine X0.ldcInt hx hown (mvT hZ (hw _ (List.mem_of_getElem? (i := 0) rfl))) (g := (mkF m 1 #[.val (.int p1), .val (.int p2), .unset, .unset, .unset, .unset, .unset, .unset] [(.int p1)])) rfl (hb hby at_1) _ ?_
    show Steps p.tables e below (s₁.setTop (mkF m 3 #[.val (.int p1), .val (.int p2), .unset, .unset, .unset, .unset, .unset, .unset] [(.int (2147483647 : Int32)), (.int p1)])) _
    refine XS.iand X0.here hx rfl (hb hby at_3) rfl ?_
    show Steps p.tables e below (s₁.setTop (mkF m 4 #[.val (.int p1), .val (.int p2), .unset, .unset, .unset, .unset, .unset, .unset] [(.int (p1 &&& (2147483647 : Int32)))])) _
    refine XS.bipush X0.here hx rfl (hb hby at_4) ?_
    show Steps p.tables e below (s₁.setTop (mkF m 6 #[.val (.int p1), .val (.int p2), .unset, .unset, .unset, .unset, .unset, .unset] [(.int (10 : Int32)), (.int (p1 &&& (2147483647 : Int32)))])) _
    refine iremM X0 hx rfl (hb hby at_6) rfl (by decide) ?_
    show Steps p.tables e below (s₁.setTop (mkF m 7 #[.val (.int p1), .val (.int p2), .unset, .unset, .unset, .unset, .unset, .unset] [(.int ((p1 &&& (2147483647 : Int32)) % (10 : Int32)))])) _
    rw [hk]
    show Steps p.tables e below (s₁.setTop (mkF m 7 #[.val (.int p1), .val (.int p2), .unset, .unset, .unset, .unset, .unset, .unset] [(.int (8 : Int32))])) _
    refine XS.istoreN X0.here hx rfl (hb hby at_7) rfl (l' := #[.val (.int p1), .val (.int p2), .val (.int (8 : Int32)), .unset, .unset, .unset, .unset, .unset]) rfl ?_
    show Steps p.tables e below (s₁.setTop (mkF m 8 #[.val (.int p1), .val (.int p2), .val (.int (8 : Int32)), .unset, .unset, .unset, .unset, .unset] [])) _
    refine XS.iloadN X0.here hx rfl (hb hby at_8) rfl ?_
    show Steps p.tables e below (s₁.setTop (mkF m 9 #[.val (.int p1), .val (.int p2), .val (.int (8 : Int32)), .unset, .unset, .unset, .unset, .unset] [(.int (8 : Int32))])) _
    refine st1 _ ?_
    show Steps p.tables e below (T1.setTop (mkF m 12 #[.val (.int p1), .val (.int p2), .val (.int (8 : Int32)), .unset, .unset, .unset, .unset, .unset] [(.ref s_COMMITTED_AGAINST_HEURISTIC)])) _
    refine XS.astoreN X1.here hx rfl (hb hby at_12) rfl rfl (l' := #[.val (.int p1), .val (.int p2), .val (.int (8 : Int32)), .val (.ref s_COMMITTED_AGAINST_HEURISTIC), .unset, .unset, .unset, .unset]) rfl ?_
    show Steps p.tables e below (T1.setTop (mkF m 13 #[.val (.int p1), .val (.int p2), .val (.int (8 : Int32)), .val (.ref s_COMMITTED_AGAINST_HEURISTIC), .unset, .unset, .unset, .unset] [])) _
    refine XS.iloadN X1.here hx rfl (hb hby at_13) rfl ?_
    show Steps p.tables e below (T1.setTop (mkF m 14 #[.val (.int p1), .val (.int p2), .val (.int (8 : Int32)), .val (.ref s_COMMITTED_AGAINST_HEURISTIC), .unset, .unset, .unset, .unset] [(.int (8 : Int32))])) _
    refine XS.iconst X1.here hx rfl (hb hby at_14) ?_
    show Steps p.tables e below (T1.setTop (mkF m 15 #[.val (.int p1), .val (.int p2), .val (.int (8 : Int32)), .val (.ref s_COMMITTED_AGAINST_HEURISTIC), .unset, .unset, .unset, .unset] [(.int (5 : Int32)), (.int (8 : Int32))])) _
    refine XS.icmpYes X1.here hx rfl (pc0 := 15) (pc' := 22) rfl (hb hby at_15) rfl (flt (by decide : ¬ ((8 : Int32) < (5 : Int32)))).2.1 (by decide) (by decide) ?_
    show Steps p.tables e below (T1.setTop (mkF m 22 #[.val (.int p1), .val (.int p2), .val (.int (8 : Int32)), .val (.ref s_COMMITTED_AGAINST_HEURISTIC), .unset, .unset, .unset, .unset] [])) _
    refine XS.iconst X1.here hx rfl (hb hby at_22) ?_
    show Steps p.tables e below (T1.setTop (mkF m 23 #[.val (.int p1), .val (.int p2), .val (.int (8 : Int32)), .val (.ref s_COMMITTED_AGAINST_HEURISTIC), .unset, .unset, .unset, .unset] [(.int (0 : Int32))])) _
    refine XS.istore X1.here hx rfl (hb hby at_23) rfl (l' := #[.val (.int p1), .val (.int p2), .val (.int (8 : Int32)), .val (.ref s_COMMITTED_AGAINST_HEURISTIC), .val (.int (0 : Int32)), .unset, .unset, .unset]) rfl ?_
    show Steps p.tables e below (T1.setTop (mkF m 25 #[.val (.int p1), .val (.int p2), .val (.int (8 : Int32)), .val (.ref s_COMMITTED_AGAINST_HEURISTIC), .val (.int (0 : Int32)), .unset, .unset, .unset] [])) _
    refine XS.aloadN X1.here hx rfl (hb hby at_25) rfl rfl ?_
    show Steps p.tables e below (T1.setTop (mkF m 26 #[.val (.int p1), .val (.int p2), .val (.int (8 : Int32)), .val (.ref s_COMMITTED_AGAINST_HEURISTIC), .val (.int (0 : Int32)), .unset, .unset, .unset] [(.ref s_COMMITTED_AGAINST_HEURISTIC)])) _
    refine st2.trans ?_
    show Steps p.tables e below (T2.setTop (mkF m 29 #[.val (.int p1), .val (.int p2), .val (.int (8 : Int32)), .val (.ref s_COMMITTED_AGAINST_HEURISTIC), .val (.int (0 : Int32)), .unset, .unset, .unset] [(.int (0 : Int32))])) _
    refine XS.istore X2.here hx rfl (hb hby at_29) rfl (l' := #[.val (.int p1), .val (.int p2), .val (.int (8 : Int32)), .val (.ref s_COMMITTED_AGAINST_HEURISTIC), .val (.int (0 : Int32)), .val (.int (0 : Int32)), .unset, .unset]) rfl ?_
    show Steps p.tables e below (T2.setTop (mkF m 31 #[.val (.int p1), .val (.int p2), .val (.int (8 : Int32)), .val (.ref s_COMMITTED_AGAINST_HEURISTIC), .val (.int (0 : Int32)), .val (.int (0 : Int32)), .unset, .unset] [])) _
    refine XS.iload X2.here hx rfl (hb hby at_31) rfl ?_
    show Steps p.tables e below (T2.setTop (mkF m 33 #[.val (.int p1), .val (.int p2), .val (.int (8 : Int32)), .val (.ref s_COMMITTED_AGAINST_HEURISTIC), .val (.int (0 : Int32)), .val (.int (0 : Int32)), .unset, .unset] [(.int (0 : Int32))])) _
    refine XS.iload X2.here hx rfl (hb hby at_33) rfl ?_
    show Steps p.tables e below (T2.setTop (mkF m 35 #[.val (.int p1), .val (.int p2), .val (.int (8 : Int32)), .val (.ref s_COMMITTED_AGAINST_HEURISTIC), .val (.int (0 : Int32)), .val (.int (0 : Int32)), .unset, .unset] [(.int (0 : Int32)), (.int (0 : Int32))])) _
    refine XS.icmpYes X2.here hx rfl (pc0 := 35) (pc' := 40) rfl (hb hby at_35) rfl (teq (by decide : (0 : Int32) = (0 : Int32))).1 (by decide) (by decide) ?_
    show Steps p.tables e below (T2.setTop (mkF m 40 #[.val (.int p1), .val (.int p2), .val (.int (8 : Int32)), .val (.ref s_COMMITTED_AGAINST_HEURISTIC), .val (.int (0 : Int32)), .val (.int (0 : Int32)), .unset, .unset] [])) _
    refine XS.aloadN X2.here hx rfl (hb hby at_40) rfl rfl ?_
    show Steps p.tables e below (T2.setTop (mkF m 41 #[.val (.int p1), .val (.int p2), .val (.int (8 : Int32)), .val (.ref s_COMMITTED_AGAINST_HEURISTIC), .val (.int (0 : Int32)), .val (.int (0 : Int32)), .unset, .unset] [(.ref s_COMMITTED_AGAINST_HEURISTIC)])) _
    refine st3.trans ?_
    show Steps p.tables e below (T3.setTop (mkF m 44 #[.val (.int p1), .val (.int p2), .val (.int (8 : Int32)), .val (.ref s_COMMITTED_AGAINST_HEURISTIC), .val (.int (0 : Int32)), .val (.int (0 : Int32)), .unset, .unset] [(.int (0 : Int32))])) _
    refine XS.ifNo X3.here hx rfl (hb hby at_44) rfl ((if0 _ _).trans (teq (by decide : (0 : Int32) = (0 : Int32))).2) ?_
    show Steps p.tables e below (T3.setTop (mkF m 47 #[.val (.int p1), .val (.int p2), .val (.int (8 : Int32)), .val (.ref s_COMMITTED_AGAINST_HEURISTIC), .val (.int (0 : Int32)), .val (.int (0 : Int32)), .unset, .unset] [])) _
    refine XS.aloadN X3.here hx rfl (hb hby at_47) rfl rfl ?_
    show Steps p.tables e below (T3.setTop (mkF m 48 #[.val (.int p1), .val (.int p2), .val (.int (8 : Int32)), .val (.ref s_COMMITTED_AGAINST_HEURISTIC), .val (.int (0 : Int32)), .val (.int (0 : Int32)), .unset, .unset] [(.ref s_COMMITTED_AGAINST_HEURISTIC)])) _
    refine st4 _ ?_
    show Steps p.tables e below (T4.setTop (mkF m 51 #[.val (.int p1), .val (.int p2), .val (.int (8 : Int32)), .val (.ref s_COMMITTED_AGAINST_HEURISTIC), .val (.int (0 : Int32)), .val (.int (0 : Int32)), .unset, .unset] [(.ref s_HEURISTIC_MISMATCH)])) _
    refine st5 _ ?_
    show Steps p.tables e below (T5.setTop (mkF m 54 #[.val (.int p1), .val (.int p2), .val (.int (8 : Int32)), .val (.ref s_COMMITTED_AGAINST_HEURISTIC), .val (.int (0 : Int32)), .val (.int (0 : Int32)), .unset, .unset] [(.ref s_HEURISTIC_COMMIT), (.ref s_HEURISTIC_MISMATCH)])) _
    refine Jvm.RoadKit.acmp (g := (mkF m 54 #[.val (.int p1), .val (.int p2), .val (.int (8 : Int32)), .val (.ref s_COMMITTED_AGAINST_HEURISTIC), .val (.int (0 : Int32)), .val (.int (0 : Int32)), .unset, .unset] [(.ref s_HEURISTIC_COMMIT), (.ref s_HEURISTIC_MISMATCH)])) X5 hx rfl rfl rfl (pc0 := 54) (pc' := 57) (same := false) rfl (hb hby at_54) rfl (decide_eq_false fun q => (Fld.ne O_HEURISTIC_MISMATCH O_HEURISTIC_COMMIT (fun q => absurd (Value.int.inj q) (by decide))) (Value.ref.inj q)) (by decide) (by decide) ?_
    show Steps p.tables e below (T5.setTop (mkF m 57 #[.val (.int p1), .val (.int p2), .val (.int (8 : Int32)), .val (.ref s_COMMITTED_AGAINST_HEURISTIC), .val (.int (0 : Int32)), .val (.int (0 : Int32)), .unset, .unset] [])) _
    refine XS.aloadN X5.here hx rfl (hb hby at_57) rfl rfl ?_
    show Steps p.tables e below (T5.setTop (mkF m 58 #[.val (.int p1), .val (.int p2), .val (.int (8 : Int32)), .val (.ref s_COMMITTED_AGAINST_HEURISTIC), .val (.int (0 : Int32)), .val (.int (0 : Int32)), .unset, .unset] [(.ref s_COMMITTED_AGAINST_HEURISTIC)])) _
    refine st6 _ ?_
    show Steps p.tables e below (T6.setTop (mkF m 61 #[.val (.int p1), .val (.int p2), .val (.int (8 : Int32)), .val (.ref s_COMMITTED_AGAINST_HEURISTIC), .val (.int (0 : Int32)), .val (.int (0 : Int32)), .unset, .unset] [(.ref s_HEURISTIC_MISMATCH)])) _
    refine st7 _ ?_
    show Steps p.tables e below (T7.setTop (mkF m 64 #[.val (.int p1), .val (.int p2), .val (.int (8 : Int32)), .val (.ref s_COMMITTED_AGAINST_HEURISTIC), .val (.int (0 : Int32)), .val (.int (0 : Int32)), .unset, .unset] [(.ref s_HEURISTIC_ABORT), (.ref s_HEURISTIC_MISMATCH)])) _
    refine Jvm.RoadKit.acmp (g := (mkF m 64 #[.val (.int p1), .val (.int p2), .val (.int (8 : Int32)), .val (.ref s_COMMITTED_AGAINST_HEURISTIC), .val (.int (0 : Int32)), .val (.int (0 : Int32)), .unset, .unset] [(.ref s_HEURISTIC_ABORT), (.ref s_HEURISTIC_MISMATCH)])) X7 hx rfl rfl rfl (pc0 := 64) (pc' := 71) (same := false) rfl (hb hby at_64) rfl (decide_eq_false fun q => (Fld.ne O_HEURISTIC_MISMATCH O_HEURISTIC_ABORT (fun q => absurd (Value.int.inj q) (by decide))) (Value.ref.inj q)) (by decide) (by decide) ?_
    show Steps p.tables e below (T7.setTop (mkF m 71 #[.val (.int p1), .val (.int p2), .val (.int (8 : Int32)), .val (.ref s_COMMITTED_AGAINST_HEURISTIC), .val (.int (0 : Int32)), .val (.int (0 : Int32)), .unset, .unset] [])) _
    refine XS.iconst X7.here hx rfl (hb hby at_71) ?_
    show Steps p.tables e below (T7.setTop (mkF m 72 #[.val (.int p1), .val (.int p2), .val (.int (8 : Int32)), .val (.ref s_COMMITTED_AGAINST_HEURISTIC), .val (.int (0 : Int32)), .val (.int (0 : Int32)), .unset, .unset] [(.int (0 : Int32))])) _
    refine XS.istore X7.here hx rfl (hb hby at_72) rfl (l' := #[.val (.int p1), .val (.int p2), .val (.int (8 : Int32)), .val (.ref s_COMMITTED_AGAINST_HEURISTIC), .val (.int (0 : Int32)), .val (.int (0 : Int32)), .val (.int (0 : Int32)), .unset]) rfl ?_
    show Steps p.tables e below (T7.setTop (mkF m 74 #[.val (.int p1), .val (.int p2), .val (.int (8 : Int32)), .val (.ref s_COMMITTED_AGAINST_HEURISTIC), .val (.int (0 : Int32)), .val (.int (0 : Int32)), .val (.int (0 : Int32)), .unset] [])) _
    refine XS.iload X7.here hx rfl (hb hby at_74) rfl ?_
    show Steps p.tables e below (T7.setTop (mkF m 76 #[.val (.int p1), .val (.int p2), .val (.int (8 : Int32)), .val (.ref s_COMMITTED_AGAINST_HEURISTIC), .val (.int (0 : Int32)), .val (.int (0 : Int32)), .val (.int (0 : Int32)), .unset] [(.int (0 : Int32))])) _
    refine XS.iload X7.here hx rfl (hb hby at_76) rfl ?_
    show Steps p.tables e below (T7.setTop (mkF m 78 #[.val (.int p1), .val (.int p2), .val (.int (8 : Int32)), .val (.ref s_COMMITTED_AGAINST_HEURISTIC), .val (.int (0 : Int32)), .val (.int (0 : Int32)), .val (.int (0 : Int32)), .unset] [(.int (0 : Int32)), (.int (0 : Int32))])) _
    refine XS.icmpYes X7.here hx rfl (pc0 := 78) (pc' := 83) rfl (hb hby at_78) rfl (teq (by decide : (0 : Int32) = (0 : Int32))).1 (by decide) (by decide) ?_
    show Steps p.tables e below (T7.setTop (mkF m 83 #[.val (.int p1), .val (.int p2), .val (.int (8 : Int32)), .val (.ref s_COMMITTED_AGAINST_HEURISTIC), .val (.int (0 : Int32)), .val (.int (0 : Int32)), .val (.int (0 : Int32)), .unset] [])) _
    refine XS.iload X7.here hx rfl (hb hby at_83) rfl ?_
    show Steps p.tables e below (T7.setTop (mkF m 85 #[.val (.int p1), .val (.int p2), .val (.int (8 : Int32)), .val (.ref s_COMMITTED_AGAINST_HEURISTIC), .val (.int (0 : Int32)), .val (.int (0 : Int32)), .val (.int (0 : Int32)), .unset] [(.int (0 : Int32))])) _
    refine XS.ifYes X7.here hx rfl (pc0 := 85) (pc' := 119) rfl (hb hby at_85) rfl ((if0 _ _).trans (teq (by decide : (0 : Int32) = (0 : Int32))).1) (by decide) (by decide) ?_
    show Steps p.tables e below (T7.setTop (mkF m 119 #[.val (.int p1), .val (.int p2), .val (.int (8 : Int32)), .val (.ref s_COMMITTED_AGAINST_HEURISTIC), .val (.int (0 : Int32)), .val (.int (0 : Int32)), .val (.int (0 : Int32)), .unset] [])) _
    refine XS.iconst X7.here hx rfl (hb hby at_119) ?_
    show Steps p.tables e below (T7.setTop (mkF m 120 #[.val (.int p1), .val (.int p2), .val (.int (8 : Int32)), .val (.ref s_COMMITTED_AGAINST_HEURISTIC), .val (.int (0 : Int32)), .val (.int (0 : Int32)), .val (.int (0 : Int32)), .unset] [(.int (1 : Int32))])) _
    exact retN X7 hx (t := .boolean) Bd.returns (by simp) (hb hby at_120) hr
  · show own_Q (some (.int (1 : Int32))) h0 n0 _ T7.heap _
    rw [e7]
    exact ⟨rfl, N3, rfl⟩
theorem d1_83 : decode method_2_code 83 = .ok (.getstatic 37, 3) := by decide +kernel
theorem d1_86 : decode method_2_code 86 = .ok (.areturn, 1) := by decide +kernel
set_option maxRecDepth 65536 in
set_option maxHeartbeats 40000000 in
theorem r_pick_9 (l : Launch) (Z : State) (a0 : Array Value) (hw : ∀ d ∈ tables_1, d.before a0 Z = true) (ws : List Jvm.Cond) (s_PREPARED s_IN_DOUBT s_Outcome_COMMITTED s_HEURISTICALLY_ABORTED s_HEURISTICALLY_COMMITTED s_Joined_State_COMMITTED s_HEURISTIC_ABORT s_HEURISTIC_COMMIT s_COMMITTED_AGAINST_HEURISTIC s_HEURISTIC_MISMATCH s_COMMITTED_IN_ONE_PHASE s_TxnStatus_COMMITTED s_ABORTED_AGAINST_HEURISTIC s_Outcome_ABORTED s_PRE_ABORTED s_PRE_COMMITTED s_Joined_State_ABORTED s_TxnStatus_ABORTED : Addr) (h0 : Heap) (n0 : Nat) (Z0 : n0 ≤ h0.size) (G : own_Ctx Z h0 s_PREPARED s_IN_DOUBT s_Outcome_COMMITTED s_HEURISTICALLY_ABORTED s_HEURISTICALLY_COMMITTED s_Joined_State_COMMITTED s_HEURISTIC_ABORT s_HEURISTIC_COMMIT s_COMMITTED_AGAINST_HEURISTIC s_HEURISTIC_MISMATCH s_COMMITTED_IN_ONE_PHASE s_TxnStatus_COMMITTED s_ABORTED_AGAINST_HEURISTIC s_Outcome_ABORTED s_PRE_ABORTED s_PRE_COMMITTED s_Joined_State_ABORTED s_TxnStatus_ABORTED)   :
    MetFree l (⟨"com/example/unanimity/unanimity/core/StateAwaitsDecisionPinLaw", "pick", "(I)Lcom/example/unanimity/unanimity/core/Joined$State;"⟩ : MethodName) (head1 (Jvm.Cond.code (⟨"com/example/unanimity/unanimity/core/StateAwaitsDecisionPinLaw", "pick", "(I)Lcom/example/unanimity/unanimity/core/Joined$State;"⟩ : MethodName) method_2_code 1 (some (.object "com/example/unanimity/unanimity/core/Joined$State")) :: ws) ({ frames := 0, cells := 0, slots := 0, locals := 0 } : Room)) (fun a U => a = #[(.int (9 : Int32))] ∧ Z.Warmed39 U.vm ∧ U.heap = h0) (fun _ _ _ _ _ => True) (fun _ U o U' => ∃ v L, o = .returned v ∧ own_Q (some (.ref s_ABORTED_AGAINST_HEURISTIC)) h0 n0 v U'.heap L ∧ FrameEnd U o U' L ({ frames := 0, cells := 0, slots := 0, locals := 0 } : Room).cells ({ frames := 0, cells := 0, slots := 0, locals := 0 } : Room).slots) := by
  have G0 := G
  obtain ⟨S_PREPARED, E_PREPARED, O_PREPARED, S_IN_DOUBT, E_IN_DOUBT, O_IN_DOUBT, S_Outcome_COMMITTED, E_Outcome_COMMITTED, O_Outcome_COMMITTED, S_HEURISTICALLY_ABORTED, E_HEURISTICALLY_ABORTED, O_HEURISTICALLY_ABORTED, S_HEURISTICALLY_COMMITTED, E_HEURISTICALLY_COMMITTED, O_HEURISTICALLY_COMMITTED, S_Joined_State_COMMITTED, E_Joined_State_COMMITTED, S_HEURISTIC_ABORT, E_HEURISTIC_ABORT, O_HEURISTIC_ABORT, S_HEURISTIC_COMMIT, E_HEURISTIC_COMMIT, O_HEURISTIC_COMMIT, S_COMMITTED_AGAINST_HEURISTIC, E_COMMITTED_AGAINST_HEURISTIC, S_HEURISTIC_MISMATCH, E_HEURISTIC_MISMATCH, O_HEURISTIC_MISMATCH, S_COMMITTED_IN_ONE_PHASE, E_COMMITTED_IN_ONE_PHASE, S_TxnStatus_COMMITTED, E_TxnStatus_COMMITTED, O_TxnStatus_COMMITTED, S_ABORTED_AGAINST_HEURISTIC, E_ABORTED_AGAINST_HEURISTIC, S_Outcome_ABORTED, E_Outcome_ABORTED, O_Outcome_ABORTED, S_PRE_ABORTED, E_PRE_ABORTED, O_PRE_ABORTED, S_PRE_COMMITTED, E_PRE_COMMITTED, O_PRE_COMMITTED, S_Joined_State_ABORTED, E_Joined_State_ABORTED, S_TxnStatus_ABORTED, E_TxnStatus_ABORTED, O_TxnStatus_ABORTED, F_decision_PREPARED, F_status_PREPARED, F_decision_Joined_State_COMMITTED, F_decision_HEURISTICALLY_ABORTED, F_status_HEURISTICALLY_ABORTED, F_decision_COMMITTED_AGAINST_HEURISTIC, F_status_COMMITTED_AGAINST_HEURISTIC, F_decision_COMMITTED_IN_ONE_PHASE, F_status_COMMITTED_IN_ONE_PHASE, F_decision_ABORTED_AGAINST_HEURISTIC, F_status_ABORTED_AGAINST_HEURISTIC, F_decision_PRE_ABORTED, F_status_PRE_ABORTED, F_decision_HEURISTICALLY_COMMITTED, F_status_HEURISTICALLY_COMMITTED, F_decision_PRE_COMMITTED, F_status_PRE_COMMITTED, F_decision_Joined_State_ABORTED, F_status_Joined_State_COMMITTED, F_status_Joined_State_ABORTED⟩ := G
  refine MetFree.of_bodySF (plainFor_of_name pn_1) hisR ?_
  intro p e s m args below meth c s₁ Bd hml0 hP hK
  obtain ⟨rfl, hZ, hh⟩ := hP
  have hx := Bd.exec
  have hby := Bd.bytes
  have hml : c.maxLocals = 1 := hml0
  have hown : s.vm.findClass "com/example/unanimity/unanimity/core/StateAwaitsDecisionPinLaw" = some m.cls := findClass_of_methodNamed Bd.named
  have hnm := (name_of_methodNamed Bd.named Bd.method).1
  have X0 : Stand p l e ({ frames := 0, cells := 0, slots := 0, locals := 0 } : Room) s m #[(.int (9 : Int32))] below meth c s₁ [] 0 0 := Stand.of_body Bd
  have e0 : s₁.heap = h0 := by rw [← hh, Bd.state]; rfl
  have N0 := Fr.nil n0
  have pre0 : ∀ t, Steps p.tables e below (s₁.setTop (mkF m 0 #[.val (.int (9 : Int32))] [])) t → Steps p.tables e below (s₁.setTop (entryFrame m #[(.int (9 : Int32))] 1)) t := fun t k => castTop (ef_1_4 m (9 : Int32)) k
  obtain ⟨T1, X1, e1, st1⟩ := getS2 X0 hx hZ hown (host := "") (Or.inl (hw _ (List.mem_of_getElem? (i := 56) rfl))) Via.refl e0 S_ABORTED_AGAINST_HEURISTIC (g := (mkF m 83 #[.val (.int (9 : Int32))] [])) rfl (hb hby d1_83)
  obtain ⟨fs, hr, hrun, hended, hW, hsame⟩ := X1.leave (v := some (.ref s_ABORTED_AGAINST_HEURISTIC)) (fun h => by rw [Bd.returns] at h; cases h)
  refine ⟨_, _, pre0 _ ?_, hrun, hended, _, _, rfl, ?_, ⟨_, rfl⟩, hW, hsame.mono (by decide) (by decide)⟩
  · show Steps p.tables e below (s₁.setTop (mkF m 0 #[.val (.int (9 : Int32))] [])) _
    refine XS.iloadN X0.here hx rfl (hb hby d1_0) rfl ?_
    show Steps p.tables e below (s₁.setTop (mkF m 1 #[.val (.int (9 : Int32))] [(.int (9 : Int32))])) _
    refine XS.ifYes X0.here hx rfl (pc0 := 1) (pc' := 8) rfl (hb hby d1_1) rfl ((if0 _ _).trans (feq (by decide : ¬ ((9 : Int32) = (0 : Int32)))).2) (by decide) (by decide) ?_
    show Steps p.tables e below (s₁.setTop (mkF m 8 #[.val (.int (9 : Int32))] [])) _
    refine XS.iloadN X0.here hx rfl (hb hby d1_8) rfl ?_
    show Steps p.tables e below (s₁.setTop (mkF m 9 #[.val (.int (9 : Int32))] [(.int (9 : Int32))])) _
    refine XS.iconst X0.here hx rfl (hb hby d1_9) ?_
    show Steps p.tables e below (s₁.setTop (mkF m 10 #[.val (.int (9 : Int32))] [(.int (1 : Int32)), (.int (9 : Int32))])) _
    refine XS.icmpYes X0.here hx rfl (pc0 := 10) (pc' := 17) rfl (hb hby d1_10) rfl (feq (by decide : ¬ ((9 : Int32) = (1 : Int32)))).2 (by decide) (by decide) ?_
    show Steps p.tables e below (s₁.setTop (mkF m 17 #[.val (.int (9 : Int32))] [])) _
    refine XS.iloadN X0.here hx rfl (hb hby d1_17) rfl ?_
    show Steps p.tables e below (s₁.setTop (mkF m 18 #[.val (.int (9 : Int32))] [(.int (9 : Int32))])) _
    refine XS.iconst X0.here hx rfl (hb hby d1_18) ?_
    show Steps p.tables e below (s₁.setTop (mkF m 19 #[.val (.int (9 : Int32))] [(.int (2 : Int32)), (.int (9 : Int32))])) _
    refine XS.icmpYes X0.here hx rfl (pc0 := 19) (pc' := 26) rfl (hb hby d1_19) rfl (feq (by decide : ¬ ((9 : Int32) = (2 : Int32)))).2 (by decide) (by decide) ?_
    show Steps p.tables e below (s₁.setTop (mkF m 26 #[.val (.int (9 : Int32))] [])) _
    refine XS.iloadN X0.here hx rfl (hb hby d1_26) rfl ?_
    show Steps p.tables e below (s₁.setTop (mkF m 27 #[.val (.int (9 : Int32))] [(.int (9 : Int32))])) _
    refine XS.iconst X0.here hx rfl (hb hby d1_27) ?_
    show Steps p.tables e below (s₁.setTop (mkF m 28 #[.val (.int (9 : Int32))] [(.int (3 : Int32)), (.int (9 : Int32))])) _
    refine XS.icmpYes X0.here hx rfl (pc0 := 28) (pc' := 35) rfl (hb hby d1_28) rfl (feq (by decide : ¬ ((9 : Int32) = (3 : Int32)))).2 (by decide) (by decide) ?_
    show Steps p.tables e below (s₁.setTop (mkF m 35 #[.val (.int (9 : Int32))] [])) _
    refine XS.iloadN X0.here hx rfl (hb hby d1_35) rfl ?_
    show Steps p.tables e below (s₁.setTop (mkF m 36 #[.val (.int (9 : Int32))] [(.int (9 : Int32))])) _
    refine XS.iconst X0.here hx rfl (hb hby d1_36) ?_
    show Steps p.tables e below (s₁.setTop (mkF m 37 #[.val (.int (9 : Int32))] [(.int (4 : Int32)), (.int (9 : Int32))])) _
    refine XS.icmpYes X0.here hx rfl (pc0 := 37) (pc' := 44) rfl (hb hby d1_37) rfl (feq (by decide : ¬ ((9 : Int32) = (4 : Int32)))).2 (by decide) (by decide) ?_
    show Steps p.tables e below (s₁.setTop (mkF m 44 #[.val (.int (9 : Int32))] [])) _
    refine XS.iloadN X0.here hx rfl (hb hby d1_44) rfl ?_
    show Steps p.tables e below (s₁.setTop (mkF m 45 #[.val (.int (9 : Int32))] [(.int (9 : Int32))])) _
    refine XS.iconst X0.here hx rfl (hb hby d1_45) ?_
    show Steps p.tables e below (s₁.setTop (mkF m 46 #[.val (.int (9 : Int32))] [(.int (5 : Int32)), (.int (9 : Int32))])) _
    refine XS.icmpYes X0.here hx rfl (pc0 := 46) (pc' := 53) rfl (hb hby d1_46) rfl (feq (by decide : ¬ ((9 : Int32) = (5 : Int32)))).2 (by decide) (by decide) ?_
    show Steps p.tables e below (s₁.setTop (mkF m 53 #[.val (.int (9 : Int32))] [])) _
    refine XS.iloadN X0.here hx rfl (hb hby d1_53) rfl ?_
    show Steps p.tables e below (s₁.setTop (mkF m 54 #[.val (.int (9 : Int32))] [(.int (9 : Int32))])) _
    refine XS.bipush X0.here hx rfl (hb hby d1_54) ?_
    show Steps p.tables e below (s₁.setTop (mkF m 56 #[.val (.int (9 : Int32))] [(.int (6 : Int32)), (.int (9 : Int32))])) _
    refine XS.icmpYes X0.here hx rfl (pc0 := 56) (pc' := 63) rfl (hb hby d1_56) rfl (feq (by decide : ¬ ((9 : Int32) = (6 : Int32)))).2 (by decide) (by decide) ?_
    show Steps p.tables e below (s₁.setTop (mkF m 63 #[.val (.int (9 : Int32))] [])) _
    refine XS.iloadN X0.here hx rfl (hb hby d1_63) rfl ?_
    show Steps p.tables e below (s₁.setTop (mkF m 64 #[.val (.int (9 : Int32))] [(.int (9 : Int32))])) _
    refine XS.bipush X0.here hx rfl (hb hby d1_64) ?_
    show Steps p.tables e below (s₁.setTop (mkF m 66 #[.val (.int (9 : Int32))] [(.int (7 : Int32)), (.int (9 : Int32))])) _
    refine XS.icmpYes X0.here hx rfl (pc0 := 66) (pc' := 73) rfl (hb hby d1_66) rfl (feq (by decide : ¬ ((9 : Int32) = (7 : Int32)))).2 (by decide) (by decide) ?_
    show Steps p.tables e below (s₁.setTop (mkF m 73 #[.val (.int (9 : Int32))] [])) _
    refine XS.iloadN X0.here hx rfl (hb hby d1_73) rfl ?_
    show Steps p.tables e below (s₁.setTop (mkF m 74 #[.val (.int (9 : Int32))] [(.int (9 : Int32))])) _
    refine XS.bipush X0.here hx rfl (hb hby d1_74) ?_
    show Steps p.tables e below (s₁.setTop (mkF m 76 #[.val (.int (9 : Int32))] [(.int (8 : Int32)), (.int (9 : Int32))])) _
    refine XS.icmpYes X0.here hx rfl (pc0 := 76) (pc' := 83) rfl (hb hby d1_76) rfl (feq (by decide : ¬ ((9 : Int32) = (8 : Int32)))).2 (by decide) (by decide) ?_
    show Steps p.tables e below (s₁.setTop (mkF m 83 #[.val (.int (9 : Int32))] [])) _
    refine st1 _ ?_
    show Steps p.tables e below (T1.setTop (mkF m 86 #[.val (.int (9 : Int32))] [(.ref s_ABORTED_AGAINST_HEURISTIC)])) _
    exact retOut X1 hx Bd.returns rfl (Or.inr (Or.inr (Or.inr (Or.inr ⟨rfl, rfl, rfl⟩)))) (hb hby d1_86) hr
  · show own_Q (some (.ref s_ABORTED_AGAINST_HEURISTIC)) h0 n0 _ T1.heap _
    rw [e1]
    exact ⟨rfl, N0, rfl⟩
set_option maxRecDepth 65536 in
set_option maxHeartbeats 40000000 in
theorem r_law_9 (l : Launch) (Z : State) (a0 : Array Value) (hw : ∀ d ∈ tables_1, d.before a0 Z = true) (ws : List Jvm.Cond) (s_PREPARED s_IN_DOUBT s_Outcome_COMMITTED s_HEURISTICALLY_ABORTED s_HEURISTICALLY_COMMITTED s_Joined_State_COMMITTED s_HEURISTIC_ABORT s_HEURISTIC_COMMIT s_COMMITTED_AGAINST_HEURISTIC s_HEURISTIC_MISMATCH s_COMMITTED_IN_ONE_PHASE s_TxnStatus_COMMITTED s_ABORTED_AGAINST_HEURISTIC s_Outcome_ABORTED s_PRE_ABORTED s_PRE_COMMITTED s_Joined_State_ABORTED s_TxnStatus_ABORTED : Addr) (h0 : Heap) (n0 : Nat) (Z0 : n0 ≤ h0.size) (G : own_Ctx Z h0 s_PREPARED s_IN_DOUBT s_Outcome_COMMITTED s_HEURISTICALLY_ABORTED s_HEURISTICALLY_COMMITTED s_Joined_State_COMMITTED s_HEURISTIC_ABORT s_HEURISTIC_COMMIT s_COMMITTED_AGAINST_HEURISTIC s_HEURISTIC_MISMATCH s_COMMITTED_IN_ONE_PHASE s_TxnStatus_COMMITTED s_ABORTED_AGAINST_HEURISTIC s_Outcome_ABORTED s_PRE_ABORTED s_PRE_COMMITTED s_Joined_State_ABORTED s_TxnStatus_ABORTED) (p1 p2 : Int32) (hk : (p1 &&& (2147483647 : Int32)) % (10 : Int32) = (9 : Int32)) :
    MetFree l x (head1 (Jvm.Cond.code x code maxLocals ret :: ws) room_1) (fun a U => a = #[(.int p1), (.int p2)] ∧ Z.Warmed39 U.vm ∧ U.heap = h0) (fun _ _ _ _ _ => True) (fun _ U o U' => ∃ v L, o = .returned v ∧ own_Q (some (.int (1 : Int32))) h0 n0 v U'.heap L ∧ FrameEnd U o U' L 0 0) := by
  have G0 := G
  obtain ⟨S_PREPARED, E_PREPARED, O_PREPARED, S_IN_DOUBT, E_IN_DOUBT, O_IN_DOUBT, S_Outcome_COMMITTED, E_Outcome_COMMITTED, O_Outcome_COMMITTED, S_HEURISTICALLY_ABORTED, E_HEURISTICALLY_ABORTED, O_HEURISTICALLY_ABORTED, S_HEURISTICALLY_COMMITTED, E_HEURISTICALLY_COMMITTED, O_HEURISTICALLY_COMMITTED, S_Joined_State_COMMITTED, E_Joined_State_COMMITTED, S_HEURISTIC_ABORT, E_HEURISTIC_ABORT, O_HEURISTIC_ABORT, S_HEURISTIC_COMMIT, E_HEURISTIC_COMMIT, O_HEURISTIC_COMMIT, S_COMMITTED_AGAINST_HEURISTIC, E_COMMITTED_AGAINST_HEURISTIC, S_HEURISTIC_MISMATCH, E_HEURISTIC_MISMATCH, O_HEURISTIC_MISMATCH, S_COMMITTED_IN_ONE_PHASE, E_COMMITTED_IN_ONE_PHASE, S_TxnStatus_COMMITTED, E_TxnStatus_COMMITTED, O_TxnStatus_COMMITTED, S_ABORTED_AGAINST_HEURISTIC, E_ABORTED_AGAINST_HEURISTIC, S_Outcome_ABORTED, E_Outcome_ABORTED, O_Outcome_ABORTED, S_PRE_ABORTED, E_PRE_ABORTED, O_PRE_ABORTED, S_PRE_COMMITTED, E_PRE_COMMITTED, O_PRE_COMMITTED, S_Joined_State_ABORTED, E_Joined_State_ABORTED, S_TxnStatus_ABORTED, E_TxnStatus_ABORTED, O_TxnStatus_ABORTED, F_decision_PREPARED, F_status_PREPARED, F_decision_Joined_State_COMMITTED, F_decision_HEURISTICALLY_ABORTED, F_status_HEURISTICALLY_ABORTED, F_decision_COMMITTED_AGAINST_HEURISTIC, F_status_COMMITTED_AGAINST_HEURISTIC, F_decision_COMMITTED_IN_ONE_PHASE, F_status_COMMITTED_IN_ONE_PHASE, F_decision_ABORTED_AGAINST_HEURISTIC, F_status_ABORTED_AGAINST_HEURISTIC, F_decision_PRE_ABORTED, F_status_PRE_ABORTED, F_decision_HEURISTICALLY_COMMITTED, F_status_HEURISTICALLY_COMMITTED, F_decision_PRE_COMMITTED, F_status_PRE_COMMITTED, F_decision_Joined_State_ABORTED, F_status_Joined_State_COMMITTED, F_status_Joined_State_ABORTED⟩ := G
  refine MetFree.of_bodySF (plainFor_of_name pn_1) hisR ?_
  intro p e s m args below meth c s₁ Bd hml0 hP hK
  obtain ⟨rfl, hZ, hh⟩ := hP
  have hx := Bd.exec
  have hby := Bd.bytes
  have hml : c.maxLocals = 8 := hml0
  have hown : s.vm.findClass "com/example/unanimity/unanimity/core/StateAwaitsDecisionPinLaw" = some m.cls := findClass_of_methodNamed Bd.named
  have hnm := (name_of_methodNamed Bd.named Bd.method).1
  have X0 : Stand p l e room_1 s m #[(.int p1), (.int p2)] below meth c s₁ [] 0 0 := Stand.of_body Bd
  have e0 : s₁.heap = h0 := by rw [← hh, Bd.state]; rfl
  have N0 := Fr.nil n0
  have pre0 : ∀ t, Steps p.tables e below (s₁.setTop (mkF m 0 #[.val (.int p1), .val (.int p2), .unset, .unset, .unset, .unset, .unset, .unset] [])) t → Steps p.tables e below (s₁.setTop (entryFrame m #[(.int p1), (.int p2)] maxLocals)) t := fun t k => castTop (ef_0_5 m p1 p2) k
  obtain ⟨_, _, ⟨T1, L1, k1, n1⟩, -, X1, ⟨Lc1, hQ1, l1, y1, z1⟩, st1⟩ := Jvm.LawKit.callS X0 hx (y := (⟨"com/example/unanimity/unanimity/core/StateAwaitsDecisionPinLaw", "pick", "(I)Lcom/example/unanimity/unanimity/core/Joined$State;"⟩ : MethodName)) hown (mvT hZ (hw _ (List.mem_of_getElem? (i := 1) rfl))) (mvT hZ (hw _ (List.mem_of_getElem? (i := 2) rfl))) (mvT hZ (hw _ (List.mem_of_getElem? (i := 3) rfl))) (mvT hZ (hw _ (List.mem_of_getElem? (i := 4) rfl))) (by decide) (backOf (W := 0) (r_pick_9 l Z a0 hw [] s_PREPARED s_IN_DOUBT s_Outcome_COMMITTED s_HEURISTICALLY_ABORTED s_HEURISTICALLY_COMMITTED s_Joined_State_COMMITTED s_HEURISTIC_ABORT s_HEURISTIC_COMMIT s_COMMITTED_AGAINST_HEURISTIC s_HEURISTIC_MISMATCH s_COMMITTED_IN_ONE_PHASE s_TxnStatus_COMMITTED s_ABORTED_AGAINST_HEURISTIC s_Outcome_ABORTED s_PRE_ABORTED s_PRE_COMMITTED s_Joined_State_ABORTED s_TxnStatus_ABORTED h0 n0 Z0 G0) hZ (hw _ (List.mem_of_getElem? (i := 4) rfl)) (hw _ (List.mem_of_getElem? (i := 3) rfl)) (by decide) (by decide)) (g := (mkF m 9 #[.val (.int p1), .val (.int p2), .val (.int (9 : Int32)), .unset, .unset, .unset, .unset, .unset] [(.int (9 : Int32))])) rfl (by rw [hml]; rfl) (argsL := [(.int (9 : Int32))]) (rest := []) (lenOf pd_1 rfl) rfl (by show 2 * 0 + _ ≤ _; exact Nat.le_of_eq rfl) (hb hby at_9) (fun _ _ => ⟨rfl, e0, (by decide : 0 + 0 ≤ _), (by decide : 0 + 0 ≤ _)⟩)
  dsimp only [Pt.U, Pt.locs, Pt.cells, Pt.slots] at X1 l1 y1 z1 st1 hQ1
  subst l1 y1 z1
  obtain ⟨rfl, N1q, e1⟩ := hQ1
  have N1 := Fr.app N0 N1q
  obtain ⟨cq2, kq2, q2a, q2b, q2c⟩ := isOf hZ e1 E_ABORTED_AGAINST_HEURISTIC
  obtain ⟨_, _, ⟨T2, L2, k2, n2⟩, -, X2, ⟨Lc2, hQ2, l2, y2, z2⟩, st2⟩ := X1.virtualBack hx (y := (⟨"com/example/unanimity/unanimity/core/Joined$State", "awaitsDecision", "()Z"⟩ : MethodName)) (z := (⟨"com/example/unanimity/unanimity/core/Joined$State", "awaitsDecision", "()Z"⟩ : MethodName)) hown (mvT hZ (hw _ (List.mem_of_getElem? (i := 8) rfl))) (mvT hZ (hw _ (List.mem_of_getElem? (i := 9) rfl))) (notFace_of_selects (args := #[]) (mvT hZ (hw _ (List.mem_of_getElem? (i := 11) rfl)))) (mvT hZ (hw _ (List.mem_of_getElem? (i := 11) rfl))) (mvT hZ (hw _ (List.mem_of_getElem? (i := 10) rfl))) (by decide) (backOf (W := 0) (r_aw_9 l Z a0 hw [] s_PREPARED s_IN_DOUBT s_Outcome_COMMITTED s_HEURISTICALLY_ABORTED s_HEURISTICALLY_COMMITTED s_Joined_State_COMMITTED s_HEURISTIC_ABORT s_HEURISTIC_COMMIT s_COMMITTED_AGAINST_HEURISTIC s_HEURISTIC_MISMATCH s_COMMITTED_IN_ONE_PHASE s_TxnStatus_COMMITTED s_ABORTED_AGAINST_HEURISTIC s_Outcome_ABORTED s_PRE_ABORTED s_PRE_COMMITTED s_Joined_State_ABORTED s_TxnStatus_ABORTED h0 n0 Z0 G0) hZ (hw _ (List.mem_of_getElem? (i := 12) rfl)) (hw _ (List.mem_of_getElem? (i := 6) rfl)) (by decide) (by decide)) q2a q2c (g := (mkF m 26 #[.val (.int p1), .val (.int p2), .val (.int (9 : Int32)), .val (.ref s_ABORTED_AGAINST_HEURISTIC), .val (.int (0 : Int32)), .unset, .unset, .unset] [(.ref s_ABORTED_AGAINST_HEURISTIC)])) rfl (by rw [hml]; rfl) (Steps.refl _) (argsL := []) (rest := []) (lenOf pd_2 rfl) rfl (by show 2 * 0 + _ ≤ _; exact Nat.le_of_eq rfl) (hb hby at_26) (fun _ _ => ⟨rfl, e1, (by decide : 0 + 0 ≤ _), (by decide : 0 + 0 ≤ _)⟩)
  dsimp only [Pt.U, Pt.locs, Pt.cells, Pt.slots] at X2 l2 y2 z2 st2 hQ2
  subst l2 y2 z2
  obtain ⟨rfl, N2q, e2⟩ := hQ2
  have N2 := Fr.app N1 N2q
  obtain ⟨cq3, kq3, q3a, q3b, q3c⟩ := isOf hZ e2 E_ABORTED_AGAINST_HEURISTIC
  obtain ⟨_, _, ⟨T3, L3, k3, n3⟩, -, X3, ⟨Lc3, hQ3, l3, y3, z3⟩, st3⟩ := X2.virtualBack hx (y := (⟨"com/example/unanimity/unanimity/core/Joined$State", "inDoubt", "()Z"⟩ : MethodName)) (z := (⟨"com/example/unanimity/unanimity/core/Joined$State", "inDoubt", "()Z"⟩ : MethodName)) hown (mvT hZ (hw _ (List.mem_of_getElem? (i := 15) rfl))) (mvT hZ (hw _ (List.mem_of_getElem? (i := 16) rfl))) (notFace_of_selects (args := #[]) (mvT hZ (hw _ (List.mem_of_getElem? (i := 18) rfl)))) (mvT hZ (hw _ (List.mem_of_getElem? (i := 18) rfl))) (mvT hZ (hw _ (List.mem_of_getElem? (i := 17) rfl))) (by decide) (backOf (W := 0) (r_in_9 l Z a0 hw [] s_PREPARED s_IN_DOUBT s_Outcome_COMMITTED s_HEURISTICALLY_ABORTED s_HEURISTICALLY_COMMITTED s_Joined_State_COMMITTED s_HEURISTIC_ABORT s_HEURISTIC_COMMIT s_COMMITTED_AGAINST_HEURISTIC s_HEURISTIC_MISMATCH s_COMMITTED_IN_ONE_PHASE s_TxnStatus_COMMITTED s_ABORTED_AGAINST_HEURISTIC s_Outcome_ABORTED s_PRE_ABORTED s_PRE_COMMITTED s_Joined_State_ABORTED s_TxnStatus_ABORTED h0 n0 Z0 G0) hZ (hw _ (List.mem_of_getElem? (i := 19) rfl)) (hw _ (List.mem_of_getElem? (i := 6) rfl)) (by decide) (by decide)) q3a q3c (g := (mkF m 41 #[.val (.int p1), .val (.int p2), .val (.int (9 : Int32)), .val (.ref s_ABORTED_AGAINST_HEURISTIC), .val (.int (0 : Int32)), .val (.int (0 : Int32)), .unset, .unset] [(.ref s_ABORTED_AGAINST_HEURISTIC)])) rfl (by rw [hml]; rfl) (Steps.refl _) (argsL := []) (rest := []) (lenOf pd_2 rfl) rfl (by show 2 * 0 + _ ≤ _; exact Nat.le_of_eq rfl) (hb hby at_41) (fun _ _ => ⟨rfl, e2, (by decide : 0 + 0 ≤ _), (by decide : 0 + 0 ≤ _)⟩)
  dsimp only [Pt.U, Pt.locs, Pt.cells, Pt.slots] at X3 l3 y3 z3 st3 hQ3
  subst l3 y3 z3
  obtain ⟨rfl, N3q, e3⟩ := hQ3
  have N3 := Fr.app N2 N3q
  obtain ⟨T4, X4, e4, st4⟩ := getF X3 hx hZ hown (host := "") (Or.inl (hw _ (List.mem_of_getElem? (i := 45) rfl))) Via.refl e3 F_status_ABORTED_AGAINST_HEURISTIC (g := (mkF m 48 #[.val (.int p1), .val (.int p2), .val (.int (9 : Int32)), .val (.ref s_ABORTED_AGAINST_HEURISTIC), .val (.int (0 : Int32)), .val (.int (0 : Int32)), .unset, .unset] [(.ref s_ABORTED_AGAINST_HEURISTIC)])) rfl rfl (hb hby at_48)
  obtain ⟨T5, X5, e5, st5⟩ := getS2 X4 hx hZ hown (host := "") (Or.inl (hw _ (List.mem_of_getElem? (i := 46) rfl))) Via.refl e4 S_HEURISTIC_COMMIT (g := (mkF m 51 #[.val (.int p1), .val (.int p2), .val (.int (9 : Int32)), .val (.ref s_ABORTED_AGAINST_HEURISTIC), .val (.int (0 : Int32)), .val (.int (0 : Int32)), .unset, .unset] [(.ref s_HEURISTIC_MISMATCH)])) rfl (hb hby at_51)
  obtain ⟨T6, X6, e6, st6⟩ := getF X5 hx hZ hown (host := "") (Or.inl (hw _ (List.mem_of_getElem? (i := 45) rfl))) Via.refl e5 F_status_ABORTED_AGAINST_HEURISTIC (g := (mkF m 58 #[.val (.int p1), .val (.int p2), .val (.int (9 : Int32)), .val (.ref s_ABORTED_AGAINST_HEURISTIC), .val (.int (0 : Int32)), .val (.int (0 : Int32)), .unset, .unset] [(.ref s_ABORTED_AGAINST_HEURISTIC)])) rfl rfl (hb hby at_58)
  obtain ⟨T7, X7, e7, st7⟩ := getS2 X6 hx hZ hown (host := "") (Or.inl (hw _ (List.mem_of_getElem? (i := 48) rfl))) Via.refl e6 S_HEURISTIC_ABORT (g := (mkF m 61 #[.val (.int p1), .val (.int p2), .val (.int (9 : Int32)), .val (.ref s_ABORTED_AGAINST_HEURISTIC), .val (.int (0 : Int32)), .val (.int (0 : Int32)), .unset, .unset] [(.ref s_HEURISTIC_MISMATCH)])) rfl (hb hby at_61)
  obtain ⟨fs, hr, hrun, hended, hW, hsame⟩ := X7.leave (v := some (.int (1 : Int32))) (fun h => by rw [Bd.returns] at h; cases h)
  refine ⟨_, _, pre0 _ ?_, hrun, hended, _, _, rfl, ?_, ⟨_, rfl⟩, hW, hsame.mono (by decide) (by decide)⟩
  · show Steps p.tables e below (s₁.setTop (mkF m 0 #[.val (.int p1), .val (.int p2), .unset, .unset, .unset, .unset, .unset, .unset] [])) _
    refine XS.iloadN X0.here hx rfl (hb hby at_0) rfl ?_
    show Steps p.tables e below (s₁.setTop (mkF m 1 #[.val (.int p1), .val (.int p2), .unset, .unset, .unset, .unset, .unset, .unset] [(.int p1)])) _
    refine X0.ldcInt hx hown (mvT hZ (hw _ (List.mem_of_getElem? (i := 0) rfl))) (g := (mkF m 1 #[.val (.int p1), .val (.int p2), .unset, .unset, .unset, .unset, .unset, .unset] [(.int p1)])) rfl (hb hby at_1) _ ?_
    show Steps p.tables e below (s₁.setTop (mkF m 3 #[.val (.int p1), .val (.int p2), .unset, .unset, .unset, .unset, .unset, .unset] [(.int (2147483647 : Int32)), (.int p1)])) _
    refine XS.iand X0.here hx rfl (hb hby at_3) rfl ?_
    show Steps p.tables e below (s₁.setTop (mkF m 4 #[.val (.int p1), .val (.int p2), .unset, .unset, .unset, .unset, .unset, .unset] [(.int (p1 &&& (2147483647 : Int32)))])) _
    refine XS.bipush X0.here hx rfl (hb hby at_4) ?_
    show Steps p.tables e below (s₁.setTop (mkF m 6 #[.val (.int p1), .val (.int p2), .unset, .unset, .unset, .unset, .unset, .unset] [(.int (10 : Int32)), (.int (p1 &&& (2147483647 : Int32)))])) _
    refine iremM X0 hx rfl (hb hby at_6) rfl (by decide) ?_
    show Steps p.tables e below (s₁.setTop (mkF m 7 #[.val (.int p1), .val (.int p2), .unset, .unset, .unset, .unset, .unset, .unset] [(.int ((p1 &&& (2147483647 : Int32)) % (10 : Int32)))])) _
    rw [hk]
    show Steps p.tables e below (s₁.setTop (mkF m 7 #[.val (.int p1), .val (.int p2), .unset, .unset, .unset, .unset, .unset, .unset] [(.int (9 : Int32))])) _
    refine XS.istoreN X0.here hx rfl (hb hby at_7) rfl (l' := #[.val (.int p1), .val (.int p2), .val (.int (9 : Int32)), .unset, .unset, .unset, .unset, .unset]) rfl ?_
    show Steps p.tables e below (s₁.setTop (mkF m 8 #[.val (.int p1), .val (.int p2), .val (.int (9 : Int32)), .unset, .unset, .unset, .unset, .unset] [])) _
    refine XS.iloadN X0.here hx rfl (hb hby at_8) rfl ?_
    show Steps p.tables e below (s₁.setTop (mkF m 9 #[.val (.int p1), .val (.int p2), .val (.int (9 : Int32)), .unset, .unset, .unset, .unset, .unset] [(.int (9 : Int32))])) _
    refine st1 _ ?_
    show Steps p.tables e below (T1.setTop (mkF m 12 #[.val (.int p1), .val (.int p2), .val (.int (9 : Int32)), .unset, .unset, .unset, .unset, .unset] [(.ref s_ABORTED_AGAINST_HEURISTIC)])) _
    refine XS.astoreN X1.here hx rfl (hb hby at_12) rfl rfl (l' := #[.val (.int p1), .val (.int p2), .val (.int (9 : Int32)), .val (.ref s_ABORTED_AGAINST_HEURISTIC), .unset, .unset, .unset, .unset]) rfl ?_
    show Steps p.tables e below (T1.setTop (mkF m 13 #[.val (.int p1), .val (.int p2), .val (.int (9 : Int32)), .val (.ref s_ABORTED_AGAINST_HEURISTIC), .unset, .unset, .unset, .unset] [])) _
    refine XS.iloadN X1.here hx rfl (hb hby at_13) rfl ?_
    show Steps p.tables e below (T1.setTop (mkF m 14 #[.val (.int p1), .val (.int p2), .val (.int (9 : Int32)), .val (.ref s_ABORTED_AGAINST_HEURISTIC), .unset, .unset, .unset, .unset] [(.int (9 : Int32))])) _
    refine XS.iconst X1.here hx rfl (hb hby at_14) ?_
    show Steps p.tables e below (T1.setTop (mkF m 15 #[.val (.int p1), .val (.int p2), .val (.int (9 : Int32)), .val (.ref s_ABORTED_AGAINST_HEURISTIC), .unset, .unset, .unset, .unset] [(.int (5 : Int32)), (.int (9 : Int32))])) _
    refine XS.icmpYes X1.here hx rfl (pc0 := 15) (pc' := 22) rfl (hb hby at_15) rfl (flt (by decide : ¬ ((9 : Int32) < (5 : Int32)))).2.1 (by decide) (by decide) ?_
    show Steps p.tables e below (T1.setTop (mkF m 22 #[.val (.int p1), .val (.int p2), .val (.int (9 : Int32)), .val (.ref s_ABORTED_AGAINST_HEURISTIC), .unset, .unset, .unset, .unset] [])) _
    refine XS.iconst X1.here hx rfl (hb hby at_22) ?_
    show Steps p.tables e below (T1.setTop (mkF m 23 #[.val (.int p1), .val (.int p2), .val (.int (9 : Int32)), .val (.ref s_ABORTED_AGAINST_HEURISTIC), .unset, .unset, .unset, .unset] [(.int (0 : Int32))])) _
    refine XS.istore X1.here hx rfl (hb hby at_23) rfl (l' := #[.val (.int p1), .val (.int p2), .val (.int (9 : Int32)), .val (.ref s_ABORTED_AGAINST_HEURISTIC), .val (.int (0 : Int32)), .unset, .unset, .unset]) rfl ?_
    show Steps p.tables e below (T1.setTop (mkF m 25 #[.val (.int p1), .val (.int p2), .val (.int (9 : Int32)), .val (.ref s_ABORTED_AGAINST_HEURISTIC), .val (.int (0 : Int32)), .unset, .unset, .unset] [])) _
    refine XS.aloadN X1.here hx rfl (hb hby at_25) rfl rfl ?_
    show Steps p.tables e below (T1.setTop (mkF m 26 #[.val (.int p1), .val (.int p2), .val (.int (9 : Int32)), .val (.ref s_ABORTED_AGAINST_HEURISTIC), .val (.int (0 : Int32)), .unset, .unset, .unset] [(.ref s_ABORTED_AGAINST_HEURISTIC)])) _
    refine st2.trans ?_
    show Steps p.tables e below (T2.setTop (mkF m 29 #[.val (.int p1), .val (.int p2), .val (.int (9 : Int32)), .val (.ref s_ABORTED_AGAINST_HEURISTIC), .val (.int (0 : Int32)), .unset, .unset, .unset] [(.int (0 : Int32))])) _
    refine XS.istore X2.here hx rfl (hb hby at_29) rfl (l' := #[.val (.int p1), .val (.int p2), .val (.int (9 : Int32)), .val (.ref s_ABORTED_AGAINST_HEURISTIC), .val (.int (0 : Int32)), .val (.int (0 : Int32)), .unset, .unset]) rfl ?_
    show Steps p.tables e below (T2.setTop (mkF m 31 #[.val (.int p1), .val (.int p2), .val (.int (9 : Int32)), .val (.ref s_ABORTED_AGAINST_HEURISTIC), .val (.int (0 : Int32)), .val (.int (0 : Int32)), .unset, .unset] [])) _
    refine XS.iload X2.here hx rfl (hb hby at_31) rfl ?_
    show Steps p.tables e below (T2.setTop (mkF m 33 #[.val (.int p1), .val (.int p2), .val (.int (9 : Int32)), .val (.ref s_ABORTED_AGAINST_HEURISTIC), .val (.int (0 : Int32)), .val (.int (0 : Int32)), .unset, .unset] [(.int (0 : Int32))])) _
    refine XS.iload X2.here hx rfl (hb hby at_33) rfl ?_
    show Steps p.tables e below (T2.setTop (mkF m 35 #[.val (.int p1), .val (.int p2), .val (.int (9 : Int32)), .val (.ref s_ABORTED_AGAINST_HEURISTIC), .val (.int (0 : Int32)), .val (.int (0 : Int32)), .unset, .unset] [(.int (0 : Int32)), (.int (0 : Int32))])) _
    refine XS.icmpYes X2.here hx rfl (pc0 := 35) (pc' := 40) rfl (hb hby at_35) rfl (teq (by decide : (0 : Int32) = (0 : Int32))).1 (by decide) (by decide) ?_
    show Steps p.tables e below (T2.setTop (mkF m 40 #[.val (.int p1), .val (.int p2), .val (.int (9 : Int32)), .val (.ref s_ABORTED_AGAINST_HEURISTIC), .val (.int (0 : Int32)), .val (.int (0 : Int32)), .unset, .unset] [])) _
    refine XS.aloadN X2.here hx rfl (hb hby at_40) rfl rfl ?_
    show Steps p.tables e below (T2.setTop (mkF m 41 #[.val (.int p1), .val (.int p2), .val (.int (9 : Int32)), .val (.ref s_ABORTED_AGAINST_HEURISTIC), .val (.int (0 : Int32)), .val (.int (0 : Int32)), .unset, .unset] [(.ref s_ABORTED_AGAINST_HEURISTIC)])) _
    refine st3.trans ?_
    show Steps p.tables e below (T3.setTop (mkF m 44 #[.val (.int p1), .val (.int p2), .val (.int (9 : Int32)), .val (.ref s_ABORTED_AGAINST_HEURISTIC), .val (.int (0 : Int32)), .val (.int (0 : Int32)), .unset, .unset] [(.int (0 : Int32))])) _
    refine XS.ifNo X3.here hx rfl (hb hby at_44) rfl ((if0 _ _).trans (teq (by decide : (0 : Int32) = (0 : Int32))).2) ?_
    show Steps p.tables e below (T3.setTop (mkF m 47 #[.val (.int p1), .val (.int p2), .val (.int (9 : Int32)), .val (.ref s_ABORTED_AGAINST_HEURISTIC), .val (.int (0 : Int32)), .val (.int (0 : Int32)), .unset, .unset] [])) _
    refine XS.aloadN X3.here hx rfl (hb hby at_47) rfl rfl ?_
    show Steps p.tables e below (T3.setTop (mkF m 48 #[.val (.int p1), .val (.int p2), .val (.int (9 : Int32)), .val (.ref s_ABORTED_AGAINST_HEURISTIC), .val (.int (0 : Int32)), .val (.int (0 : Int32)), .unset, .unset] [(.ref s_ABORTED_AGAINST_HEURISTIC)])) _
    refine st4 _ ?_
    show Steps p.tables e below (T4.setTop (mkF m 51 #[.val (.int p1), .val (.int p2), .val (.int (9 : Int32)), .val (.ref s_ABORTED_AGAINST_HEURISTIC), .val (.int (0 : Int32)), .val (.int (0 : Int32)), .unset, .unset] [(.ref s_HEURISTIC_MISMATCH)])) _
    refine st5 _ ?_
    show Steps p.tables e below (T5.setTop (mkF m 54 #[.val (.int p1), .val (.int p2), .val (.int (9 : Int32)), .val (.ref s_ABORTED_AGAINST_HEURISTIC), .val (.int (0 : Int32)), .val (.int (0 : Int32)), .unset, .unset] [(.ref s_HEURISTIC_COMMIT), (.ref s_HEURISTIC_MISMATCH)])) _
    refine Jvm.RoadKit.acmp (g := (mkF m 54 #[.val (.int p1), .val (.int p2), .val (.int (9 : Int32)), .val (.ref s_ABORTED_AGAINST_HEURISTIC), .val (.int (0 : Int32)), .val (.int (0 : Int32)), .unset, .unset] [(.ref s_HEURISTIC_COMMIT), (.ref s_HEURISTIC_MISMATCH)])) X5 hx rfl rfl rfl (pc0 := 54) (pc' := 57) (same := false) rfl (hb hby at_54) rfl (decide_eq_false fun q => (Fld.ne O_HEURISTIC_MISMATCH O_HEURISTIC_COMMIT (fun q => absurd (Value.int.inj q) (by decide))) (Value.ref.inj q)) (by decide) (by decide) ?_
    show Steps p.tables e below (T5.setTop (mkF m 57 #[.val (.int p1), .val (.int p2), .val (.int (9 : Int32)), .val (.ref s_ABORTED_AGAINST_HEURISTIC), .val (.int (0 : Int32)), .val (.int (0 : Int32)), .unset, .unset] [])) _
    refine XS.aloadN X5.here hx rfl (hb hby at_57) rfl rfl ?_
    show Steps p.tables e below (T5.setTop (mkF m 58 #[.val (.int p1), .val (.int p2), .val (.int (9 : Int32)), .val (.ref s_ABORTED_AGAINST_HEURISTIC), .val (.int (0 : Int32)), .val (.int (0 : Int32)), .unset, .unset] [(.ref s_ABORTED_AGAINST_HEURISTIC)])) _
    refine st6 _ ?_
    show Steps p.tables e below (T6.setTop (mkF m 61 #[.val (.int p1), .val (.int p2), .val (.int (9 : Int32)), .val (.ref s_ABORTED_AGAINST_HEURISTIC), .val (.int (0 : Int32)), .val (.int (0 : Int32)), .unset, .unset] [(.ref s_HEURISTIC_MISMATCH)])) _
    refine st7 _ ?_
    show Steps p.tables e below (T7.setTop (mkF m 64 #[.val (.int p1), .val (.int p2), .val (.int (9 : Int32)), .val (.ref s_ABORTED_AGAINST_HEURISTIC), .val (.int (0 : Int32)), .val (.int (0 : Int32)), .unset, .unset] [(.ref s_HEURISTIC_ABORT), (.ref s_HEURISTIC_MISMATCH)])) _
    refine Jvm.RoadKit.acmp (g := (mkF m 64 #[.val (.int p1), .val (.int p2), .val (.int (9 : Int32)), .val (.ref s_ABORTED_AGAINST_HEURISTIC), .val (.int (0 : Int32)), .val (.int (0 : Int32)), .unset, .unset] [(.ref s_HEURISTIC_ABORT), (.ref s_HEURISTIC_MISMATCH)])) X7 hx rfl rfl rfl (pc0 := 64) (pc' := 71) (same := false) rfl (hb hby at_64) rfl (decide_eq_false fun q => (Fld.ne O_HEURISTIC_MISMATCH O_HEURISTIC_ABORT (fun q => absurd (Value.int.inj q) (by decide))) (Value.ref.inj q)) (by decide) (by decide) ?_
    show Steps p.tables e below (T7.setTop (mkF m 71 #[.val (.int p1), .val (.int p2), .val (.int (9 : Int32)), .val (.ref s_ABORTED_AGAINST_HEURISTIC), .val (.int (0 : Int32)), .val (.int (0 : Int32)), .unset, .unset] [])) _
    refine XS.iconst X7.here hx rfl (hb hby at_71) ?_
    show Steps p.tables e below (T7.setTop (mkF m 72 #[.val (.int p1), .val (.int p2), .val (.int (9 : Int32)), .val (.ref s_ABORTED_AGAINST_HEURISTIC), .val (.int (0 : Int32)), .val (.int (0 : Int32)), .unset, .unset] [(.int (0 : Int32))])) _
    refine XS.istore X7.here hx rfl (hb hby at_72) rfl (l' := #[.val (.int p1), .val (.int p2), .val (.int (9 : Int32)), .val (.ref s_ABORTED_AGAINST_HEURISTIC), .val (.int (0 : Int32)), .val (.int (0 : Int32)), .val (.int (0 : Int32)), .unset]) rfl ?_
    show Steps p.tables e below (T7.setTop (mkF m 74 #[.val (.int p1), .val (.int p2), .val (.int (9 : Int32)), .val (.ref s_ABORTED_AGAINST_HEURISTIC), .val (.int (0 : Int32)), .val (.int (0 : Int32)), .val (.int (0 : Int32)), .unset] [])) _
    refine XS.iload X7.here hx rfl (hb hby at_74) rfl ?_
    show Steps p.tables e below (T7.setTop (mkF m 76 #[.val (.int p1), .val (.int p2), .val (.int (9 : Int32)), .val (.ref s_ABORTED_AGAINST_HEURISTIC), .val (.int (0 : Int32)), .val (.int (0 : Int32)), .val (.int (0 : Int32)), .unset] [(.int (0 : Int32))])) _
    refine XS.iload X7.here hx rfl (hb hby at_76) rfl ?_
    show Steps p.tables e below (T7.setTop (mkF m 78 #[.val (.int p1), .val (.int p2), .val (.int (9 : Int32)), .val (.ref s_ABORTED_AGAINST_HEURISTIC), .val (.int (0 : Int32)), .val (.int (0 : Int32)), .val (.int (0 : Int32)), .unset] [(.int (0 : Int32)), (.int (0 : Int32))])) _
    refine XS.icmpYes X7.here hx rfl (pc0 := 78) (pc' := 83) rfl (hb hby at_78) rfl (teq (by decide : (0 : Int32) = (0 : Int32))).1 (by decide) (by decide) ?_
    show Steps p.tables e below (T7.setTop (mkF m 83 #[.val (.int p1), .val (.int p2), .val (.int (9 : Int32)), .val (.ref s_ABORTED_AGAINST_HEURISTIC), .val (.int (0 : Int32)), .val (.int (0 : Int32)), .val (.int (0 : Int32)), .unset] [])) _
    refine XS.iload X7.here hx rfl (hb hby at_83) rfl ?_
    show Steps p.tables e below (T7.setTop (mkF m 85 #[.val (.int p1), .val (.int p2), .val (.int (9 : Int32)), .val (.ref s_ABORTED_AGAINST_HEURISTIC), .val (.int (0 : Int32)), .val (.int (0 : Int32)), .val (.int (0 : Int32)), .unset] [(.int (0 : Int32))])) _
    refine XS.ifYes X7.here hx rfl (pc0 := 85) (pc' := 119) rfl (hb hby at_85) rfl ((if0 _ _).trans (teq (by decide : (0 : Int32) = (0 : Int32))).1) (by decide) (by decide) ?_
    show Steps p.tables e below (T7.setTop (mkF m 119 #[.val (.int p1), .val (.int p2), .val (.int (9 : Int32)), .val (.ref s_ABORTED_AGAINST_HEURISTIC), .val (.int (0 : Int32)), .val (.int (0 : Int32)), .val (.int (0 : Int32)), .unset] [])) _
    refine XS.iconst X7.here hx rfl (hb hby at_119) ?_
    show Steps p.tables e below (T7.setTop (mkF m 120 #[.val (.int p1), .val (.int p2), .val (.int (9 : Int32)), .val (.ref s_ABORTED_AGAINST_HEURISTIC), .val (.int (0 : Int32)), .val (.int (0 : Int32)), .val (.int (0 : Int32)), .unset] [(.int (1 : Int32))])) _
    exact retN X7 hx (t := .boolean) Bd.returns (by simp) (hb hby at_120) hr
  · show own_Q (some (.int (1 : Int32))) h0 n0 _ T7.heap _
    rw [e7]
    exact ⟨rfl, N3, rfl⟩
theorem own_law (l : Launch) (Z : State) (a0 : Array Value) (hw : ∀ d ∈ tables_1, d.before a0 Z = true) (ws : List Jvm.Cond) (s_PREPARED s_IN_DOUBT s_Outcome_COMMITTED s_HEURISTICALLY_ABORTED s_HEURISTICALLY_COMMITTED s_Joined_State_COMMITTED s_HEURISTIC_ABORT s_HEURISTIC_COMMIT s_COMMITTED_AGAINST_HEURISTIC s_HEURISTIC_MISMATCH s_COMMITTED_IN_ONE_PHASE s_TxnStatus_COMMITTED s_ABORTED_AGAINST_HEURISTIC s_Outcome_ABORTED s_PRE_ABORTED s_PRE_COMMITTED s_Joined_State_ABORTED s_TxnStatus_ABORTED : Addr) (h0 : Heap) (n0 : Nat) (Z0 : n0 ≤ h0.size) (G : own_Ctx Z h0 s_PREPARED s_IN_DOUBT s_Outcome_COMMITTED s_HEURISTICALLY_ABORTED s_HEURISTICALLY_COMMITTED s_Joined_State_COMMITTED s_HEURISTIC_ABORT s_HEURISTIC_COMMIT s_COMMITTED_AGAINST_HEURISTIC s_HEURISTIC_MISMATCH s_COMMITTED_IN_ONE_PHASE s_TxnStatus_COMMITTED s_ABORTED_AGAINST_HEURISTIC s_Outcome_ABORTED s_PRE_ABORTED s_PRE_COMMITTED s_Joined_State_ABORTED s_TxnStatus_ABORTED) (p1 p2 : Int32) : MetFree l x (head1 (Jvm.Cond.code x code maxLocals ret :: ws) room_1) (fun a U => a = #[(.int p1), (.int p2)] ∧ Z.Warmed39 U.vm ∧ U.heap = h0) (fun _ _ _ _ _ => True) (fun _ U o U' => ∃ v L, o = .returned v ∧ own_Q (some (.int (1 : Int32))) h0 n0 v U'.heap L ∧ FrameEnd U o U' L 0 0) := by
  rcases own_mod p1 with hk | hk | hk | hk | hk | hk | hk | hk | hk | hk
  · rcases own_bit p2 with hf | hf
    · exact r_law_0_0 l Z a0 hw ws s_PREPARED s_IN_DOUBT s_Outcome_COMMITTED s_HEURISTICALLY_ABORTED s_HEURISTICALLY_COMMITTED s_Joined_State_COMMITTED s_HEURISTIC_ABORT s_HEURISTIC_COMMIT s_COMMITTED_AGAINST_HEURISTIC s_HEURISTIC_MISMATCH s_COMMITTED_IN_ONE_PHASE s_TxnStatus_COMMITTED s_ABORTED_AGAINST_HEURISTIC s_Outcome_ABORTED s_PRE_ABORTED s_PRE_COMMITTED s_Joined_State_ABORTED s_TxnStatus_ABORTED h0 n0 Z0 G p1 p2 hk hf
    · exact r_law_0_1 l Z a0 hw ws s_PREPARED s_IN_DOUBT s_Outcome_COMMITTED s_HEURISTICALLY_ABORTED s_HEURISTICALLY_COMMITTED s_Joined_State_COMMITTED s_HEURISTIC_ABORT s_HEURISTIC_COMMIT s_COMMITTED_AGAINST_HEURISTIC s_HEURISTIC_MISMATCH s_COMMITTED_IN_ONE_PHASE s_TxnStatus_COMMITTED s_ABORTED_AGAINST_HEURISTIC s_Outcome_ABORTED s_PRE_ABORTED s_PRE_COMMITTED s_Joined_State_ABORTED s_TxnStatus_ABORTED h0 n0 Z0 G p1 p2 hk hf
  · rcases own_bit p2 with hf | hf
    · exact r_law_1_0 l Z a0 hw ws s_PREPARED s_IN_DOUBT s_Outcome_COMMITTED s_HEURISTICALLY_ABORTED s_HEURISTICALLY_COMMITTED s_Joined_State_COMMITTED s_HEURISTIC_ABORT s_HEURISTIC_COMMIT s_COMMITTED_AGAINST_HEURISTIC s_HEURISTIC_MISMATCH s_COMMITTED_IN_ONE_PHASE s_TxnStatus_COMMITTED s_ABORTED_AGAINST_HEURISTIC s_Outcome_ABORTED s_PRE_ABORTED s_PRE_COMMITTED s_Joined_State_ABORTED s_TxnStatus_ABORTED h0 n0 Z0 G p1 p2 hk hf
    · exact r_law_1_1 l Z a0 hw ws s_PREPARED s_IN_DOUBT s_Outcome_COMMITTED s_HEURISTICALLY_ABORTED s_HEURISTICALLY_COMMITTED s_Joined_State_COMMITTED s_HEURISTIC_ABORT s_HEURISTIC_COMMIT s_COMMITTED_AGAINST_HEURISTIC s_HEURISTIC_MISMATCH s_COMMITTED_IN_ONE_PHASE s_TxnStatus_COMMITTED s_ABORTED_AGAINST_HEURISTIC s_Outcome_ABORTED s_PRE_ABORTED s_PRE_COMMITTED s_Joined_State_ABORTED s_TxnStatus_ABORTED h0 n0 Z0 G p1 p2 hk hf
  · rcases own_bit p2 with hf | hf
    · exact r_law_2_0 l Z a0 hw ws s_PREPARED s_IN_DOUBT s_Outcome_COMMITTED s_HEURISTICALLY_ABORTED s_HEURISTICALLY_COMMITTED s_Joined_State_COMMITTED s_HEURISTIC_ABORT s_HEURISTIC_COMMIT s_COMMITTED_AGAINST_HEURISTIC s_HEURISTIC_MISMATCH s_COMMITTED_IN_ONE_PHASE s_TxnStatus_COMMITTED s_ABORTED_AGAINST_HEURISTIC s_Outcome_ABORTED s_PRE_ABORTED s_PRE_COMMITTED s_Joined_State_ABORTED s_TxnStatus_ABORTED h0 n0 Z0 G p1 p2 hk hf
    · exact r_law_2_1 l Z a0 hw ws s_PREPARED s_IN_DOUBT s_Outcome_COMMITTED s_HEURISTICALLY_ABORTED s_HEURISTICALLY_COMMITTED s_Joined_State_COMMITTED s_HEURISTIC_ABORT s_HEURISTIC_COMMIT s_COMMITTED_AGAINST_HEURISTIC s_HEURISTIC_MISMATCH s_COMMITTED_IN_ONE_PHASE s_TxnStatus_COMMITTED s_ABORTED_AGAINST_HEURISTIC s_Outcome_ABORTED s_PRE_ABORTED s_PRE_COMMITTED s_Joined_State_ABORTED s_TxnStatus_ABORTED h0 n0 Z0 G p1 p2 hk hf
  · rcases own_bit p2 with hf | hf
    · exact r_law_3_0 l Z a0 hw ws s_PREPARED s_IN_DOUBT s_Outcome_COMMITTED s_HEURISTICALLY_ABORTED s_HEURISTICALLY_COMMITTED s_Joined_State_COMMITTED s_HEURISTIC_ABORT s_HEURISTIC_COMMIT s_COMMITTED_AGAINST_HEURISTIC s_HEURISTIC_MISMATCH s_COMMITTED_IN_ONE_PHASE s_TxnStatus_COMMITTED s_ABORTED_AGAINST_HEURISTIC s_Outcome_ABORTED s_PRE_ABORTED s_PRE_COMMITTED s_Joined_State_ABORTED s_TxnStatus_ABORTED h0 n0 Z0 G p1 p2 hk hf
    · exact r_law_3_1 l Z a0 hw ws s_PREPARED s_IN_DOUBT s_Outcome_COMMITTED s_HEURISTICALLY_ABORTED s_HEURISTICALLY_COMMITTED s_Joined_State_COMMITTED s_HEURISTIC_ABORT s_HEURISTIC_COMMIT s_COMMITTED_AGAINST_HEURISTIC s_HEURISTIC_MISMATCH s_COMMITTED_IN_ONE_PHASE s_TxnStatus_COMMITTED s_ABORTED_AGAINST_HEURISTIC s_Outcome_ABORTED s_PRE_ABORTED s_PRE_COMMITTED s_Joined_State_ABORTED s_TxnStatus_ABORTED h0 n0 Z0 G p1 p2 hk hf
  · rcases own_bit p2 with hf | hf
    · exact r_law_4_0 l Z a0 hw ws s_PREPARED s_IN_DOUBT s_Outcome_COMMITTED s_HEURISTICALLY_ABORTED s_HEURISTICALLY_COMMITTED s_Joined_State_COMMITTED s_HEURISTIC_ABORT s_HEURISTIC_COMMIT s_COMMITTED_AGAINST_HEURISTIC s_HEURISTIC_MISMATCH s_COMMITTED_IN_ONE_PHASE s_TxnStatus_COMMITTED s_ABORTED_AGAINST_HEURISTIC s_Outcome_ABORTED s_PRE_ABORTED s_PRE_COMMITTED s_Joined_State_ABORTED s_TxnStatus_ABORTED h0 n0 Z0 G p1 p2 hk hf
    · exact r_law_4_1 l Z a0 hw ws s_PREPARED s_IN_DOUBT s_Outcome_COMMITTED s_HEURISTICALLY_ABORTED s_HEURISTICALLY_COMMITTED s_Joined_State_COMMITTED s_HEURISTIC_ABORT s_HEURISTIC_COMMIT s_COMMITTED_AGAINST_HEURISTIC s_HEURISTIC_MISMATCH s_COMMITTED_IN_ONE_PHASE s_TxnStatus_COMMITTED s_ABORTED_AGAINST_HEURISTIC s_Outcome_ABORTED s_PRE_ABORTED s_PRE_COMMITTED s_Joined_State_ABORTED s_TxnStatus_ABORTED h0 n0 Z0 G p1 p2 hk hf
  · exact r_law_5 l Z a0 hw ws s_PREPARED s_IN_DOUBT s_Outcome_COMMITTED s_HEURISTICALLY_ABORTED s_HEURISTICALLY_COMMITTED s_Joined_State_COMMITTED s_HEURISTIC_ABORT s_HEURISTIC_COMMIT s_COMMITTED_AGAINST_HEURISTIC s_HEURISTIC_MISMATCH s_COMMITTED_IN_ONE_PHASE s_TxnStatus_COMMITTED s_ABORTED_AGAINST_HEURISTIC s_Outcome_ABORTED s_PRE_ABORTED s_PRE_COMMITTED s_Joined_State_ABORTED s_TxnStatus_ABORTED h0 n0 Z0 G p1 p2 hk
  · exact r_law_6 l Z a0 hw ws s_PREPARED s_IN_DOUBT s_Outcome_COMMITTED s_HEURISTICALLY_ABORTED s_HEURISTICALLY_COMMITTED s_Joined_State_COMMITTED s_HEURISTIC_ABORT s_HEURISTIC_COMMIT s_COMMITTED_AGAINST_HEURISTIC s_HEURISTIC_MISMATCH s_COMMITTED_IN_ONE_PHASE s_TxnStatus_COMMITTED s_ABORTED_AGAINST_HEURISTIC s_Outcome_ABORTED s_PRE_ABORTED s_PRE_COMMITTED s_Joined_State_ABORTED s_TxnStatus_ABORTED h0 n0 Z0 G p1 p2 hk
  · exact r_law_7 l Z a0 hw ws s_PREPARED s_IN_DOUBT s_Outcome_COMMITTED s_HEURISTICALLY_ABORTED s_HEURISTICALLY_COMMITTED s_Joined_State_COMMITTED s_HEURISTIC_ABORT s_HEURISTIC_COMMIT s_COMMITTED_AGAINST_HEURISTIC s_HEURISTIC_MISMATCH s_COMMITTED_IN_ONE_PHASE s_TxnStatus_COMMITTED s_ABORTED_AGAINST_HEURISTIC s_Outcome_ABORTED s_PRE_ABORTED s_PRE_COMMITTED s_Joined_State_ABORTED s_TxnStatus_ABORTED h0 n0 Z0 G p1 p2 hk
  · exact r_law_8 l Z a0 hw ws s_PREPARED s_IN_DOUBT s_Outcome_COMMITTED s_HEURISTICALLY_ABORTED s_HEURISTICALLY_COMMITTED s_Joined_State_COMMITTED s_HEURISTIC_ABORT s_HEURISTIC_COMMIT s_COMMITTED_AGAINST_HEURISTIC s_HEURISTIC_MISMATCH s_COMMITTED_IN_ONE_PHASE s_TxnStatus_COMMITTED s_ABORTED_AGAINST_HEURISTIC s_Outcome_ABORTED s_PRE_ABORTED s_PRE_COMMITTED s_Joined_State_ABORTED s_TxnStatus_ABORTED h0 n0 Z0 G p1 p2 hk
  · exact r_law_9 l Z a0 hw ws s_PREPARED s_IN_DOUBT s_Outcome_COMMITTED s_HEURISTICALLY_ABORTED s_HEURISTICALLY_COMMITTED s_Joined_State_COMMITTED s_HEURISTIC_ABORT s_HEURISTIC_COMMIT s_COMMITTED_AGAINST_HEURISTIC s_HEURISTIC_MISMATCH s_COMMITTED_IN_ONE_PHASE s_TxnStatus_COMMITTED s_ABORTED_AGAINST_HEURISTIC s_Outcome_ABORTED s_PRE_ABORTED s_PRE_COMMITTED s_Joined_State_ABORTED s_TxnStatus_ABORTED h0 n0 Z0 G p1 p2 hk
set_option maxRecDepth 65536 in
set_option maxHeartbeats 40000000 in
theorem comes_1 {Post : Tables → Env → Array Value → State → Outcome → State → Prop} (hpost : ∀ tb e args s v u, (limb_1_1.after args s (.returned v) u = true ∧ limb_1_2.after args s (.returned v) u = true ∧ True) → FrameEnd s (.returned v) u (Jvm.fieldLocs frame_1_writes args s ++ Jvm.arrayLocs frame_1_arrays args s ++ Jvm.staticLocs frame_1_statics s) 0 0 → Post tb e args s (.returned v) u) :
    ArmFor flags0 classFile x code maxLocals ret World_1 tables_1 room_1 Calls_1 rest_1 Pre_1 Post := by
  intro l hfl _ _ p e ha hc hk s m args below hf hA hF happ hP
  obtain ⟨hcalls, hrest, hpre⟩ := hP
  obtain ⟨-, -, -, hnamed, -, -, -, hat⟩ := (Spec.applies_iff hf).mp happ
  obtain ⟨hg, hn⟩ := and_e (Cond.before_iff.mp (show (Jvm.Cond.and given_1 narrow_1).before args s = true from hpre))
  obtain ⟨hg0, hg1⟩ := and_e hg
  obtain ⟨hg10, hg11⟩ := and_e hg1
  obtain ⟨w0, w1, rfl⟩ : ∃ w0 w1 : Value, args = #[w0, w1] := by
    have hs : args.size = 2 := by simpa [Cond.value, given_1] using hg0
    obtain ⟨L⟩ := args
    match L, hs with
    | [w0, w1], _ => exact ⟨w0, w1, rfl⟩
  obtain ⟨i0, ei0⟩ := is_v hg10
  obtain rfl : w0 = (.int i0) := Option.some.inj ei0
  obtain ⟨i1, ei1⟩ := is_v hg11
  obtain rfl : w1 = (.int i1) := Option.some.inj ei1
  have hw := fun d (hd : d ∈ tables_1) => atoms_spec (ws := Jvm.Cond.code x code maxLocals ret :: tables_1) hat d (List.mem_cons_of_mem _ hd)
  have hfit : Fit s := fun {y c} hc i hi => by
    obtain ⟨ha, rfl⟩ := Array.getElem?_eq_some_iff.mp hc
    have q := List.all_eq_true.mp ((Array.all_eq_true_iff_forall_mem.mp hF) _ (Array.getElem_mem ha)) i (List.mem_range.mpr hi)
    simpa [Array.getElem?_eq_getElem hi] using q
  obtain ⟨hn0, hn1⟩ := and_e hn
  obtain ⟨hn10, hn11⟩ := and_e hn1
  obtain ⟨hn110, hn111⟩ := and_e hn11
  obtain ⟨hn1110, hn1111⟩ := and_e hn111
  obtain ⟨hn11110, hn11111⟩ := and_e hn1111
  obtain ⟨hn111110, hn111111⟩ := and_e hn11111
  obtain ⟨hn1111110, hn1111111⟩ := and_e hn111111
  obtain ⟨hn11111110, hn11111111⟩ := and_e hn1111111
  obtain ⟨hn111111110, hn111111111⟩ := and_e hn11111111
  obtain ⟨hn1111111110, hn1111111111⟩ := and_e hn111111111
  obtain ⟨hn11111111110, hn11111111111⟩ := and_e hn1111111111
  obtain ⟨hn111111111110, hn111111111111⟩ := and_e hn11111111111
  obtain ⟨hn1111111111110, hn1111111111111⟩ := and_e hn111111111111
  obtain ⟨hn11111111111110, hn11111111111111⟩ := and_e hn1111111111111
  obtain ⟨hn111111111111110, hn111111111111111⟩ := and_e hn11111111111111
  obtain ⟨hn1111111111111110, hn1111111111111111⟩ := and_e hn111111111111111
  obtain ⟨hn11111111111111110, hn11111111111111111⟩ := and_e hn1111111111111111
  obtain ⟨hn111111111111111110, hn111111111111111111⟩ := and_e hn11111111111111111
  obtain ⟨hn1111111111111111110, hn1111111111111111111⟩ := and_e hn111111111111111111
  obtain ⟨hn11111111111111111110, hn11111111111111111111⟩ := and_e hn1111111111111111111
  obtain ⟨hn111111111111111111110, hn111111111111111111111⟩ := and_e hn11111111111111111111
  obtain ⟨hn1111111111111111111110, hn1111111111111111111111⟩ := and_e hn111111111111111111111
  obtain ⟨hn11111111111111111111110, hn11111111111111111111111⟩ := and_e hn1111111111111111111111
  obtain ⟨hn111111111111111111111110, hn111111111111111111111111⟩ := and_e hn11111111111111111111111
  obtain ⟨hn1111111111111111111111110, hn1111111111111111111111111⟩ := and_e hn111111111111111111111111
  obtain ⟨hn11111111111111111111111110, hn11111111111111111111111111⟩ := and_e hn1111111111111111111111111
  obtain ⟨hn111111111111111111111111110, hn111111111111111111111111111⟩ := and_e hn11111111111111111111111111
  obtain ⟨hn1111111111111111111111111110, hn1111111111111111111111111111⟩ := and_e hn111111111111111111111111111
  obtain ⟨hn11111111111111111111111111110, hn11111111111111111111111111111⟩ := and_e hn1111111111111111111111111111
  obtain ⟨hn111111111111111111111111111110, hn111111111111111111111111111111⟩ := and_e hn11111111111111111111111111111
  obtain ⟨hn1111111111111111111111111111110, hn1111111111111111111111111111111⟩ := and_e hn111111111111111111111111111111
  obtain ⟨hn11111111111111111111111111111110, hn11111111111111111111111111111111⟩ := and_e hn1111111111111111111111111111111
  obtain ⟨hn111111111111111111111111111111110, hn111111111111111111111111111111111⟩ := and_e hn11111111111111111111111111111111
  obtain ⟨hn1111111111111111111111111111111110, hn1111111111111111111111111111111111⟩ := and_e hn111111111111111111111111111111111
  obtain ⟨hn11111111111111111111111111111111110, hn11111111111111111111111111111111111⟩ := and_e hn1111111111111111111111111111111111
  obtain ⟨hn111111111111111111111111111111111110, hn111111111111111111111111111111111111⟩ := and_e hn11111111111111111111111111111111111
  obtain ⟨hn1111111111111111111111111111111111110, hn1111111111111111111111111111111111111⟩ := and_e hn111111111111111111111111111111111111
  obtain ⟨hn11111111111111111111111111111111111110, hn11111111111111111111111111111111111111⟩ := and_e hn1111111111111111111111111111111111111
  obtain ⟨hn111111111111111111111111111111111111110, hn111111111111111111111111111111111111111⟩ := and_e hn11111111111111111111111111111111111111
  obtain ⟨hn1111111111111111111111111111111111111110, hn1111111111111111111111111111111111111111⟩ := and_e hn111111111111111111111111111111111111111
  obtain ⟨hn11111111111111111111111111111111111111110, hn11111111111111111111111111111111111111111⟩ := and_e hn1111111111111111111111111111111111111111
  obtain ⟨hn111111111111111111111111111111111111111110, hn111111111111111111111111111111111111111111⟩ := and_e hn11111111111111111111111111111111111111111
  obtain ⟨hn1111111111111111111111111111111111111111110, hn1111111111111111111111111111111111111111111⟩ := and_e hn111111111111111111111111111111111111111111
  obtain ⟨hn11111111111111111111111111111111111111111110, hn11111111111111111111111111111111111111111111⟩ := and_e hn1111111111111111111111111111111111111111111
  obtain ⟨hn111111111111111111111111111111111111111111110, hn111111111111111111111111111111111111111111111⟩ := and_e hn11111111111111111111111111111111111111111111
  obtain ⟨hn1111111111111111111111111111111111111111111110, hn1111111111111111111111111111111111111111111111⟩ := and_e hn111111111111111111111111111111111111111111111
  obtain ⟨hn11111111111111111111111111111111111111111111110, hn11111111111111111111111111111111111111111111111⟩ := and_e hn1111111111111111111111111111111111111111111111
  obtain ⟨hn111111111111111111111111111111111111111111111110, hn111111111111111111111111111111111111111111111111⟩ := and_e hn11111111111111111111111111111111111111111111111
  obtain ⟨hn1111111111111111111111111111111111111111111111110, hn1111111111111111111111111111111111111111111111111⟩ := and_e hn111111111111111111111111111111111111111111111111
  obtain ⟨hn11111111111111111111111111111111111111111111111110, hn11111111111111111111111111111111111111111111111111⟩ := and_e hn1111111111111111111111111111111111111111111111111
  obtain ⟨s_PREPARED, ev_PREPARED⟩ := exa_v hn0
  have E_PREPARED := Exa.start ev_PREPARED hn0
  have S_PREPARED := Sta.start ev_PREPARED (Or.inr ⟨(hw _ (List.mem_of_getElem? (i := 6) rfl)), (hw _ (List.mem_of_getElem? (i := 7) rfl))⟩)
  have O_PREPARED := Fld.start ((fld_at ev_PREPARED).symm.trans (own_eqI hn1111110))
  obtain ⟨s_IN_DOUBT, ev_IN_DOUBT⟩ := exa_v hn110
  have E_IN_DOUBT := Exa.start ev_IN_DOUBT hn110
  have S_IN_DOUBT := Sta.start ev_IN_DOUBT (Or.inr ⟨(hw _ (List.mem_of_getElem? (i := 22) rfl)), (hw _ (List.mem_of_getElem? (i := 23) rfl))⟩)
  have O_IN_DOUBT := Fld.start ((fld_at ev_IN_DOUBT).symm.trans (own_eqI hn11111111111111110))
  obtain ⟨s_Outcome_COMMITTED, ev_Outcome_COMMITTED⟩ := exa_v hn11110
  have E_Outcome_COMMITTED := Exa.start ev_Outcome_COMMITTED hn11110
  have S_Outcome_COMMITTED := Sta.start ev_Outcome_COMMITTED (Or.inr ⟨(hw _ (List.mem_of_getElem? (i := 26) rfl)), (hw _ (List.mem_of_getElem? (i := 27) rfl))⟩)
  have O_Outcome_COMMITTED := Fld.start ((fld_at ev_Outcome_COMMITTED).symm.trans (own_eqI hn1111111111111111111111111111111111111110))
  obtain ⟨s_HEURISTICALLY_ABORTED, ev_HEURISTICALLY_ABORTED⟩ := exa_v hn111110
  have E_HEURISTICALLY_ABORTED := Exa.start ev_HEURISTICALLY_ABORTED hn111110
  have S_HEURISTICALLY_ABORTED := Sta.start ev_HEURISTICALLY_ABORTED (Or.inr ⟨(hw _ (List.mem_of_getElem? (i := 6) rfl)), (hw _ (List.mem_of_getElem? (i := 34) rfl))⟩)
  have O_HEURISTICALLY_ABORTED := Fld.start ((fld_at ev_HEURISTICALLY_ABORTED).symm.trans (own_eqI hn11111110))
  obtain ⟨s_HEURISTICALLY_COMMITTED, ev_HEURISTICALLY_COMMITTED⟩ := exa_v hn111111110
  have E_HEURISTICALLY_COMMITTED := Exa.start ev_HEURISTICALLY_COMMITTED hn111111110
  have S_HEURISTICALLY_COMMITTED := Sta.start ev_HEURISTICALLY_COMMITTED (Or.inr ⟨(hw _ (List.mem_of_getElem? (i := 6) rfl)), (hw _ (List.mem_of_getElem? (i := 36) rfl))⟩)
  have O_HEURISTICALLY_COMMITTED := Fld.start ((fld_at ev_HEURISTICALLY_COMMITTED).symm.trans (own_eqI hn1111111110))
  obtain ⟨s_Joined_State_COMMITTED, ev_Joined_State_COMMITTED⟩ := exa_v hn11111111110
  have E_Joined_State_COMMITTED := Exa.start ev_Joined_State_COMMITTED hn11111111110
  have S_Joined_State_COMMITTED := Sta.start ev_Joined_State_COMMITTED (Or.inr ⟨(hw _ (List.mem_of_getElem? (i := 6) rfl)), (hw _ (List.mem_of_getElem? (i := 42) rfl))⟩)
  obtain ⟨s_HEURISTIC_ABORT, ev_HEURISTIC_ABORT⟩ := exa_v hn11111111111110
  have E_HEURISTIC_ABORT := Exa.start ev_HEURISTIC_ABORT hn11111111111110
  have S_HEURISTIC_ABORT := Sta.start ev_HEURISTIC_ABORT (Or.inr ⟨(hw _ (List.mem_of_getElem? (i := 22) rfl)), (hw _ (List.mem_of_getElem? (i := 44) rfl))⟩)
  have O_HEURISTIC_ABORT := Fld.start ((fld_at ev_HEURISTIC_ABORT).symm.trans (own_eqI hn1111111111111110))
  obtain ⟨s_HEURISTIC_COMMIT, ev_HEURISTIC_COMMIT⟩ := exa_v hn111111111111111110
  have E_HEURISTIC_COMMIT := Exa.start ev_HEURISTIC_COMMIT hn111111111111111110
  have S_HEURISTIC_COMMIT := Sta.start ev_HEURISTIC_COMMIT (Or.inr ⟨(hw _ (List.mem_of_getElem? (i := 22) rfl)), (hw _ (List.mem_of_getElem? (i := 47) rfl))⟩)
  have O_HEURISTIC_COMMIT := Fld.start ((fld_at ev_HEURISTIC_COMMIT).symm.trans (own_eqI hn1111111111111111110))
  obtain ⟨s_COMMITTED_AGAINST_HEURISTIC, ev_COMMITTED_AGAINST_HEURISTIC⟩ := exa_v hn11111111111111111110
  have E_COMMITTED_AGAINST_HEURISTIC := Exa.start ev_COMMITTED_AGAINST_HEURISTIC hn11111111111111111110
  have S_COMMITTED_AGAINST_HEURISTIC := Sta.start ev_COMMITTED_AGAINST_HEURISTIC (Or.inr ⟨(hw _ (List.mem_of_getElem? (i := 6) rfl)), (hw _ (List.mem_of_getElem? (i := 50) rfl))⟩)
  obtain ⟨s_HEURISTIC_MISMATCH, ev_HEURISTIC_MISMATCH⟩ := exa_v hn1111111111111111111110
  have E_HEURISTIC_MISMATCH := Exa.start ev_HEURISTIC_MISMATCH hn1111111111111111111110
  have S_HEURISTIC_MISMATCH := Sta.start ev_HEURISTIC_MISMATCH (Or.inr ⟨(hw _ (List.mem_of_getElem? (i := 22) rfl)), (hw _ (List.mem_of_getElem? (i := 52) rfl))⟩)
  have O_HEURISTIC_MISMATCH := Fld.start ((fld_at ev_HEURISTIC_MISMATCH).symm.trans (own_eqI hn111111111111111111111110))
  obtain ⟨s_COMMITTED_IN_ONE_PHASE, ev_COMMITTED_IN_ONE_PHASE⟩ := exa_v hn1111111111111111111111110
  have E_COMMITTED_IN_ONE_PHASE := Exa.start ev_COMMITTED_IN_ONE_PHASE hn1111111111111111111111110
  have S_COMMITTED_IN_ONE_PHASE := Sta.start ev_COMMITTED_IN_ONE_PHASE (Or.inr ⟨(hw _ (List.mem_of_getElem? (i := 6) rfl)), (hw _ (List.mem_of_getElem? (i := 54) rfl))⟩)
  obtain ⟨s_TxnStatus_COMMITTED, ev_TxnStatus_COMMITTED⟩ := exa_v hn111111111111111111111111110
  have E_TxnStatus_COMMITTED := Exa.start ev_TxnStatus_COMMITTED hn111111111111111111111111110
  have S_TxnStatus_COMMITTED := Sta.start ev_TxnStatus_COMMITTED (Or.inr ⟨(hw _ (List.mem_of_getElem? (i := 22) rfl)), (hw _ (List.mem_of_getElem? (i := 55) rfl))⟩)
  have O_TxnStatus_COMMITTED := Fld.start ((fld_at ev_TxnStatus_COMMITTED).symm.trans (own_eqI hn11111111111111111111111111110))
  obtain ⟨s_ABORTED_AGAINST_HEURISTIC, ev_ABORTED_AGAINST_HEURISTIC⟩ := exa_v hn111111111111111111111111111110
  have E_ABORTED_AGAINST_HEURISTIC := Exa.start ev_ABORTED_AGAINST_HEURISTIC hn111111111111111111111111111110
  have S_ABORTED_AGAINST_HEURISTIC := Sta.start ev_ABORTED_AGAINST_HEURISTIC (Or.inr ⟨(hw _ (List.mem_of_getElem? (i := 6) rfl)), (hw _ (List.mem_of_getElem? (i := 57) rfl))⟩)
  obtain ⟨s_Outcome_ABORTED, ev_Outcome_ABORTED⟩ := exa_v hn1111111111111111111111111111110
  have E_Outcome_ABORTED := Exa.start ev_Outcome_ABORTED hn1111111111111111111111111111110
  have S_Outcome_ABORTED := Sta.start ev_Outcome_ABORTED (Or.inr ⟨(hw _ (List.mem_of_getElem? (i := 26) rfl)), (hw _ (List.mem_of_getElem? (i := 58) rfl))⟩)
  have O_Outcome_ABORTED := Fld.start ((fld_at ev_Outcome_ABORTED).symm.trans (own_eqI hn11111111111111111111111111111111111111110))
  obtain ⟨s_PRE_ABORTED, ev_PRE_ABORTED⟩ := exa_v hn1111111111111111111111111111111110
  have E_PRE_ABORTED := Exa.start ev_PRE_ABORTED hn1111111111111111111111111111111110
  have S_PRE_ABORTED := Sta.start ev_PRE_ABORTED (Or.inr ⟨(hw _ (List.mem_of_getElem? (i := 6) rfl)), (hw _ (List.mem_of_getElem? (i := 60) rfl))⟩)
  have O_PRE_ABORTED := Fld.start ((fld_at ev_PRE_ABORTED).symm.trans (own_eqI hn1111111111111111111111111111111111110))
  obtain ⟨s_PRE_COMMITTED, ev_PRE_COMMITTED⟩ := exa_v hn111111111111111111111111111111111111111110
  have E_PRE_COMMITTED := Exa.start ev_PRE_COMMITTED hn111111111111111111111111111111111111111110
  have S_PRE_COMMITTED := Sta.start ev_PRE_COMMITTED (Or.inr ⟨(hw _ (List.mem_of_getElem? (i := 6) rfl)), (hw _ (List.mem_of_getElem? (i := 64) rfl))⟩)
  have O_PRE_COMMITTED := Fld.start ((fld_at ev_PRE_COMMITTED).symm.trans (own_eqI hn111111111111111111111111111111111111111111110))
  obtain ⟨s_Joined_State_ABORTED, ev_Joined_State_ABORTED⟩ := exa_v hn1111111111111111111111111111111111111111111110
  have E_Joined_State_ABORTED := Exa.start ev_Joined_State_ABORTED hn1111111111111111111111111111111111111111111110
  have S_Joined_State_ABORTED := Sta.start ev_Joined_State_ABORTED (Or.inr ⟨(hw _ (List.mem_of_getElem? (i := 6) rfl)), (hw _ (List.mem_of_getElem? (i := 67) rfl))⟩)
  obtain ⟨s_TxnStatus_ABORTED, ev_TxnStatus_ABORTED⟩ := exa_v hn1111111111111111111111111111111111111111111111110
  have E_TxnStatus_ABORTED := Exa.start ev_TxnStatus_ABORTED hn1111111111111111111111111111111111111111111111110
  have S_TxnStatus_ABORTED := Sta.start ev_TxnStatus_ABORTED (Or.inr ⟨(hw _ (List.mem_of_getElem? (i := 22) rfl)), (hw _ (List.mem_of_getElem? (i := 70) rfl))⟩)
  have O_TxnStatus_ABORTED := Fld.start ((fld_at ev_TxnStatus_ABORTED).symm.trans (own_eqI hn11111111111111111111111111111111111111111111111111))
  have F_decision_PREPARED := Fld.start ((fld_at ev_PREPARED).symm.trans (null_v hn10))
  have F_status_PREPARED := Fld.start ((fld_at ev_PREPARED).symm.trans (own_eqR hn1110 ev_IN_DOUBT))
  have F_decision_Joined_State_COMMITTED := Fld.start ((fld_at ev_Joined_State_COMMITTED).symm.trans (own_eqR hn111111111110 ev_Outcome_COMMITTED))
  have F_decision_HEURISTICALLY_ABORTED := Fld.start ((fld_at ev_HEURISTICALLY_ABORTED).symm.trans (null_v hn1111111111110))
  have F_status_HEURISTICALLY_ABORTED := Fld.start ((fld_at ev_HEURISTICALLY_ABORTED).symm.trans (own_eqR hn111111111111110 ev_HEURISTIC_ABORT))
  have F_decision_COMMITTED_AGAINST_HEURISTIC := Fld.start ((fld_at ev_COMMITTED_AGAINST_HEURISTIC).symm.trans (own_eqR hn111111111111111111110 ev_Outcome_COMMITTED))
  have F_status_COMMITTED_AGAINST_HEURISTIC := Fld.start ((fld_at ev_COMMITTED_AGAINST_HEURISTIC).symm.trans (own_eqR hn11111111111111111111110 ev_HEURISTIC_MISMATCH))
  have F_decision_COMMITTED_IN_ONE_PHASE := Fld.start ((fld_at ev_COMMITTED_IN_ONE_PHASE).symm.trans (own_eqR hn11111111111111111111111110 ev_Outcome_COMMITTED))
  have F_status_COMMITTED_IN_ONE_PHASE := Fld.start ((fld_at ev_COMMITTED_IN_ONE_PHASE).symm.trans (own_eqR hn1111111111111111111111111110 ev_TxnStatus_COMMITTED))
  have F_decision_ABORTED_AGAINST_HEURISTIC := Fld.start ((fld_at ev_ABORTED_AGAINST_HEURISTIC).symm.trans (own_eqR hn11111111111111111111111111111110 ev_Outcome_ABORTED))
  have F_status_ABORTED_AGAINST_HEURISTIC := Fld.start ((fld_at ev_ABORTED_AGAINST_HEURISTIC).symm.trans (own_eqR hn111111111111111111111111111111110 ev_HEURISTIC_MISMATCH))
  have F_decision_PRE_ABORTED := Fld.start ((fld_at ev_PRE_ABORTED).symm.trans (null_v hn11111111111111111111111111111111110))
  have F_status_PRE_ABORTED := Fld.start ((fld_at ev_PRE_ABORTED).symm.trans (own_eqR hn111111111111111111111111111111111110 ev_IN_DOUBT))
  have F_decision_HEURISTICALLY_COMMITTED := Fld.start ((fld_at ev_HEURISTICALLY_COMMITTED).symm.trans (null_v hn11111111111111111111111111111111111110))
  have F_status_HEURISTICALLY_COMMITTED := Fld.start ((fld_at ev_HEURISTICALLY_COMMITTED).symm.trans (own_eqR hn111111111111111111111111111111111111110 ev_HEURISTIC_COMMIT))
  have F_decision_PRE_COMMITTED := Fld.start ((fld_at ev_PRE_COMMITTED).symm.trans (null_v hn1111111111111111111111111111111111111111110))
  have F_status_PRE_COMMITTED := Fld.start ((fld_at ev_PRE_COMMITTED).symm.trans (own_eqR hn11111111111111111111111111111111111111111110 ev_IN_DOUBT))
  have F_decision_Joined_State_ABORTED := Fld.start ((fld_at ev_Joined_State_ABORTED).symm.trans (own_eqR hn11111111111111111111111111111111111111111111110 ev_Outcome_ABORTED))
  have F_status_Joined_State_COMMITTED := Fld.start ((fld_at ev_Joined_State_COMMITTED).symm.trans (own_eqR hn111111111111111111111111111111111111111111111110 ev_TxnStatus_COMMITTED))
  have F_status_Joined_State_ABORTED := Fld.start ((fld_at ev_Joined_State_ABORTED).symm.trans (own_eqR hn11111111111111111111111111111111111111111111111110 ev_TxnStatus_ABORTED))
  have G : own_Ctx s s.heap s_PREPARED s_IN_DOUBT s_Outcome_COMMITTED s_HEURISTICALLY_ABORTED s_HEURISTICALLY_COMMITTED s_Joined_State_COMMITTED s_HEURISTIC_ABORT s_HEURISTIC_COMMIT s_COMMITTED_AGAINST_HEURISTIC s_HEURISTIC_MISMATCH s_COMMITTED_IN_ONE_PHASE s_TxnStatus_COMMITTED s_ABORTED_AGAINST_HEURISTIC s_Outcome_ABORTED s_PRE_ABORTED s_PRE_COMMITTED s_Joined_State_ABORTED s_TxnStatus_ABORTED := ⟨S_PREPARED, E_PREPARED, O_PREPARED, S_IN_DOUBT, E_IN_DOUBT, O_IN_DOUBT, S_Outcome_COMMITTED, E_Outcome_COMMITTED, O_Outcome_COMMITTED, S_HEURISTICALLY_ABORTED, E_HEURISTICALLY_ABORTED, O_HEURISTICALLY_ABORTED, S_HEURISTICALLY_COMMITTED, E_HEURISTICALLY_COMMITTED, O_HEURISTICALLY_COMMITTED, S_Joined_State_COMMITTED, E_Joined_State_COMMITTED, S_HEURISTIC_ABORT, E_HEURISTIC_ABORT, O_HEURISTIC_ABORT, S_HEURISTIC_COMMIT, E_HEURISTIC_COMMIT, O_HEURISTIC_COMMIT, S_COMMITTED_AGAINST_HEURISTIC, E_COMMITTED_AGAINST_HEURISTIC, S_HEURISTIC_MISMATCH, E_HEURISTIC_MISMATCH, O_HEURISTIC_MISMATCH, S_COMMITTED_IN_ONE_PHASE, E_COMMITTED_IN_ONE_PHASE, S_TxnStatus_COMMITTED, E_TxnStatus_COMMITTED, O_TxnStatus_COMMITTED, S_ABORTED_AGAINST_HEURISTIC, E_ABORTED_AGAINST_HEURISTIC, S_Outcome_ABORTED, E_Outcome_ABORTED, O_Outcome_ABORTED, S_PRE_ABORTED, E_PRE_ABORTED, O_PRE_ABORTED, S_PRE_COMMITTED, E_PRE_COMMITTED, O_PRE_COMMITTED, S_Joined_State_ABORTED, E_Joined_State_ABORTED, S_TxnStatus_ABORTED, E_TxnStatus_ABORTED, O_TxnStatus_ABORTED, F_decision_PREPARED, F_status_PREPARED, F_decision_Joined_State_COMMITTED, F_decision_HEURISTICALLY_ABORTED, F_status_HEURISTICALLY_ABORTED, F_decision_COMMITTED_AGAINST_HEURISTIC, F_status_COMMITTED_AGAINST_HEURISTIC, F_decision_COMMITTED_IN_ONE_PHASE, F_status_COMMITTED_IN_ONE_PHASE, F_decision_ABORTED_AGAINST_HEURISTIC, F_status_ABORTED_AGAINST_HEURISTIC, F_decision_PRE_ABORTED, F_status_PRE_ABORTED, F_decision_HEURISTICALLY_COMMITTED, F_status_HEURISTICALLY_COMMITTED, F_decision_PRE_COMMITTED, F_status_PRE_COMMITTED, F_decision_Joined_State_ABORTED, F_status_Joined_State_COMMITTED, F_status_Joined_State_ABORTED⟩
  obtain ⟨n, o, h1, h2, h3, _, L, rfl, ⟨rfl, N, -⟩, hq⟩ := own_law l s _ hw tables_1 s_PREPARED s_IN_DOUBT s_Outcome_COMMITTED s_HEURISTICALLY_ABORTED s_HEURISTICALLY_COMMITTED s_Joined_State_COMMITTED s_HEURISTIC_ABORT s_HEURISTIC_COMMIT s_COMMITTED_AGAINST_HEURISTIC s_HEURISTIC_MISMATCH s_COMMITTED_IN_ONE_PHASE s_TxnStatus_COMMITTED s_ABORTED_AGAINST_HEURISTIC s_Outcome_ABORTED s_PRE_ABORTED s_PRE_COMMITTED s_Joined_State_ABORTED s_TxnStatus_ABORTED s.heap s.heap.size (Nat.le_refl _) G i0 i1 p e ha hc hk s m _ below hf ((Spec.applies_iff_loose hf).mp happ).1 ⟨rfl, State.Warmed39.refl s, rfl⟩ trivial
  refine ⟨n, _, h1, h2, h3, hpost _ _ _ _ _ _ ⟨Cond.after_iff.mpr rfl, Cond.after_iff.mpr (eq_i res_at (Term.int_eval (1)) rfl), trivial⟩ ⟨hq.1, hq.2.1, (hq.2.2.sift fun y hy => Or.inr (N y hy)).mono (by decide) (by decide)⟩⟩
theorem main_1_1 : Claimed_1_1 := comes_1 fun _ _ _ _ _ _ h hF => ⟨h.1, hF⟩
theorem main_1_2 : Claimed_1_2 := comes_1 fun _ _ _ _ _ _ h hF => ⟨h.2.1, hF⟩
end Jvm.Pilot.@@N@@
namespace Jvm.Pilot.@@N@@
open Jvm Jvm.ClassFile Sem Op Lib Jvm.Free Jvm.Stand Jvm.Pilot.@@N@@.Jvm.D
/-! MADE BY PROGRAM (witnessworld.py) out of the Statement's table words and the real class files: 12 classes; the members and pool entries that the words name. The judged class is class 1, her method 2. -/
namespace start1
open Jvm.ClassFile
def u (s : String) : CpInfo := .utf8 (stringToUtf16 s)
/-- a pool by its gaps: so many unusable entries, then the entry; so many at the end -/
def gap : Nat → List CpInfo → List CpInfo
  | 0, r => r
  | n + 1, r => .unusable :: gap n r
def poolList (es : List (Nat × CpInfo)) (last : Nat) : List CpInfo := es.foldr (fun e r => gap e.1 (e.2 :: r)) (gap last [])
def pool (es : List (Nat × CpInfo)) (last : Nat) : Array CpInfo := ⟨poolList es last⟩
def fileOf (pool : Array CpInfo) (this : Nat) (attrs : Array Attribute := #[]) (ms : Array MethodInfo := #[]) (fl : Nat := 33) (sup : Nat := 0) (ifs : Array Nat := #[]) (fds : Array FieldInfo := #[]) : ClassFile where
  minorVersion := 0
  majorVersion := 65
  constantPool := pool
  accessFlags := fl
  thisClass := this
  superClass := sup
  interfaces := ifs
  fields := fds
  methods := ms
  attributes := attrs
def plain (name : String) (sup : Option ClassId) : Class where
  name := name
  kind := .ordinary
  loader := none
  accessFlags := 33
  super := sup
  interfaces := #[]
  cf := none
  fields := #[]
  methods := #[]
  instanceTypes := #[]
  staticTypes := #[]
  resolved := #[]
  callSites := []
  init := .initialized
  statics := none
  mirror := none

def pool0 : Array CpInfo := pool [(5, u "<init>"), (0, u "()V"), (1, .class_ 10), (1, u "java/lang/Object")] 113

def k0m0 : Method := { name := "<init>", desc := "()V", sig := { parameters := [], returnType := none }, accessFlags := 1, code := none }
/-- java/lang/Object -/
def k0 : Class := { plain "java/lang/Object" none with
  accessFlags := 33
  interfaces := #[]
  cf := some (fileOf pool0 8 #[] #[{ accessFlags := 1, nameIndex := 5, descriptorIndex := 6, attributes := #[] }] 33 0 #[] #[])
  fields := #[]
  methods := #[k0m0]
  instanceTypes := #[]
  staticTypes := #[]
  resolved := Array.replicate 124 none
  statics := none }

def pool1 : Array CpInfo := pool [(2, .class_ 4), (1, u "java/lang/Object"), (0, u "<init>"), (0, u "()V"), (0, .fieldref 8 9), (0, .class_ 10), (0, .nameAndType 11 12), (0, u "com/example/unanimity/unanimity/core/Joined$State"), (0, u "PREPARED"), (0, u "Lcom/example/unanimity/unanimity/core/Joined$State;"), (0, .fieldref 8 14), (0, .nameAndType 15 12), (0, u "PRE_COMMITTED"), (0, .fieldref 8 17), (0, .nameAndType 18 12), (0, u "PRE_ABORTED"), (0, .fieldref 8 20), (0, .nameAndType 21 12), (0, u "HEURISTICALLY_COMMITTED"), (0, .fieldref 8 23), (0, .nameAndType 24 12), (0, u "HEURISTICALLY_ABORTED"), (0, .fieldref 8 26), (0, .nameAndType 27 12), (0, u "COMMITTED"), (0, .fieldref 8 29), (0, .nameAndType 30 12), (0, u "COMMITTED_IN_ONE_PHASE"), (0, .fieldref 8 32), (0, .nameAndType 33 12), (0, u "ABORTED"), (0, .fieldref 8 35), (0, .nameAndType 36 12), (0, u "COMMITTED_AGAINST_HEURISTIC"), (0, .fieldref 8 38), (0, .nameAndType 39 12), (0, u "ABORTED_AGAINST_HEURISTIC"), (0, .integer 2147483647), (0, .methodref 42 43), (0, .class_ 44), (0, .nameAndType 45 46), (0, u "com/example/unanimity/unanimity/core/StateAwaitsDecisionPinLaw"), (0, u "pick"), (0, u "(I)Lcom/example/unanimity/unanimity/core/Joined$State;"), (0, .methodref 8 48), (0, .nameAndType 49 50), (0, u "awaitsDecision"), (0, u "()Z"), (0, .methodref 8 52), (0, .nameAndType 53 50), (0, u "inDoubt"), (0, .fieldref 8 55), (0, .nameAndType 56 57), (0, u "status"), (0, u "Lcom/example/unanimity/unanimity/core/TxnStatus;"), (0, .fieldref 59 60), (0, .class_ 61), (0, .nameAndType 62 57), (0, u "com/example/unanimity/unanimity/core/TxnStatus"), (0, u "HEURISTIC_COMMIT"), (0, .fieldref 59 64), (0, .nameAndType 65 57), (0, u "HEURISTIC_ABORT"), (0, .fieldref 67 68), (0, .class_ 69), (0, .nameAndType 27 70), (0, u "com/example/unanimity/unanimity/core/Outcome"), (0, u "Lcom/example/unanimity/unanimity/core/Outcome;"), (0, .fieldref 67 72), (0, .nameAndType 33 70), (0, .methodref 8 74), (0, .nameAndType 75 76), (0, u "after"), (0, u "(Lcom/example/unanimity/unanimity/core/Outcome;)Lcom/example/unanimity/unanimity/core/Joined$State;"), (3, u "law"), (0, u "(II)Z")] 6

def k1m0 : Method := { name := "<init>", desc := "()V", sig := { parameters := [], returnType := none }, accessFlags := 1, code := none }
def k1c1 : Code := { maxStack := 2, maxLocals := 1, code := method_2_code, exceptionTable := #[], attributes := #[] }
def k1m1 : Method := { name := "pick", desc := "(I)Lcom/example/unanimity/unanimity/core/Joined$State;", sig := { parameters := [.int], returnType := some (.object "com/example/unanimity/unanimity/core/Joined$State") }, accessFlags := 10, code := some k1c1 }
def k1c2 : Code := { maxStack := 2, maxLocals := 8, code := code, exceptionTable := #[], attributes := #[] }
def k1m2 : Method := { name := "law", desc := "(II)Z", sig := { parameters := [.int, .int], returnType := some .boolean }, accessFlags := 9, code := some k1c2 }
/-- com/example/unanimity/unanimity/core/StateAwaitsDecisionPinLaw -/
def k1 : Class := { plain "com/example/unanimity/unanimity/core/StateAwaitsDecisionPinLaw" (some 0) with
  accessFlags := 49
  interfaces := #[]
  cf := some (fileOf pool1 42 #[] #[{ accessFlags := 1, nameIndex := 5, descriptorIndex := 6, attributes := #[] }, { accessFlags := 10, nameIndex := 45, descriptorIndex := 46, attributes := #[] }, { accessFlags := 9, nameIndex := 80, descriptorIndex := 81, attributes := #[] }] 49 2 #[] #[])
  fields := #[]
  methods := #[k1m0, k1m1, k1m2]
  instanceTypes := #[]
  staticTypes := #[]
  resolved := Array.replicate 88 none
  statics := none }

def pool2 : Array CpInfo := pool [(1, .class_ 2), (0, u "java/lang/constant/Constable"), (0, .class_ 4), (0, u "java/lang/Object")] 6

/-- java/lang/constant/Constable -/
def k2 : Class := { plain "java/lang/constant/Constable" (some 0) with
  accessFlags := 1537
  interfaces := #[]
  cf := some (fileOf pool2 1 #[] #[] 1537 3 #[] #[])
  fields := #[]
  methods := #[]
  instanceTypes := #[]
  staticTypes := #[]
  resolved := Array.replicate 11 none
  statics := none }

def pool3 : Array CpInfo := pool [(1, .class_ 2), (0, u "java/lang/Comparable"), (0, .class_ 4), (0, u "java/lang/Object")] 7

/-- java/lang/Comparable -/
def k3 : Class := { plain "java/lang/Comparable" (some 0) with
  accessFlags := 1537
  interfaces := #[]
  cf := some (fileOf pool3 1 #[] #[] 1537 3 #[] #[])
  fields := #[]
  methods := #[]
  instanceTypes := #[]
  staticTypes := #[]
  resolved := Array.replicate 12 none
  statics := none }

def pool4 : Array CpInfo := pool [(1, .class_ 2), (0, u "java/io/Serializable"), (0, .class_ 4), (0, u "java/lang/Object")] 2

/-- java/io/Serializable -/
def k4 : Class := { plain "java/io/Serializable" (some 0) with
  accessFlags := 1537
  interfaces := #[]
  cf := some (fileOf pool4 1 #[] #[] 1537 3 #[] #[])
  fields := #[]
  methods := #[]
  instanceTypes := #[]
  staticTypes := #[]
  resolved := Array.replicate 7 none
  statics := none }

def pool5 : Array CpInfo := pool [(2, .class_ 4), (1, u "java/lang/Enum"), (0, u "name"), (0, u "Ljava/lang/String;"), (2, u "ordinal"), (0, u "I"), (1, .class_ 14), (1, u "java/lang/Object"), (4, u "hash"), (86, .class_ 108), (1, u "java/lang/Enum$EnumDesc"), (2, .class_ 112), (0, u "java/lang/constant/Constable"), (0, .class_ 114), (0, u "java/lang/Comparable"), (0, .class_ 116), (0, u "java/io/Serializable")] 87

/-- java/lang/Enum -/
def k5 : Class := { plain "java/lang/Enum" (some 0) with
  accessFlags := 1057
  interfaces := #[2, 3, 4]
  cf := some (fileOf pool5 2 #[.nestMembers #[106]] #[] 1057 12 #[111, 113, 115] #[{ accessFlags := 18, nameIndex := 5, descriptorIndex := 6, attributes := #[] }, { accessFlags := 18, nameIndex := 9, descriptorIndex := 10, attributes := #[] }, { accessFlags := 2, nameIndex := 19, descriptorIndex := 10, attributes := #[] }])
  fields := #[{ name := "name", type := (.object "java/lang/String"), accessFlags := 18, slot := 0, constantValue := 0 }, { name := "ordinal", type := .int, accessFlags := 18, slot := 1, constantValue := 0 }, { name := "hash", type := .int, accessFlags := 2, slot := 2, constantValue := 0 }]
  methods := #[]
  instanceTypes := #[(.object "java/lang/String"), .int, .int]
  staticTypes := #[]
  resolved := Array.replicate 204 none
  statics := none }

def pool6 : Array CpInfo := pool [(1, .class_ 2), (0, u "com/example/unanimity/unanimity/core/Joined$State"), (2, u "PREPARED"), (0, u "Lcom/example/unanimity/unanimity/core/Joined$State;"), (2, u "PRE_COMMITTED"), (2, u "PRE_ABORTED"), (0, .fieldref 1 14), (0, .nameAndType 15 6), (0, u "HEURISTICALLY_COMMITTED"), (0, .fieldref 1 17), (0, .nameAndType 18 6), (0, u "HEURISTICALLY_ABORTED"), (0, .fieldref 1 20), (0, .nameAndType 21 6), (0, u "COMMITTED"), (2, u "COMMITTED_IN_ONE_PHASE"), (0, .fieldref 1 26), (0, .nameAndType 27 6), (0, u "ABORTED"), (0, .fieldref 1 29), (0, .nameAndType 30 6), (0, u "COMMITTED_AGAINST_HEURISTIC"), (0, .fieldref 1 32), (0, .nameAndType 33 6), (0, u "ABORTED_AGAINST_HEURISTIC"), (2, u "$VALUES"), (0, u "[Lcom/example/unanimity/unanimity/core/Joined$State;"), (6, .class_ 46), (1, u "java/lang/Enum"), (6, .fieldref 1 54), (0, .nameAndType 55 56), (0, u "status"), (0, u "Lcom/example/unanimity/unanimity/core/TxnStatus;"), (2, u "reported"), (0, u "Lcom/example/unanimity/unanimity/core/Message$StateReport$State;"), (0, .fieldref 1 62), (0, .nameAndType 63 64), (0, u "decision"), (0, u "Lcom/example/unanimity/unanimity/core/Outcome;"), (2, u "heuristic"), (0, .fieldref 69 70), (0, .class_ 71), (0, .nameAndType 72 56), (0, u "com/example/unanimity/unanimity/core/TxnStatus"), (0, u "IN_DOUBT"), (0, .fieldref 74 75), (0, .class_ 76), (0, .nameAndType 21 64), (0, u "com/example/unanimity/unanimity/core/Outcome"), (0, .fieldref 74 78), (0, .nameAndType 27 64), (0, .methodref 1 80), (0, .nameAndType 81 82), (0, u "decided"), (0, u "(Lcom/example/unanimity/unanimity/core/Outcome;)Lcom/example/unanimity/unanimity/core/Joined$State;"), (49, u "inDoubt"), (0, u "()Z"), (1, u "awaitsDecision"), (0, u "after"), (6, .class_ 144), (0, u "com/example/unanimity/unanimity/core/Joined")] 7

def k6c0 : Code := { maxStack := 2, maxLocals := 1, code := prog_7_method_4_code, exceptionTable := #[], attributes := #[] }
def k6m0 : Method := { name := "inDoubt", desc := "()Z", sig := { parameters := [], returnType := some .boolean }, accessFlags := 0, code := some k6c0 }
def k6c1 : Code := { maxStack := 1, maxLocals := 1, code := prog_7_method_5_code, exceptionTable := #[], attributes := #[] }
def k6m1 : Method := { name := "awaitsDecision", desc := "()Z", sig := { parameters := [], returnType := some .boolean }, accessFlags := 0, code := some k6c1 }
def k6c2 : Code := { maxStack := 2, maxLocals := 4, code := prog_7_method_6_code, exceptionTable := #[], attributes := #[] }
def k6m2 : Method := { name := "after", desc := "(Lcom/example/unanimity/unanimity/core/Outcome;)Lcom/example/unanimity/unanimity/core/Joined$State;", sig := { parameters := [(.object "com/example/unanimity/unanimity/core/Outcome")], returnType := some (.object "com/example/unanimity/unanimity/core/Joined$State") }, accessFlags := 0, code := some k6c2 }
def k6c3 : Code := { maxStack := 2, maxLocals := 1, code := prog_7_method_7_code, exceptionTable := #[], attributes := #[] }
def k6m3 : Method := { name := "decided", desc := "(Lcom/example/unanimity/unanimity/core/Outcome;)Lcom/example/unanimity/unanimity/core/Joined$State;", sig := { parameters := [(.object "com/example/unanimity/unanimity/core/Outcome")], returnType := some (.object "com/example/unanimity/unanimity/core/Joined$State") }, accessFlags := 8, code := some k6c3 }
/-- com/example/unanimity/unanimity/core/Joined$State -/
def k6 : Class := { plain "com/example/unanimity/unanimity/core/Joined$State" (some 5) with
  accessFlags := 16432
  interfaces := #[]
  cf := some (fileOf pool6 1 #[.nestHost 143] #[{ accessFlags := 0, nameIndex := 132, descriptorIndex := 133, attributes := #[] }, { accessFlags := 0, nameIndex := 135, descriptorIndex := 133, attributes := #[] }, { accessFlags := 0, nameIndex := 136, descriptorIndex := 82, attributes := #[] }, { accessFlags := 8, nameIndex := 81, descriptorIndex := 82, attributes := #[] }] 16432 44 #[] #[{ accessFlags := 16409, nameIndex := 5, descriptorIndex := 6, attributes := #[] }, { accessFlags := 16409, nameIndex := 9, descriptorIndex := 6, attributes := #[] }, { accessFlags := 16409, nameIndex := 12, descriptorIndex := 6, attributes := #[] }, { accessFlags := 16409, nameIndex := 15, descriptorIndex := 6, attributes := #[] }, { accessFlags := 16409, nameIndex := 18, descriptorIndex := 6, attributes := #[] }, { accessFlags := 16409, nameIndex := 21, descriptorIndex := 6, attributes := #[] }, { accessFlags := 16409, nameIndex := 24, descriptorIndex := 6, attributes := #[] }, { accessFlags := 16409, nameIndex := 27, descriptorIndex := 6, attributes := #[] }, { accessFlags := 16409, nameIndex := 30, descriptorIndex := 6, attributes := #[] }, { accessFlags := 16409, nameIndex := 33, descriptorIndex := 6, attributes := #[] }, { accessFlags := 16, nameIndex := 55, descriptorIndex := 56, attributes := #[] }, { accessFlags := 16, nameIndex := 59, descriptorIndex := 60, attributes := #[] }, { accessFlags := 16, nameIndex := 63, descriptorIndex := 64, attributes := #[] }, { accessFlags := 16, nameIndex := 67, descriptorIndex := 64, attributes := #[] }, { accessFlags := 4122, nameIndex := 36, descriptorIndex := 37, attributes := #[] }])
  fields := #[{ name := "PREPARED", type := (.object "com/example/unanimity/unanimity/core/Joined$State"), accessFlags := 16409, slot := 0, constantValue := 0 }, { name := "PRE_COMMITTED", type := (.object "com/example/unanimity/unanimity/core/Joined$State"), accessFlags := 16409, slot := 1, constantValue := 0 }, { name := "PRE_ABORTED", type := (.object "com/example/unanimity/unanimity/core/Joined$State"), accessFlags := 16409, slot := 2, constantValue := 0 }, { name := "HEURISTICALLY_COMMITTED", type := (.object "com/example/unanimity/unanimity/core/Joined$State"), accessFlags := 16409, slot := 3, constantValue := 0 }, { name := "HEURISTICALLY_ABORTED", type := (.object "com/example/unanimity/unanimity/core/Joined$State"), accessFlags := 16409, slot := 4, constantValue := 0 }, { name := "COMMITTED", type := (.object "com/example/unanimity/unanimity/core/Joined$State"), accessFlags := 16409, slot := 5, constantValue := 0 }, { name := "COMMITTED_IN_ONE_PHASE", type := (.object "com/example/unanimity/unanimity/core/Joined$State"), accessFlags := 16409, slot := 6, constantValue := 0 }, { name := "ABORTED", type := (.object "com/example/unanimity/unanimity/core/Joined$State"), accessFlags := 16409, slot := 7, constantValue := 0 }, { name := "COMMITTED_AGAINST_HEURISTIC", type := (.object "com/example/unanimity/unanimity/core/Joined$State"), accessFlags := 16409, slot := 8, constantValue := 0 }, { name := "ABORTED_AGAINST_HEURISTIC", type := (.object "com/example/unanimity/unanimity/core/Joined$State"), accessFlags := 16409, slot := 9, constantValue := 0 }, { name := "status", type := (.object "com/example/unanimity/unanimity/core/TxnStatus"), accessFlags := 16, slot := 3, constantValue := 0 }, { name := "reported", type := (.object "com/example/unanimity/unanimity/core/Message$StateReport$State"), accessFlags := 16, slot := 4, constantValue := 0 }, { name := "decision", type := (.object "com/example/unanimity/unanimity/core/Outcome"), accessFlags := 16, slot := 5, constantValue := 0 }, { name := "heuristic", type := (.object "com/example/unanimity/unanimity/core/Outcome"), accessFlags := 16, slot := 6, constantValue := 0 }, { name := "$VALUES", type := (.array (.object "com/example/unanimity/unanimity/core/Joined$State")), accessFlags := 4122, slot := 10, constantValue := 0 }]
  methods := #[k6m0, k6m1, k6m2, k6m3]
  instanceTypes := #[(.object "java/lang/String"), .int, .int, (.object "com/example/unanimity/unanimity/core/TxnStatus"), (.object "com/example/unanimity/unanimity/core/Message$StateReport$State"), (.object "com/example/unanimity/unanimity/core/Outcome"), (.object "com/example/unanimity/unanimity/core/Outcome")]
  staticTypes := #[(.object "com/example/unanimity/unanimity/core/Joined$State"), (.object "com/example/unanimity/unanimity/core/Joined$State"), (.object "com/example/unanimity/unanimity/core/Joined$State"), (.object "com/example/unanimity/unanimity/core/Joined$State"), (.object "com/example/unanimity/unanimity/core/Joined$State"), (.object "com/example/unanimity/unanimity/core/Joined$State"), (.object "com/example/unanimity/unanimity/core/Joined$State"), (.object "com/example/unanimity/unanimity/core/Joined$State"), (.object "com/example/unanimity/unanimity/core/Joined$State"), (.object "com/example/unanimity/unanimity/core/Joined$State"), (.array (.object "com/example/unanimity/unanimity/core/Joined$State"))]
  resolved := Array.replicate 152 none
  statics := some 0 }

def pool7 : Array CpInfo := pool [(1, .class_ 2), (0, u "com/example/unanimity/unanimity/core/TxnStatus"), (2, u "COMMITTED"), (0, u "Lcom/example/unanimity/unanimity/core/TxnStatus;"), (2, u "ABORTED"), (2, u "IN_DOUBT"), (2, u "HEURISTIC_COMMIT"), (2, u "HEURISTIC_ABORT"), (2, u "HEURISTIC_MISMATCH"), (2, u "ACTIVE"), (2, u "UNKNOWN"), (2, u "$VALUES"), (0, u "[Lcom/example/unanimity/unanimity/core/TxnStatus;"), (6, .class_ 40), (1, u "java/lang/Enum")] 37

/-- com/example/unanimity/unanimity/core/TxnStatus -/
def k7 : Class := { plain "com/example/unanimity/unanimity/core/TxnStatus" (some 5) with
  accessFlags := 16433
  interfaces := #[]
  cf := some (fileOf pool7 1 #[] #[] 16433 38 #[] #[{ accessFlags := 16409, nameIndex := 5, descriptorIndex := 6, attributes := #[] }, { accessFlags := 16409, nameIndex := 9, descriptorIndex := 6, attributes := #[] }, { accessFlags := 16409, nameIndex := 12, descriptorIndex := 6, attributes := #[] }, { accessFlags := 16409, nameIndex := 15, descriptorIndex := 6, attributes := #[] }, { accessFlags := 16409, nameIndex := 18, descriptorIndex := 6, attributes := #[] }, { accessFlags := 16409, nameIndex := 21, descriptorIndex := 6, attributes := #[] }, { accessFlags := 16409, nameIndex := 24, descriptorIndex := 6, attributes := #[] }, { accessFlags := 16409, nameIndex := 27, descriptorIndex := 6, attributes := #[] }, { accessFlags := 4122, nameIndex := 30, descriptorIndex := 31, attributes := #[] }])
  fields := #[{ name := "COMMITTED", type := (.object "com/example/unanimity/unanimity/core/TxnStatus"), accessFlags := 16409, slot := 0, constantValue := 0 }, { name := "ABORTED", type := (.object "com/example/unanimity/unanimity/core/TxnStatus"), accessFlags := 16409, slot := 1, constantValue := 0 }, { name := "IN_DOUBT", type := (.object "com/example/unanimity/unanimity/core/TxnStatus"), accessFlags := 16409, slot := 2, constantValue := 0 }, { name := "HEURISTIC_COMMIT", type := (.object "com/example/unanimity/unanimity/core/TxnStatus"), accessFlags := 16409, slot := 3, constantValue := 0 }, { name := "HEURISTIC_ABORT", type := (.object "com/example/unanimity/unanimity/core/TxnStatus"), accessFlags := 16409, slot := 4, constantValue := 0 }, { name := "HEURISTIC_MISMATCH", type := (.object "com/example/unanimity/unanimity/core/TxnStatus"), accessFlags := 16409, slot := 5, constantValue := 0 }, { name := "ACTIVE", type := (.object "com/example/unanimity/unanimity/core/TxnStatus"), accessFlags := 16409, slot := 6, constantValue := 0 }, { name := "UNKNOWN", type := (.object "com/example/unanimity/unanimity/core/TxnStatus"), accessFlags := 16409, slot := 7, constantValue := 0 }, { name := "$VALUES", type := (.array (.object "com/example/unanimity/unanimity/core/TxnStatus")), accessFlags := 4122, slot := 8, constantValue := 0 }]
  methods := #[]
  instanceTypes := #[(.object "java/lang/String"), .int, .int]
  staticTypes := #[(.object "com/example/unanimity/unanimity/core/TxnStatus"), (.object "com/example/unanimity/unanimity/core/TxnStatus"), (.object "com/example/unanimity/unanimity/core/TxnStatus"), (.object "com/example/unanimity/unanimity/core/TxnStatus"), (.object "com/example/unanimity/unanimity/core/TxnStatus"), (.object "com/example/unanimity/unanimity/core/TxnStatus"), (.object "com/example/unanimity/unanimity/core/TxnStatus"), (.object "com/example/unanimity/unanimity/core/TxnStatus"), (.array (.object "com/example/unanimity/unanimity/core/TxnStatus"))]
  resolved := Array.replicate 78 none
  statics := some 1 }

def pool8 : Array CpInfo := pool [(1, .class_ 2), (0, u "com/example/unanimity/unanimity/core/Outcome"), (2, u "COMMITTED"), (0, u "Lcom/example/unanimity/unanimity/core/Outcome;"), (2, u "ABORTED"), (2, u "$VALUES"), (0, u "[Lcom/example/unanimity/unanimity/core/Outcome;"), (6, .class_ 22), (1, u "java/lang/Enum")] 31

/-- com/example/unanimity/unanimity/core/Outcome -/
def k8 : Class := { plain "com/example/unanimity/unanimity/core/Outcome" (some 5) with
  accessFlags := 16433
  interfaces := #[]
  cf := some (fileOf pool8 1 #[] #[] 16433 20 #[] #[{ accessFlags := 16409, nameIndex := 5, descriptorIndex := 6, attributes := #[] }, { accessFlags := 16409, nameIndex := 9, descriptorIndex := 6, attributes := #[] }, { accessFlags := 4122, nameIndex := 12, descriptorIndex := 13, attributes := #[] }])
  fields := #[{ name := "COMMITTED", type := (.object "com/example/unanimity/unanimity/core/Outcome"), accessFlags := 16409, slot := 0, constantValue := 0 }, { name := "ABORTED", type := (.object "com/example/unanimity/unanimity/core/Outcome"), accessFlags := 16409, slot := 1, constantValue := 0 }, { name := "$VALUES", type := (.array (.object "com/example/unanimity/unanimity/core/Outcome")), accessFlags := 4122, slot := 2, constantValue := 0 }]
  methods := #[]
  instanceTypes := #[(.object "java/lang/String"), .int, .int]
  staticTypes := #[(.object "com/example/unanimity/unanimity/core/Outcome"), (.object "com/example/unanimity/unanimity/core/Outcome"), (.array (.object "com/example/unanimity/unanimity/core/Outcome"))]
  resolved := Array.replicate 54 none
  statics := some 2 }

def pool9 : Array CpInfo := pool [(1, u "java/lang/Cloneable"), (0, .class_ 1), (0, u "java/lang/Object"), (0, .class_ 3)] 3

/-- java/lang/Cloneable -/
def k9 : Class := { plain "java/lang/Cloneable" (some 0) with
  accessFlags := 1537
  interfaces := #[]
  cf := some (fileOf pool9 2 #[] #[] 1537 4 #[] #[])
  fields := #[]
  methods := #[]
  instanceTypes := #[]
  staticTypes := #[]
  resolved := Array.replicate 8 none
  statics := none }

/-- the primitive byte -/
def k10 : Class := { plain "byte" none with kind := .primitive 'B', accessFlags := 0x411 }
/-- [B -/
def k11 : Class := { plain "[B" (some 0) with kind := .array 10 .byte, interfaces := #[9, 4], accessFlags := 1041 }

def heap : Heap := #[{ cls := 6, slots := #[.ref 3, .ref 18, .ref 17, .ref 7, .ref 6, .ref 8, .ref 13, .ref 19, .ref 11, .ref 15, .null], vm := .statics 6 },
  { cls := 7, slots := #[.ref 14, .ref 20, .ref 4, .ref 10, .ref 9, .ref 12, .null, .null, .null], vm := .statics 7 },
  { cls := 8, slots := #[.ref 5, .ref 16, .null], vm := .statics 8 },
  { cls := 6, slots := #[.null, .int 0, .int 0, .ref 4, .null, .null, .null], vm := .none },
  { cls := 7, slots := #[.null, .int 2, .int 0], vm := .none },
  { cls := 8, slots := #[.null, .int 0, .int 0], vm := .none },
  { cls := 6, slots := #[.null, .int 4, .int 0, .ref 9, .null, .null, .null], vm := .none },
  { cls := 6, slots := #[.null, .int 3, .int 0, .ref 10, .null, .null, .null], vm := .none },
  { cls := 6, slots := #[.null, .int 0, .int 0, .ref 14, .null, .ref 5, .null], vm := .none },
  { cls := 7, slots := #[.null, .int 4, .int 0], vm := .none },
  { cls := 7, slots := #[.null, .int 3, .int 0], vm := .none },
  { cls := 6, slots := #[.null, .int 0, .int 0, .ref 12, .null, .ref 5, .null], vm := .none },
  { cls := 7, slots := #[.null, .int 5, .int 0], vm := .none },
  { cls := 6, slots := #[.null, .int 0, .int 0, .ref 14, .null, .ref 5, .null], vm := .none },
  { cls := 7, slots := #[.null, .int 0, .int 0], vm := .none },
  { cls := 6, slots := #[.null, .int 0, .int 0, .ref 12, .null, .ref 16, .null], vm := .none },
  { cls := 8, slots := #[.null, .int 1, .int 0], vm := .none },
  { cls := 6, slots := #[.null, .int 2, .int 0, .ref 4, .null, .null, .null], vm := .none },
  { cls := 6, slots := #[.null, .int 1, .int 0, .ref 4, .null, .null, .null], vm := .none },
  { cls := 6, slots := #[.null, .int 0, .int 0, .ref 20, .null, .ref 16, .null], vm := .none },
  { cls := 7, slots := #[.null, .int 1, .int 0], vm := .none }]
def classes : Array Class := #[k0, k1, k2, k3, k4, k5, k6, k7, k8, k9, k10, k11]
def interned : List (Array UInt16 × Addr) := []
def slotsUsed : Nat := 117
def theMethod : MethodId := ⟨1, 2⟩
def args0 : Array Value := #[.int 5, .int 3]
def aboutOver (below : List Frame) : State where
  vm := { classes := classes, interned := interned.toArray }
  heap := heap
  slotsUsed := slotsUsed
  threads := #[{ frames := .invoking theMethod args0 :: below }]
def below0 : List Frame := [.native { method := ⟨0, 0⟩, args := #[] }]
def about1 : State := aboutOver below0
def p0 : Program := .bare "" "" ""
def e0 : Env := launch0.env 0 0 0
theorem w_frames : about1.frames = Frame.invoking theMethod args0 :: below0 := rfl
set_option maxRecDepth 65536 in
theorem w_args : argsFit about1.vm theMethod args0 = true := by decide +kernel
set_option maxRecDepth 65536 in
theorem w_heap : heapFits about1 = true := by decide +kernel
set_option maxRecDepth 65536 in
theorem w_runnable : about1.curStatus? = some .runnable := by decide +kernel
set_option maxRecDepth 65536 in
theorem w_alone : about1.alone = true := by decide +kernel
set_option maxRecDepth 65536 in
theorem w_named : about1.methodNamed? x = some theMethod := by decide +kernel
set_option maxRecDepth 65536 in
theorem w_hears : about1.hears theMethod below0 = true := by decide +kernel
set_option maxRecDepth 65536 in
theorem w_ripe : about1.ripe theMethod args0 below0 = true := by decide +kernel
theorem w_running : about1.status = .running := rfl
set_option maxRecDepth 65536 in
theorem w_room : about1.hasRoom e0.platform room_1 = true :=
  launch0.hasRoom_least _ room_1 (by decide +kernel) (by decide +kernel) (by decide +kernel) (by decide +kernel) (by decide +kernel) (by decide +kernel)
theorem allAtoms_all (ts : List Jvm.Cond) (a : Array Jvm.Value) (st : Jvm.State) : (allAtoms ts).before a st = ts.all (fun c => c.before a st) := by
  induction ts with
  | nil => rfl
  | cons c t ih =>
    show (Jvm.Cond.and c (allAtoms t)).before a st = _
    rw [Jvm.Cond.before_and, ih, List.all_cons]
def words1 : List Jvm.Cond := Jvm.Cond.code x code maxLocals ret :: tables_1
/-- a 'code' word, met by the world's own term for the bytes: nothing is compared byte by byte -/
theorem code_word {y : MethodName} {bytes : ByteArray} {mx : Nat} {rt : Option FieldType} {a : Array Value} {s : State} {m : MethodId} {meth : Method} {c : Code} (h1 : s.methodNamed? y = some m) (h2 : s.vm.method? m = some meth) (h3 : meth.code = some c) (h4 : c.code = bytes)
    (h5 : (c.maxLocals == mx && c.exceptionTable.isEmpty && decide (c.maxStack ≤ mostOperands) && decide (meth.sig.returnType = rt) && !meth.locks && decide (parseMethodDescriptor y.desc = some meth.sig)) = true) : (Jvm.Cond.code y bytes mx rt).before a s = true := by
  simp only [Bool.and_eq_true, beq_iff_eq, Bool.not_eq_true', decide_eq_true_eq] at h5
  obtain ⟨⟨⟨⟨⟨g1, g2⟩, g3⟩, g4⟩, g5⟩, g6⟩ := h5
  simp [Cond.before, Cond.holds, Cond.value, h1, h2, h3, h4, g1, g2, g3, g4, g5, g6]
def isCode : Jvm.Cond → Bool
  | .code _ _ _ _ => true
  | _ => false
theorem all_split {L : List Jvm.Cond} {P : Jvm.Cond → Bool} (h1 : L.all (fun c => isCode c || P c) = true) (h2 : ∀ c ∈ L.filter isCode, P c = true) : L.all P = true := by
  refine List.all_eq_true.mpr fun c hc => ?_
  have h := List.all_eq_true.mp h1 c hc
  rcases Bool.eq_false_or_eq_true (isCode c) with hi | hi
  · exact h2 c (List.mem_filter.mpr ⟨hc, hi⟩)
  · simpa [hi] using h
set_option maxRecDepth 65536 in
theorem w_c0 : (Jvm.Cond.code x code maxLocals ret).before args0 about1 = true := code_word (m := ⟨1, 2⟩) (meth := k1m2) (c := k1c2) (by decide +kernel) rfl rfl rfl (by decide +kernel)
set_option maxRecDepth 65536 in
theorem w_c1 : (Jvm.Cond.code ({ cls := "com/example/unanimity/unanimity/core/StateAwaitsDecisionPinLaw", name := "pick", desc := "(I)Lcom/example/unanimity/unanimity/core/Joined$State;" } : Jvm.MethodName) method_2_code (1 : Nat) (Option.some (Jvm.ClassFile.FieldType.object "com/example/unanimity/unanimity/core/Joined$State"))).before args0 about1 = true := code_word (m := ⟨1, 1⟩) (meth := k1m1) (c := k1c1) (by decide +kernel) rfl rfl rfl (by decide +kernel)
set_option maxRecDepth 65536 in
theorem w_c2 : (Jvm.Cond.code ({ cls := "com/example/unanimity/unanimity/core/Joined$State", name := "awaitsDecision", desc := "()Z" } : Jvm.MethodName) prog_7_method_5_code (1 : Nat) (Option.some Jvm.ClassFile.FieldType.boolean)).before args0 about1 = true := code_word (m := ⟨6, 1⟩) (meth := k6m1) (c := k6c1) (by decide +kernel) rfl rfl rfl (by decide +kernel)
set_option maxRecDepth 65536 in
theorem w_c3 : (Jvm.Cond.code ({ cls := "com/example/unanimity/unanimity/core/Joined$State", name := "inDoubt", desc := "()Z" } : Jvm.MethodName) prog_7_method_4_code (1 : Nat) (Option.some Jvm.ClassFile.FieldType.boolean)).before args0 about1 = true := code_word (m := ⟨6, 0⟩) (meth := k6m0) (c := k6c0) (by decide +kernel) rfl rfl rfl (by decide +kernel)
set_option maxRecDepth 65536 in
theorem w_c4 : (Jvm.Cond.code ({ cls := "com/example/unanimity/unanimity/core/Joined$State", name := "after", desc := "(Lcom/example/unanimity/unanimity/core/Outcome;)Lcom/example/unanimity/unanimity/core/Joined$State;" } : Jvm.MethodName) prog_7_method_6_code (4 : Nat) (Option.some (Jvm.ClassFile.FieldType.object "com/example/unanimity/unanimity/core/Joined$State"))).before args0 about1 = true := code_word (m := ⟨6, 2⟩) (meth := k6m2) (c := k6c2) (by decide +kernel) rfl rfl rfl (by decide +kernel)
set_option maxRecDepth 65536 in
theorem w_c5 : (Jvm.Cond.code ({ cls := "com/example/unanimity/unanimity/core/Joined$State", name := "decided", desc := "(Lcom/example/unanimity/unanimity/core/Outcome;)Lcom/example/unanimity/unanimity/core/Joined$State;" } : Jvm.MethodName) prog_7_method_7_code (1 : Nat) (Option.some (Jvm.ClassFile.FieldType.object "com/example/unanimity/unanimity/core/Joined$State"))).before args0 about1 = true := code_word (m := ⟨6, 3⟩) (meth := k6m3) (c := k6c3) (by decide +kernel) rfl rfl rfl (by decide +kernel)
def codes1 : List Jvm.Cond := [Jvm.Cond.code x code maxLocals ret, Jvm.Cond.code ({ cls := "com/example/unanimity/unanimity/core/StateAwaitsDecisionPinLaw", name := "pick", desc := "(I)Lcom/example/unanimity/unanimity/core/Joined$State;" } : Jvm.MethodName) method_2_code (1 : Nat) (Option.some (Jvm.ClassFile.FieldType.object "com/example/unanimity/unanimity/core/Joined$State")), Jvm.Cond.code ({ cls := "com/example/unanimity/unanimity/core/Joined$State", name := "awaitsDecision", desc := "()Z" } : Jvm.MethodName) prog_7_method_5_code (1 : Nat) (Option.some Jvm.ClassFile.FieldType.boolean), Jvm.Cond.code ({ cls := "com/example/unanimity/unanimity/core/Joined$State", name := "inDoubt", desc := "()Z" } : Jvm.MethodName) prog_7_method_4_code (1 : Nat) (Option.some Jvm.ClassFile.FieldType.boolean), Jvm.Cond.code ({ cls := "com/example/unanimity/unanimity/core/Joined$State", name := "after", desc := "(Lcom/example/unanimity/unanimity/core/Outcome;)Lcom/example/unanimity/unanimity/core/Joined$State;" } : Jvm.MethodName) prog_7_method_6_code (4 : Nat) (Option.some (Jvm.ClassFile.FieldType.object "com/example/unanimity/unanimity/core/Joined$State")), Jvm.Cond.code ({ cls := "com/example/unanimity/unanimity/core/Joined$State", name := "decided", desc := "(Lcom/example/unanimity/unanimity/core/Outcome;)Lcom/example/unanimity/unanimity/core/Joined$State;" } : Jvm.MethodName) prog_7_method_7_code (1 : Nat) (Option.some (Jvm.ClassFile.FieldType.object "com/example/unanimity/unanimity/core/Joined$State"))]
set_option maxRecDepth 65536 in
theorem codes_eq : words1.filter isCode = codes1 := rfl
theorem w_codes : ∀ c ∈ words1.filter isCode, c.before args0 about1 = true := by
  rw [codes_eq]
  intro c hc
  simp only [codes1, List.mem_cons, List.not_mem_nil, or_false] at hc
  rcases hc with rfl | rfl | rfl | rfl | rfl | rfl
  · exact w_c0
  · exact w_c1
  · exact w_c2
  · exact w_c3
  · exact w_c4
  · exact w_c5
set_option maxRecDepth 65536 in
theorem w_t1 : (words1.take 24).all (fun c => isCode c || c.before args0 about1) = true := by decide +kernel
set_option maxRecDepth 65536 in
theorem w_t2 : ((words1.drop 24).take 24).all (fun c => isCode c || c.before args0 about1) = true := by decide +kernel
set_option maxRecDepth 65536 in
theorem w_t3 : (((words1.drop 24).drop 24).take 24).all (fun c => isCode c || c.before args0 about1) = true := by decide +kernel
set_option maxRecDepth 65536 in
theorem w_t4 : (((words1.drop 24).drop 24).drop 24).all (fun c => isCode c || c.before args0 about1) = true := by decide +kernel
theorem w_tables : (allAtoms (Jvm.Cond.code x code maxLocals ret :: tables_1)).before args0 about1 = true := by
  rw [allAtoms_all]
  show words1.all (fun c => c.before args0 about1) = true
  refine all_split ?_ w_codes
  rw [← List.take_append_drop 24 words1, List.all_append, w_t1, ← List.take_append_drop 24 (words1.drop 24), List.all_append, w_t2, ← List.take_append_drop 24 ((words1.drop 24).drop 24), List.all_append, w_t3, w_t4]
  rfl
set_option maxRecDepth 65536 in
theorem w_case : (Jvm.Cond.and given_1 narrow_1).before args0 about1 = true := by decide +kernel
theorem w_applies : (headSpec (Jvm.Cond.code x code maxLocals ret :: tables_1) room_1).applies x e0.platform about1 = true :=
  (Spec.applies_iff w_frames).mpr ⟨w_running, w_runnable, w_alone, w_named, w_hears, w_ripe, w_room, w_tables⟩
theorem atStart : AtStart classFile x code maxLocals ret World_1 tables_1 room_1 Calls_1 rest_1 Pre_1 launch0 p0 e0 about1 theMethod args0 below0 :=
  ⟨lists_1, trivial, launch0.admits_env _ _ _, launch0.least_env, fairChoices_fair.cas, fairChoices_fair.clock, w_frames, w_args, w_heap, w_applies, trivial, trivial, w_case⟩
end start1
theorem witness_1 : WitnessClaimed_1 := ⟨start1.p0, start1.e0, start1.about1, start1.theMethod, start1.args0, start1.below0, start1.atStart⟩
end Jvm.Pilot.@@N@@
