import JvmDerived
import JvmDerived.Pilot.@@N@@Statement
import JvmDerived.Pilot.@@N@@Code
set_option linter.unusedVariables false
set_option linter.unusedSimpArgs false
@@BLOCK:NumsL.lean.txt@@
namespace Jvm.RoadKit
open Sem ClassFile Op Lib Jvm.Stand Jvm.Free Jvm.LawKit
section New
variable {p : Program} {l : Launch} {e : Env} {R : Room} {s : State} {m : MethodId} {args : Array Value} {below : List Frame} {meth : Method} {c : Code} {T : State} {locs : List Loc} {cells slots : Nat}
theorem retI (X : Stand p l e R s m args below meth c T locs cells slots) (hx : p.tables.exec = Jvm.exec) {pc : Nat} {Ls : Array Slot} {z : Int32} {rest : List Value} (hret : meth.sig.returnType = some .int) (hd : decode c.code pc = .ok (.ireturn, 1)) {fs : List Frame}
    (hl : ∀ (f : JFrame) (acts : List Action), f.method = m → f.locked = none → f.entered = [] → (doReturn e (T.setTop f) acts (some (.int z))).1 = T.setFrames fs) : Steps p.tables e below (T.setTop (mkF m pc Ls (.int z :: rest))) (T.setFrames fs) := by
  have hm' : T.vm.method? m = some meth := X.method'
  have hn : narrow .int (.int z) = .int z := rfl
  show Steps p.tables e below (T.setTop { method := m, pc := pc, locals := Ls, stack := _ :: rest, locked := none }) _
  jvm_step X.here [X.here.top, hx, hd, hm', hret, hn]
  first | (intro acts; rw [hl _ acts rfl rfl rfl]) | rw [hl _ _ rfl rfl rfl]
  exact Steps.refl _
end New
end Jvm.RoadKit
namespace Jvm.Pilot.@@N@@
open Jvm Jvm.ClassFile Sem Op Lib Jvm.Free Jvm.Stand Jvm.LawKit Jvm.RoadKit Bundle Jvm.Pilot.@@N@@.Jvm.D
def own_Q (r : Option Value) (h0 : Heap) (n0 : Nat) (v : Option Value) (h : Heap) (L : List Loc) : Prop := v = r ∧ Fr n0 L ∧ h = h0
theorem own_eqI {args : Array Value} {Z : State} {t : Term} {k : Int32} (h : (Cond.eq t (Term.int k)).value args Z none Z [] = some true) : t.eval args Z none [] Z = some (.int k) := by
  simp only [Cond.value, Term.eval] at h
  cases ht : t.eval args Z none [] Z with
  | none => simp [ht] at h
  | some v => cases v <;> simp [ht] at h ⊢ <;> exact h
theorem own_eqR {args : Array Value} {Z : State} {t u : Term} {y : Addr} (h : (Cond.eq t u).value args Z none Z [] = some true) (hu : u.eval args Z none [] Z = some (.ref y)) : t.eval args Z none [] Z = some (.ref y) := by
  simp only [Cond.value, hu] at h
  cases ht : t.eval args Z none [] Z with
  | none => simp [ht] at h
  | some v => cases v <;> simp [ht] at h ⊢ <;> exact h
theorem own_len {args : Array Value} {Z : State} {t : Term} {a : Addr} {cl : Cell} {ty : FieldType} {z : Int32} (A : Arr Z Z.heap a cl ty) (ht : t.eval args Z none [] Z = some (.ref a)) (hl : (Term.length t).eval args Z none [] Z = some (.int z)) : cl.slots.size < 2 ^ 31 ∧ cl.slots.size.toInt32 = z := by
  have ha : Z.arrayAt? a = some cl := Arr.fin (State.Warmed39.refl Z).alike A
  by_cases q : cl.slots.size < 2 ^ 31
  · rw [len_f ht ha q] at hl; exact ⟨q, Value.int.inj (Option.some.inj hl)⟩
  · simp [Term.eval, ht, ha, q] at hl
theorem own_eqJ {args : Array Value} {Z : State} {t : Term} {k : Int64} (h : (Cond.eq t (Term.long k)).value args Z none Z [] = some true) : t.eval args Z none [] Z = some (.long k) := by
  simp only [Cond.value, Term.eval] at h
  cases ht : t.eval args Z none [] Z with
  | none => simp [ht] at h
  | some v => cases v <;> simp [ht] at h ⊢ <;> exact h
def own_Ctx (Z : State) (h : Heap) (s_R s_F s_E s_L : Addr) (cl_R cl_F cl_E : Cell) (k_L : ClassId) : Prop := (Sta Z h "com/example/rattan/rattan/storage/label/ComponentCode" "RANGE_OF_FIRST" "[I" (.ref s_R)) ∧ (Scr Z h s_R cl_R (256 : Int32)) ∧ (Sta Z h "com/example/rattan/rattan/storage/label/ComponentCode" "FIRST" "[I" (.ref s_F)) ∧ (Scr Z h s_F cl_F (15 : Int32)) ∧ (Sta Z h "com/example/rattan/rattan/storage/label/ComponentCode" "EXTRA" "[I" (.ref s_E)) ∧ (Scr Z h s_E cl_E (15 : Int32)) ∧ (Sta Z h "com/example/rattan/rattan/storage/label/ComponentCode" "LOWEST" "[J" (.ref s_L)) ∧ (Arv Z h s_L k_L .long (15 : Int32) [(.long (-72340172838082848 : Int64)), (.long (-282578800154912 : Int64)), (.long (-1103823444256 : Int64)), (.long (-4311816480 : Int64)), (.long (-16849184 : Int64)), (.long (-71968 : Int64)), (.long (-6432 : Int64)), (.long (-32 : Int64)), (.long (160 : Int64)), (.long (6560 : Int64)), (.long (72096 : Int64)), (.long (16849312 : Int64)), (.long (4311816608 : Int64)), (.long (1103823444384 : Int64)), (.long (282578800155040 : Int64))] (.long (0 : Int64))) ∧ (∀ j : Int32, 1 ≤ j.toInt → j.toInt ≤ 7 → atv cl_R j = j - (1 : Int32)) ∧ (∀ j : Int32, 8 ≤ j.toInt → j.toInt ≤ 31 → atv cl_R j = (6 : Int32)) ∧ (∀ j : Int32, 32 ≤ j.toInt → j.toInt ≤ 223 → atv cl_R j = (7 : Int32)) ∧ (∀ j : Int32, 224 ≤ j.toInt → j.toInt ≤ 248 → atv cl_R j = (8 : Int32)) ∧ (∀ j : Int32, 249 ≤ j.toInt → j.toInt ≤ 254 → atv cl_R j = j - (240 : Int32)) ∧ (atv cl_F (0 : Int32) = (1 : Int32)) ∧ (atv cl_F (1 : Int32) = (2 : Int32)) ∧ (atv cl_F (2 : Int32) = (3 : Int32)) ∧ (atv cl_F (3 : Int32) = (4 : Int32)) ∧ (atv cl_F (4 : Int32) = (5 : Int32)) ∧ (atv cl_F (5 : Int32) = (6 : Int32)) ∧ (atv cl_F (6 : Int32) = (7 : Int32)) ∧ (atv cl_F (7 : Int32) = (32 : Int32)) ∧ (atv cl_F (8 : Int32) = (224 : Int32)) ∧ (atv cl_F (9 : Int32) = (249 : Int32)) ∧ (atv cl_F (10 : Int32) = (250 : Int32)) ∧ (atv cl_F (11 : Int32) = (251 : Int32)) ∧ (atv cl_F (12 : Int32) = (252 : Int32)) ∧ (atv cl_F (13 : Int32) = (253 : Int32)) ∧ (atv cl_F (14 : Int32) = (254 : Int32)) ∧ (atv cl_E (0 : Int32) = (7 : Int32)) ∧ (atv cl_E (1 : Int32) = (6 : Int32)) ∧ (atv cl_E (2 : Int32) = (5 : Int32)) ∧ (atv cl_E (3 : Int32) = (4 : Int32)) ∧ (atv cl_E (4 : Int32) = (3 : Int32)) ∧ (atv cl_E (5 : Int32) = (2 : Int32)) ∧ (atv cl_E (6 : Int32) = (1 : Int32)) ∧ (atv cl_E (7 : Int32) = (0 : Int32)) ∧ (atv cl_E (8 : Int32) = (1 : Int32)) ∧ (atv cl_E (9 : Int32) = (2 : Int32)) ∧ (atv cl_E (10 : Int32) = (3 : Int32)) ∧ (atv cl_E (11 : Int32) = (4 : Int32)) ∧ (atv cl_E (12 : Int32) = (5 : Int32)) ∧ (atv cl_E (13 : Int32) = (6 : Int32)) ∧ (atv cl_E (14 : Int32) = (7 : Int32))
def own_val (f t : Int) : Int := if 1 ≤ f ∧ f ≤ 1 then (-72340172838082848 + (f - 1) * 72057594037927936 + t / 1) else if 2 ≤ f ∧ f ≤ 2 then (-282578800154912 + (f - 2) * 281474976710656 + t / 256) else if 3 ≤ f ∧ f ≤ 3 then (-1103823444256 + (f - 3) * 1099511627776 + t / 65536) else if 4 ≤ f ∧ f ≤ 4 then (-4311816480 + (f - 4) * 4294967296 + t / 16777216) else if 5 ≤ f ∧ f ≤ 5 then (-16849184 + (f - 5) * 16777216 + t / 4294967296) else if 6 ≤ f ∧ f ≤ 6 then (-71968 + (f - 6) * 65536 + t / 1099511627776) else if 7 ≤ f ∧ f ≤ 31 then (-6432 + (f - 7) * 256 + t / 281474976710656) else if 32 ≤ f ∧ f ≤ 223 then (-32 + (f - 32) * 1 + t / 72057594037927936) else if 224 ≤ f ∧ f ≤ 248 then (160 + (f - 224) * 256 + t / 281474976710656) else if 249 ≤ f ∧ f ≤ 249 then (6560 + (f - 249) * 65536 + t / 1099511627776) else if 250 ≤ f ∧ f ≤ 250 then (72096 + (f - 250) * 16777216 + t / 4294967296) else if 251 ≤ f ∧ f ≤ 251 then (16849312 + (f - 251) * 4294967296 + t / 16777216) else if 252 ≤ f ∧ f ≤ 252 then (4311816608 + (f - 252) * 1099511627776 + t / 65536) else if 253 ≤ f ∧ f ≤ 253 then (1103823444384 + (f - 253) * 281474976710656 + t / 256) else if 254 ≤ f ∧ f ≤ 254 then (282578800155040 + (f - 254) * 72057594037927936 + t / 1) else 0
theorem own_val_0 {f t : Int} (h1 : 1 ≤ f) (h2 : f ≤ 1) : own_val f t = (-72340172838082848 + (f - 1) * 72057594037927936 + t / 1) := by
  unfold own_val
  rw [if_pos ⟨h1, h2⟩]
theorem own_val_1 {f t : Int} (h1 : 2 ≤ f) (h2 : f ≤ 2) : own_val f t = (-282578800154912 + (f - 2) * 281474976710656 + t / 256) := by
  unfold own_val
  rw [if_neg (by omega), if_pos ⟨h1, h2⟩]
theorem own_val_2 {f t : Int} (h1 : 3 ≤ f) (h2 : f ≤ 3) : own_val f t = (-1103823444256 + (f - 3) * 1099511627776 + t / 65536) := by
  unfold own_val
  rw [if_neg (by omega), if_neg (by omega), if_pos ⟨h1, h2⟩]
theorem own_val_3 {f t : Int} (h1 : 4 ≤ f) (h2 : f ≤ 4) : own_val f t = (-4311816480 + (f - 4) * 4294967296 + t / 16777216) := by
  unfold own_val
  rw [if_neg (by omega), if_neg (by omega), if_neg (by omega), if_pos ⟨h1, h2⟩]
theorem own_val_4 {f t : Int} (h1 : 5 ≤ f) (h2 : f ≤ 5) : own_val f t = (-16849184 + (f - 5) * 16777216 + t / 4294967296) := by
  unfold own_val
  rw [if_neg (by omega), if_neg (by omega), if_neg (by omega), if_neg (by omega), if_pos ⟨h1, h2⟩]
theorem own_val_5 {f t : Int} (h1 : 6 ≤ f) (h2 : f ≤ 6) : own_val f t = (-71968 + (f - 6) * 65536 + t / 1099511627776) := by
  unfold own_val
  rw [if_neg (by omega), if_neg (by omega), if_neg (by omega), if_neg (by omega), if_neg (by omega), if_pos ⟨h1, h2⟩]
theorem own_val_6 {f t : Int} (h1 : 7 ≤ f) (h2 : f ≤ 31) : own_val f t = (-6432 + (f - 7) * 256 + t / 281474976710656) := by
  unfold own_val
  rw [if_neg (by omega), if_neg (by omega), if_neg (by omega), if_neg (by omega), if_neg (by omega), if_neg (by omega), if_pos ⟨h1, h2⟩]
theorem own_val_7 {f t : Int} (h1 : 32 ≤ f) (h2 : f ≤ 223) : own_val f t = (-32 + (f - 32) * 1 + t / 72057594037927936) := by
  unfold own_val
  rw [if_neg (by omega), if_neg (by omega), if_neg (by omega), if_neg (by omega), if_neg (by omega), if_neg (by omega), if_neg (by omega), if_pos ⟨h1, h2⟩]
theorem own_val_8 {f t : Int} (h1 : 224 ≤ f) (h2 : f ≤ 248) : own_val f t = (160 + (f - 224) * 256 + t / 281474976710656) := by
  unfold own_val
  rw [if_neg (by omega), if_neg (by omega), if_neg (by omega), if_neg (by omega), if_neg (by omega), if_neg (by omega), if_neg (by omega), if_neg (by omega), if_pos ⟨h1, h2⟩]
theorem own_val_9 {f t : Int} (h1 : 249 ≤ f) (h2 : f ≤ 249) : own_val f t = (6560 + (f - 249) * 65536 + t / 1099511627776) := by
  unfold own_val
  rw [if_neg (by omega), if_neg (by omega), if_neg (by omega), if_neg (by omega), if_neg (by omega), if_neg (by omega), if_neg (by omega), if_neg (by omega), if_neg (by omega), if_pos ⟨h1, h2⟩]
theorem own_val_10 {f t : Int} (h1 : 250 ≤ f) (h2 : f ≤ 250) : own_val f t = (72096 + (f - 250) * 16777216 + t / 4294967296) := by
  unfold own_val
  rw [if_neg (by omega), if_neg (by omega), if_neg (by omega), if_neg (by omega), if_neg (by omega), if_neg (by omega), if_neg (by omega), if_neg (by omega), if_neg (by omega), if_neg (by omega), if_pos ⟨h1, h2⟩]
theorem own_val_11 {f t : Int} (h1 : 251 ≤ f) (h2 : f ≤ 251) : own_val f t = (16849312 + (f - 251) * 4294967296 + t / 16777216) := by
  unfold own_val
  rw [if_neg (by omega), if_neg (by omega), if_neg (by omega), if_neg (by omega), if_neg (by omega), if_neg (by omega), if_neg (by omega), if_neg (by omega), if_neg (by omega), if_neg (by omega), if_neg (by omega), if_pos ⟨h1, h2⟩]
theorem own_val_12 {f t : Int} (h1 : 252 ≤ f) (h2 : f ≤ 252) : own_val f t = (4311816608 + (f - 252) * 1099511627776 + t / 65536) := by
  unfold own_val
  rw [if_neg (by omega), if_neg (by omega), if_neg (by omega), if_neg (by omega), if_neg (by omega), if_neg (by omega), if_neg (by omega), if_neg (by omega), if_neg (by omega), if_neg (by omega), if_neg (by omega), if_neg (by omega), if_pos ⟨h1, h2⟩]
theorem own_val_13 {f t : Int} (h1 : 253 ≤ f) (h2 : f ≤ 253) : own_val f t = (1103823444384 + (f - 253) * 281474976710656 + t / 256) := by
  unfold own_val
  rw [if_neg (by omega), if_neg (by omega), if_neg (by omega), if_neg (by omega), if_neg (by omega), if_neg (by omega), if_neg (by omega), if_neg (by omega), if_neg (by omega), if_neg (by omega), if_neg (by omega), if_neg (by omega), if_neg (by omega), if_pos ⟨h1, h2⟩]
theorem own_val_14 {f t : Int} (h1 : 254 ≤ f) (h2 : f ≤ 254) : own_val f t = (282578800155040 + (f - 254) * 72057594037927936 + t / 1) := by
  unfold own_val
  rw [if_neg (by omega), if_neg (by omega), if_neg (by omega), if_neg (by omega), if_neg (by omega), if_neg (by omega), if_neg (by omega), if_neg (by omega), if_neg (by omega), if_neg (by omega), if_neg (by omega), if_neg (by omega), if_neg (by omega), if_neg (by omega), if_pos ⟨h1, h2⟩]
theorem own_step {x : Int64} {y : Int32} {X : Int} (hx : x.toInt = X) (h0 : 0 ≤ X) (h1 : X < 36028797018963968) : ((x <<< ((8 : Int32) &&& 0x3f).toInt64) ||| ((y &&& (255 : Int32)).toInt64)).toInt = X * 256 + y.toInt % 256 := by
  have a1 := c_lshl x (8 : Int32) 8 (by decide)
  have a2 := (x <<< ((8 : Int32) &&& 0x3f).toInt64).toInt_lt
  have a3 := (x <<< ((8 : Int32) &&& 0x3f).toInt64).le_toInt
  have m1 : (y &&& (255 : Int32)).toInt = y.toInt % 2 ^ 8 := Jvm.Kit.i32_mask y 255 (k := 8) (by decide) (by decide)
  have m2 : ((y &&& (255 : Int32)).toInt64).toInt = (y &&& (255 : Int32)).toInt := Int32.toInt_toInt64 _
  generalize (x <<< ((8 : Int32) &&& 0x3f).toInt64) = s at *
  generalize ((y &&& (255 : Int32)).toInt64) = b at *
  have e1 : s.toInt = X * 256 := by omega
  have o1 := c_orL s b 8 (by decide) 256 (by decide) (by omega) (by omega) (by omega)
  have o2 := (s ||| b).toInt_lt
  have o3 := (s ||| b).le_toInt
  omega
theorem own_follow {q : Int64} (e : Int32) (k : Nat) (hk : (((8 : Int32) * ((7 : Int32) - e))).toBitVec.toNat % 64 = k) (h0 : 0 ≤ q.toInt) : ((q.toUInt64 >>> (((8 : Int32) * ((7 : Int32) - e)) &&& 0x3f).toInt64.toUInt64).toInt64).toInt = q.toInt / (2 ^ k : Nat) := by
  by_cases z : 0 < k
  · have := c_lushr q ((8 : Int32) * ((7 : Int32) - e)) k hk z
    have b := q.toInt_lt
    rw [this]; congr 1; omega
  · have k0 : k = 0 := by omega
    subst k0
    have h1 := (sm64 ((8 : Int32) * ((7 : Int32) - e)) 0 hk).1
    have h2 : (((8 : Int32) * ((7 : Int32) - e)) &&& 0x3f).toInt64 = 0 := Int64.toBitVec_inj.mp h1
    rw [h2]
    show ((q.toUInt64 >>> (0 : UInt64)).toInt64).toInt = _
    simp
theorem d2_0 : decode method_3_code 0 = .ok (.lload_n 0, 1) := by decide +kernel
theorem d2_1 : decode method_3_code 1 = .ok (.bipush 8, 2) := by decide +kernel
theorem d2_3 : decode method_3_code 3 = .ok (.bipush 7, 2) := by decide +kernel
theorem d2_5 : decode method_3_code 5 = .ok (.iload_n 2, 1) := by decide +kernel
theorem d2_6 : decode method_3_code 6 = .ok (.isub, 1) := by decide +kernel
theorem d2_7 : decode method_3_code 7 = .ok (.imul, 1) := by decide +kernel
theorem d2_8 : decode method_3_code 8 = .ok (.lushr, 1) := by decide +kernel
theorem d2_9 : decode method_3_code 9 = .ok (.lreturn, 1) := by decide +kernel
theorem ef_2_0 (m : MethodId) (x0 : Int64) (x1 : Int32) : entryFrame m #[(.long x0), (.int x1)] 3 = mkF m 0 #[.val (.long x0), .second, .val (.int x1)] [] := by first | (simp [entryFrame, mkF, argsToLocals, Value.category]; done) | rfl
theorem pn_0 : plainName "com/example/rattan/rattan/storage/label/ComponentCodeDecodePinLaw" = true := by first | (simp [plainName, overriddenIn]; done) | decide +kernel
set_option maxRecDepth 65536 in
set_option maxHeartbeats 40000000 in
theorem r_fol (l : Launch) (Z : State) (a0 : Array Value) (hw : ∀ d ∈ tables_1, d.before a0 Z = true) (ws : List Jvm.Cond) (s_R s_F s_E s_L : Addr) (cl_R cl_F cl_E : Cell) (k_L : ClassId) (h0 : Heap) (n0 : Nat) (O0 : Old Z n0 h0) (G : own_Ctx Z Z.heap s_R s_F s_E s_L cl_R cl_F cl_E k_L) (q : Int64) (e1 : Int32)  :
    MetFree l (⟨"com/example/rattan/rattan/storage/label/ComponentCodeDecodePinLaw", "follow", "(JI)J"⟩ : MethodName) (head1 (Jvm.Cond.code (⟨"com/example/rattan/rattan/storage/label/ComponentCodeDecodePinLaw", "follow", "(JI)J"⟩ : MethodName) method_3_code 3 (some .long) :: ws) ({ frames := 0, cells := 0, slots := 0, locals := 0 } : Room)) (fun a U => a = #[(.long q), (.int e1)] ∧ Z.Warmed39 U.vm ∧ U.heap = h0) (fun _ _ _ _ _ => True) (fun _ U o U' => ∃ v L, o = .returned v ∧ own_Q (some (.long ((q.toUInt64 >>> (((8 : Int32) * ((7 : Int32) - e1)) &&& 0x3f).toInt64.toUInt64).toInt64))) h0 n0 v U'.heap L ∧ FrameEnd U o U' L ({ frames := 0, cells := 0, slots := 0, locals := 0 } : Room).cells ({ frames := 0, cells := 0, slots := 0, locals := 0 } : Room).slots) := by
  have G0 := G
  obtain ⟨S_R, C_R, S_F, C_F, S_E, C_E, S_L, V_L, R_1, R_2, R_3, R_4, R_5, F_0, F_1, F_2, F_3, F_4, F_5, F_6, F_7, F_8, F_9, F_10, F_11, F_12, F_13, F_14, E_0, E_1, E_2, E_3, E_4, E_5, E_6, E_7, E_8, E_9, E_10, E_11, E_12, E_13, E_14⟩ := G
  refine MetFree.of_bodySF (plainFor_of_name pn_0) hisR ?_
  intro p e s m args below meth c s₁ Bd hml0 hP hK
  obtain ⟨rfl, hZ, hh⟩ := hP
  have hx := Bd.exec
  have hby := Bd.bytes
  have hml : c.maxLocals = 3 := hml0
  have hown : s.vm.findClass "com/example/rattan/rattan/storage/label/ComponentCodeDecodePinLaw" = some m.cls := findClass_of_methodNamed Bd.named
  have hnm := (name_of_methodNamed Bd.named Bd.method).1
  have X0 : Stand p l e ({ frames := 0, cells := 0, slots := 0, locals := 0 } : Room) s m #[(.long q), (.int e1)] below meth c s₁ [] 0 0 := Stand.of_body Bd
  have e0 : s₁.heap = h0 := by rw [← hh, Bd.state]; rfl
  have N0 := Fr.nil n0
  have pre0 : ∀ t, Steps p.tables e below (s₁.setTop (mkF m 0 #[.val (.long q), .second, .val (.int e1)] [])) t → Steps p.tables e below (s₁.setTop (entryFrame m #[(.long q), (.int e1)] 3)) t := fun t k => castTop (ef_2_0 m q e1) k
  obtain ⟨fs, hr, hrun, hended, hW, hsame⟩ := X0.leave (v := some (.long ((q.toUInt64 >>> (((8 : Int32) * ((7 : Int32) - e1)) &&& 0x3f).toInt64.toUInt64).toInt64))) (fun h => by rw [Bd.returns] at h; cases h)
  refine ⟨_, _, pre0 _ ?_, hrun, hended, _, _, rfl, ?_, ⟨_, rfl⟩, hW, hsame.mono (by decide) (by decide)⟩
  · show Steps p.tables e below (s₁.setTop (mkF m 0 #[.val (.long q), .second, .val (.int e1)] [])) _
    refine XS.lloadN X0.here hx rfl (hb hby d2_0) rfl ?_
    refine XS.bipush X0.here hx rfl (hb hby d2_1) ?_
    refine XS.bipush X0.here hx rfl (hb hby d2_3) ?_
    refine XS.iloadN X0.here hx rfl (hb hby d2_5) rfl ?_
    refine XS.isub X0.here hx rfl (hb hby d2_6) rfl ?_
    show Steps p.tables e below (s₁.setTop (mkF m 7 #[.val (.long q), .second, .val (.int e1)] [(.int ((7 : Int32) - e1)), (.int (8 : Int32)), (.long q)])) _
    refine XS.imul X0.here hx rfl (hb hby d2_7) rfl ?_
    show Steps p.tables e below (s₁.setTop (mkF m 8 #[.val (.long q), .second, .val (.int e1)] [(.int ((8 : Int32) * ((7 : Int32) - e1))), (.long q)])) _
    refine XS.lushr X0.here hx rfl (hb hby d2_8) rfl ?_
    show Steps p.tables e below (s₁.setTop (mkF m 9 #[.val (.long q), .second, .val (.int e1)] [(.long ((q.toUInt64 >>> (((8 : Int32) * ((7 : Int32) - e1)) &&& 0x3f).toInt64.toUInt64).toInt64))])) _
    exact retOut X0 hx Bd.returns rfl (Or.inr (Or.inl ⟨rfl, rfl, _, rfl⟩)) (hb hby d2_9) hr
  · show own_Q (some (.long ((q.toUInt64 >>> (((8 : Int32) * ((7 : Int32) - e1)) &&& 0x3f).toInt64.toUInt64).toInt64))) h0 n0 _ s₁.heap _
    rw [e0]
    exact ⟨rfl, N0, rfl⟩
def own_Ql (X : Int) (h0 : Heap) (n0 : Nat) (v : Option Value) (h : Heap) (L : List Loc) : Prop := ∃ w : Int64, v = some (.long w) ∧ Fr n0 L ∧ h = h0 ∧ w.toInt = X
theorem d1_0 : decode method_4_code 0 = .ok (.iload_n 0, 1) := by decide +kernel
theorem d1_1 : decode method_4_code 1 = .ok (.bipush 32, 2) := by decide +kernel
theorem d1_3 : decode method_4_code 3 = .ok (.if_icmp .lt 17, 3) := by decide +kernel
theorem d1_20 : decode method_4_code 20 = .ok (.lload_n 1, 1) := by decide +kernel
theorem d1_21 : decode method_4_code 21 = .ok (.iconst 1, 1) := by decide +kernel
theorem d1_22 : decode method_4_code 22 = .ok (.invokestatic 24, 3) := by decide +kernel
theorem pd_0 : parseMethodDescriptor "(JI)J" = some ⟨[.long, .int], some .long⟩ := by decide +kernel
theorem d1_25 : decode method_4_code 25 = .ok (.lstore_n 3, 1) := by decide +kernel
theorem d1_26 : decode method_4_code 26 = .ok (.iload_n 0, 1) := by decide +kernel
theorem d1_27 : decode method_4_code 27 = .ok (.bipush 7, 2) := by decide +kernel
theorem d1_29 : decode method_4_code 29 = .ok (.if_icmp .lt 25, 3) := by decide +kernel
theorem d1_54 : decode method_4_code 54 = .ok (.iload_n 0, 1) := by decide +kernel
theorem d1_55 : decode method_4_code 55 = .ok (.sipush 224, 3) := by decide +kernel
theorem d1_58 : decode method_4_code 58 = .ok (.if_icmp .lt 27, 3) := by decide +kernel
theorem d1_85 : decode method_4_code 85 = .ok (.iload_n 0, 1) := by decide +kernel
theorem d1_86 : decode method_4_code 86 = .ok (.iconst 1, 1) := by decide +kernel
theorem d1_87 : decode method_4_code 87 = .ok (.if_icmp .ne 14, 3) := by decide +kernel
theorem d1_90 : decode method_4_code 90 = .ok (.ldc2_w 34, 3) := by decide +kernel
theorem d1_93 : decode method_4_code 93 = .ok (.lload_n 1, 1) := by decide +kernel
theorem d1_94 : decode method_4_code 94 = .ok (.bipush 7, 2) := by decide +kernel
theorem d1_96 : decode method_4_code 96 = .ok (.invokestatic 24, 3) := by decide +kernel
theorem d1_99 : decode method_4_code 99 = .ok (.ladd, 1) := by decide +kernel
theorem d1_100 : decode method_4_code 100 = .ok (.lreturn, 1) := by decide +kernel
theorem ef_1_1 (m : MethodId) (x0 : Int32) (x1 : Int64) : entryFrame m #[(.int x0), (.long x1)] 5 = mkF m 0 #[.val (.int x0), .val (.long x1), .second, .unset, .unset] [] := by first | (simp [entryFrame, mkF, argsToLocals, Value.category]; done) | rfl
theorem own_e_0 {q : Int64} (hq0 : 0 ≤ q.toInt) (hq1 : q.toInt < 72057594037927936) : (((-72340172838082848 : Int64) + ((q.toUInt64 >>> (((8 : Int32) * ((7 : Int32) - (7 : Int32))) &&& 0x3f).toInt64.toUInt64).toInt64))).toInt = own_val 1 q.toInt := by
  rw [own_val_0 (by decide) (by decide)]
  have v := own_follow (q := q) (7 : Int32) 0 (by decide) hq0
  generalize ((q.toUInt64 >>> (((8 : Int32) * ((7 : Int32) - (7 : Int32))) &&& 0x3f).toInt64.toUInt64).toInt64) = u at *
  have v1 : u.toInt = q.toInt / 1 := v
  have c0 : ((-72340172838082848 : Int64)).toInt = -72340172838082848 := rfl
  rw [Jvm.Kit.i64_add (by omega) (by omega), c0, v1]
  omega
set_option maxRecDepth 65536 in
set_option maxHeartbeats 40000000 in
theorem r_exp_0 (l : Launch) (Z : State) (a0 : Array Value) (hw : ∀ d ∈ tables_1, d.before a0 Z = true) (ws : List Jvm.Cond) (s_R s_F s_E s_L : Addr) (cl_R cl_F cl_E : Cell) (k_L : ClassId) (h0 : Heap) (n0 : Nat) (O0 : Old Z n0 h0) (G : own_Ctx Z Z.heap s_R s_F s_E s_L cl_R cl_F cl_E k_L) (q : Int64)  (hq0 : 0 ≤ q.toInt) (hq1 : q.toInt < 72057594037927936) :
    MetFree l (⟨"com/example/rattan/rattan/storage/label/ComponentCodeDecodePinLaw", "expected", "(IJ)J"⟩ : MethodName) (head1 (Jvm.Cond.code (⟨"com/example/rattan/rattan/storage/label/ComponentCodeDecodePinLaw", "expected", "(IJ)J"⟩ : MethodName) method_4_code 5 (some .long) :: ws) ({ frames := 1, cells := 0, slots := 0, locals := 64 } : Room)) (fun a U => a = #[(.int (1 : Int32)), (.long q)] ∧ Z.Warmed39 U.vm ∧ U.heap = h0) (fun _ _ _ _ _ => True) (fun _ U o U' => ∃ v L, o = .returned v ∧ own_Ql (own_val 1 q.toInt) h0 n0 v U'.heap L ∧ FrameEnd U o U' L ({ frames := 1, cells := 0, slots := 0, locals := 64 } : Room).cells ({ frames := 1, cells := 0, slots := 0, locals := 64 } : Room).slots) := by
  have G0 := G
  obtain ⟨S_R, C_R, S_F, C_F, S_E, C_E, S_L, V_L, R_1, R_2, R_3, R_4, R_5, F_0, F_1, F_2, F_3, F_4, F_5, F_6, F_7, F_8, F_9, F_10, F_11, F_12, F_13, F_14, E_0, E_1, E_2, E_3, E_4, E_5, E_6, E_7, E_8, E_9, E_10, E_11, E_12, E_13, E_14⟩ := G
  refine MetFree.of_bodySF (plainFor_of_name pn_0) hisR ?_
  intro p e s m args below meth c s₁ Bd hml0 hP hK
  obtain ⟨rfl, hZ, hh⟩ := hP
  have hx := Bd.exec
  have hby := Bd.bytes
  have hml : c.maxLocals = 5 := hml0
  have hown : s.vm.findClass "com/example/rattan/rattan/storage/label/ComponentCodeDecodePinLaw" = some m.cls := findClass_of_methodNamed Bd.named
  have hnm := (name_of_methodNamed Bd.named Bd.method).1
  have X0 : Stand p l e ({ frames := 1, cells := 0, slots := 0, locals := 64 } : Room) s m #[(.int (1 : Int32)), (.long q)] below meth c s₁ [] 0 0 := Stand.of_body Bd
  have e0 : s₁.heap = h0 := by rw [← hh, Bd.state]; rfl
  have N0 := Fr.nil n0
  have pre0 : ∀ t, Steps p.tables e below (s₁.setTop (mkF m 0 #[.val (.int (1 : Int32)), .val (.long q), .second, .unset, .unset] [])) t → Steps p.tables e below (s₁.setTop (entryFrame m #[(.int (1 : Int32)), (.long q)] 5)) t := fun t k => castTop (ef_1_1 m (1 : Int32) q) k
  obtain ⟨_, _, ⟨T1, L1, k1, n1⟩, -, X1, ⟨Lc1, hQ1, l1, y1, z1⟩, st1⟩ := Jvm.LawKit.callS X0 hx (y := (⟨"com/example/rattan/rattan/storage/label/ComponentCodeDecodePinLaw", "follow", "(JI)J"⟩ : MethodName)) hown (mvT hZ (hw _ (List.mem_of_getElem? (i := 7) rfl))) (mvT hZ (hw _ (List.mem_of_getElem? (i := 8) rfl))) (mvT hZ (hw _ (List.mem_of_getElem? (i := 5) rfl))) (mvT hZ (hw _ (List.mem_of_getElem? (i := 9) rfl))) (by decide) (backOf (W := 0) (r_fol l Z a0 hw [] s_R s_F s_E s_L cl_R cl_F cl_E k_L h0 n0 O0 G0 q (1 : Int32)) hZ (hw _ (List.mem_of_getElem? (i := 9) rfl)) (hw _ (List.mem_of_getElem? (i := 5) rfl)) (by decide) (by decide)) (g := (mkF m 22 #[.val (.int (1 : Int32)), .val (.long q), .second, .unset, .unset] [(.int (1 : Int32)), (.long q)])) rfl (by rw [hml]; rfl) (argsL := [(.long q), (.int (1 : Int32))]) (rest := []) (lenOf pd_0 rfl) rfl (by show 2 * 0 + _ ≤ _; exact Nat.le_of_eq rfl) (hb hby d1_22) (fun _ _ => ⟨rfl, e0, (by decide : 0 + 0 ≤ _), (by decide : 0 + 0 ≤ _)⟩)
  dsimp only [Pt.U, Pt.locs, Pt.cells, Pt.slots] at X1 l1 y1 z1 st1 hQ1
  subst l1 y1 z1
  obtain ⟨rfl, N1q, e1⟩ := hQ1
  have N1 := Fr.app N0 N1q
  obtain ⟨u1, hu1⟩ : ∃ z : Int64, z = ((q.toUInt64 >>> (((8 : Int32) * ((7 : Int32) - (1 : Int32))) &&& 0x3f).toInt64.toUInt64).toInt64) := ⟨_, rfl⟩
  obtain ⟨_, _, ⟨T2, L2, k2, n2⟩, -, X2, ⟨Lc2, hQ2, l2, y2, z2⟩, st2⟩ := Jvm.LawKit.callS X1 hx (y := (⟨"com/example/rattan/rattan/storage/label/ComponentCodeDecodePinLaw", "follow", "(JI)J"⟩ : MethodName)) hown (mvT hZ (hw _ (List.mem_of_getElem? (i := 7) rfl))) (mvT hZ (hw _ (List.mem_of_getElem? (i := 8) rfl))) (mvT hZ (hw _ (List.mem_of_getElem? (i := 5) rfl))) (mvT hZ (hw _ (List.mem_of_getElem? (i := 9) rfl))) (by decide) (backOf (W := 2) (r_fol l Z a0 hw [] s_R s_F s_E s_L cl_R cl_F cl_E k_L h0 n0 O0 G0 q (7 : Int32)) hZ (hw _ (List.mem_of_getElem? (i := 9) rfl)) (hw _ (List.mem_of_getElem? (i := 5) rfl)) (by decide) (by decide)) (g := (mkF m 96 #[.val (.int (1 : Int32)), .val (.long q), .second, .val (.long u1), .second] [(.int (7 : Int32)), (.long q), (.long (-72340172838082848 : Int64))])) rfl (by rw [hml]; rfl) (argsL := [(.long q), (.int (7 : Int32))]) (rest := [(.long (-72340172838082848 : Int64))]) (lenOf pd_0 rfl) rfl (by show 2 * 0 + _ ≤ _; exact Nat.le_of_eq rfl) (hb hby d1_96) (fun _ _ => ⟨rfl, e1, (by decide : 0 + 0 ≤ _), (by decide : 0 + 0 ≤ _)⟩)
  dsimp only [Pt.U, Pt.locs, Pt.cells, Pt.slots] at X2 l2 y2 z2 st2 hQ2
  subst l2 y2 z2
  obtain ⟨rfl, N2q, e2⟩ := hQ2
  have N2 := Fr.app N1 N2q
  obtain ⟨fs, hr, hrun, hended, hW, hsame⟩ := X2.leave (v := some (.long ((-72340172838082848 : Int64) + ((q.toUInt64 >>> (((8 : Int32) * ((7 : Int32) - (7 : Int32))) &&& 0x3f).toInt64.toUInt64).toInt64)))) (fun h => by rw [Bd.returns] at h; cases h)
  refine ⟨_, _, pre0 _ ?_, hrun, hended, _, _, rfl, ?_, ⟨_, rfl⟩, hW, hsame.mono (by decide) (by decide)⟩
  · show Steps p.tables e below (s₁.setTop (mkF m 0 #[.val (.int (1 : Int32)), .val (.long q), .second, .unset, .unset] [])) _
    refine XS.iloadN X0.here hx rfl (hb hby d1_0) rfl ?_
    refine XS.bipush X0.here hx rfl (hb hby d1_1) ?_
    refine XS.icmpYes X0.here hx rfl (pc0 := 3) (pc' := 20) rfl (hb hby d1_3) rfl (tlt (by decide : (1 : Int32) < (32 : Int32))).1 (by decide) (by decide) ?_
    show Steps p.tables e below (s₁.setTop (mkF m 20 #[.val (.int (1 : Int32)), .val (.long q), .second, .unset, .unset] [])) _
    refine XS.lloadN X0.here hx rfl (hb hby d1_20) rfl ?_
    refine XS.iconst X0.here hx rfl (hb hby d1_21) ?_
    show Steps p.tables e below (s₁.setTop (mkF m 22 #[.val (.int (1 : Int32)), .val (.long q), .second, .unset, .unset] [(.int (1 : Int32)), (.long q)])) _
    refine st1 _ ?_
    show Steps p.tables e below (T1.setTop (mkF m 25 #[.val (.int (1 : Int32)), .val (.long q), .second, .unset, .unset] [(.long ((q.toUInt64 >>> (((8 : Int32) * ((7 : Int32) - (1 : Int32))) &&& 0x3f).toInt64.toUInt64).toInt64))])) _
    rw [← hu1]
    show Steps p.tables e below (T1.setTop (mkF m 25 #[.val (.int (1 : Int32)), .val (.long q), .second, .unset, .unset] [(.long u1)])) _
    refine XS.lstoreN X1.here hx rfl (hb hby d1_25) rfl (l' := #[.val (.int (1 : Int32)), .val (.long q), .second, .val (.long u1), .second]) rfl ?_
    show Steps p.tables e below (T1.setTop (mkF m 26 #[.val (.int (1 : Int32)), .val (.long q), .second, .val (.long u1), .second] [])) _
    refine XS.iloadN X1.here hx rfl (hb hby d1_26) rfl ?_
    refine XS.bipush X1.here hx rfl (hb hby d1_27) ?_
    refine XS.icmpYes X1.here hx rfl (pc0 := 29) (pc' := 54) rfl (hb hby d1_29) rfl (tlt (by decide : (1 : Int32) < (7 : Int32))).1 (by decide) (by decide) ?_
    show Steps p.tables e below (T1.setTop (mkF m 54 #[.val (.int (1 : Int32)), .val (.long q), .second, .val (.long u1), .second] [])) _
    refine XS.iloadN X1.here hx rfl (hb hby d1_54) rfl ?_
    refine XS.sipush X1.here hx rfl (hb hby d1_55) ?_
    refine XS.icmpYes X1.here hx rfl (pc0 := 58) (pc' := 85) rfl (hb hby d1_58) rfl (tlt (by decide : (1 : Int32) < (224 : Int32))).1 (by decide) (by decide) ?_
    show Steps p.tables e below (T1.setTop (mkF m 85 #[.val (.int (1 : Int32)), .val (.long q), .second, .val (.long u1), .second] [])) _
    refine XS.iloadN X1.here hx rfl (hb hby d1_85) rfl ?_
    refine XS.iconst X1.here hx rfl (hb hby d1_86) ?_
    refine XS.icmpNo X1.here hx rfl (hb hby d1_87) rfl (teq (by decide : (1 : Int32) = (1 : Int32))).2 ?_
    show Steps p.tables e below (T1.setTop (mkF m 90 #[.val (.int (1 : Int32)), .val (.long q), .second, .val (.long u1), .second] [])) _
    refine X1.ldc2Long hx hown (mvT hZ (hw _ (List.mem_of_getElem? (i := 10) rfl))) (g := (mkF m 90 #[.val (.int (1 : Int32)), .val (.long q), .second, .val (.long u1), .second] [])) rfl (hb hby d1_90) _ ?_
    show Steps p.tables e below (T1.setTop (mkF m 93 #[.val (.int (1 : Int32)), .val (.long q), .second, .val (.long u1), .second] [(.long (-72340172838082848 : Int64))])) _
    refine XS.lloadN X1.here hx rfl (hb hby d1_93) rfl ?_
    refine XS.bipush X1.here hx rfl (hb hby d1_94) ?_
    show Steps p.tables e below (T1.setTop (mkF m 96 #[.val (.int (1 : Int32)), .val (.long q), .second, .val (.long u1), .second] [(.int (7 : Int32)), (.long q), (.long (-72340172838082848 : Int64))])) _
    refine st2 _ ?_
    show Steps p.tables e below (T2.setTop (mkF m 99 #[.val (.int (1 : Int32)), .val (.long q), .second, .val (.long u1), .second] [(.long ((q.toUInt64 >>> (((8 : Int32) * ((7 : Int32) - (7 : Int32))) &&& 0x3f).toInt64.toUInt64).toInt64)), (.long (-72340172838082848 : Int64))])) _
    refine XS.ladd X2.here hx rfl (hb hby d1_99) rfl ?_
    show Steps p.tables e below (T2.setTop (mkF m 100 #[.val (.int (1 : Int32)), .val (.long q), .second, .val (.long u1), .second] [(.long ((-72340172838082848 : Int64) + ((q.toUInt64 >>> (((8 : Int32) * ((7 : Int32) - (7 : Int32))) &&& 0x3f).toInt64.toUInt64).toInt64)))])) _
    exact retOut X2 hx Bd.returns rfl (Or.inr (Or.inl ⟨rfl, rfl, _, rfl⟩)) (hb hby d1_100) hr
  · show own_Ql (own_val 1 q.toInt) h0 n0 _ T2.heap _
    rw [e2]
    exact ⟨((-72340172838082848 : Int64) + ((q.toUInt64 >>> (((8 : Int32) * ((7 : Int32) - (7 : Int32))) &&& 0x3f).toInt64.toUInt64).toInt64)), rfl, N2, rfl, own_e_0 hq0 hq1⟩
theorem d1_101 : decode method_4_code 101 = .ok (.iload_n 0, 1) := by decide +kernel
theorem d1_102 : decode method_4_code 102 = .ok (.iconst 2, 1) := by decide +kernel
theorem d1_103 : decode method_4_code 103 = .ok (.if_icmp .ne 14, 3) := by decide +kernel
theorem d1_106 : decode method_4_code 106 = .ok (.ldc2_w 36, 3) := by decide +kernel
theorem d1_109 : decode method_4_code 109 = .ok (.lload_n 1, 1) := by decide +kernel
theorem d1_110 : decode method_4_code 110 = .ok (.bipush 6, 2) := by decide +kernel
theorem d1_112 : decode method_4_code 112 = .ok (.invokestatic 24, 3) := by decide +kernel
theorem d1_115 : decode method_4_code 115 = .ok (.ladd, 1) := by decide +kernel
theorem d1_116 : decode method_4_code 116 = .ok (.lreturn, 1) := by decide +kernel
theorem own_e_1 {q : Int64} (hq0 : 0 ≤ q.toInt) (hq1 : q.toInt < 72057594037927936) : (((-282578800154912 : Int64) + ((q.toUInt64 >>> (((8 : Int32) * ((7 : Int32) - (6 : Int32))) &&& 0x3f).toInt64.toUInt64).toInt64))).toInt = own_val 2 q.toInt := by
  rw [own_val_1 (by decide) (by decide)]
  have v := own_follow (q := q) (6 : Int32) 8 (by decide) hq0
  generalize ((q.toUInt64 >>> (((8 : Int32) * ((7 : Int32) - (6 : Int32))) &&& 0x3f).toInt64.toUInt64).toInt64) = u at *
  have v1 : u.toInt = q.toInt / 256 := v
  have c0 : ((-282578800154912 : Int64)).toInt = -282578800154912 := rfl
  rw [Jvm.Kit.i64_add (by omega) (by omega), c0, v1]
  omega
set_option maxRecDepth 65536 in
set_option maxHeartbeats 40000000 in
theorem r_exp_1 (l : Launch) (Z : State) (a0 : Array Value) (hw : ∀ d ∈ tables_1, d.before a0 Z = true) (ws : List Jvm.Cond) (s_R s_F s_E s_L : Addr) (cl_R cl_F cl_E : Cell) (k_L : ClassId) (h0 : Heap) (n0 : Nat) (O0 : Old Z n0 h0) (G : own_Ctx Z Z.heap s_R s_F s_E s_L cl_R cl_F cl_E k_L) (q : Int64)  (hq0 : 0 ≤ q.toInt) (hq1 : q.toInt < 72057594037927936) :
    MetFree l (⟨"com/example/rattan/rattan/storage/label/ComponentCodeDecodePinLaw", "expected", "(IJ)J"⟩ : MethodName) (head1 (Jvm.Cond.code (⟨"com/example/rattan/rattan/storage/label/ComponentCodeDecodePinLaw", "expected", "(IJ)J"⟩ : MethodName) method_4_code 5 (some .long) :: ws) ({ frames := 1, cells := 0, slots := 0, locals := 64 } : Room)) (fun a U => a = #[(.int (2 : Int32)), (.long q)] ∧ Z.Warmed39 U.vm ∧ U.heap = h0) (fun _ _ _ _ _ => True) (fun _ U o U' => ∃ v L, o = .returned v ∧ own_Ql (own_val 2 q.toInt) h0 n0 v U'.heap L ∧ FrameEnd U o U' L ({ frames := 1, cells := 0, slots := 0, locals := 64 } : Room).cells ({ frames := 1, cells := 0, slots := 0, locals := 64 } : Room).slots) := by
  have G0 := G
  obtain ⟨S_R, C_R, S_F, C_F, S_E, C_E, S_L, V_L, R_1, R_2, R_3, R_4, R_5, F_0, F_1, F_2, F_3, F_4, F_5, F_6, F_7, F_8, F_9, F_10, F_11, F_12, F_13, F_14, E_0, E_1, E_2, E_3, E_4, E_5, E_6, E_7, E_8, E_9, E_10, E_11, E_12, E_13, E_14⟩ := G
  refine MetFree.of_bodySF (plainFor_of_name pn_0) hisR ?_
  intro p e s m args below meth c s₁ Bd hml0 hP hK
  obtain ⟨rfl, hZ, hh⟩ := hP
  have hx := Bd.exec
  have hby := Bd.bytes
  have hml : c.maxLocals = 5 := hml0
  have hown : s.vm.findClass "com/example/rattan/rattan/storage/label/ComponentCodeDecodePinLaw" = some m.cls := findClass_of_methodNamed Bd.named
  have hnm := (name_of_methodNamed Bd.named Bd.method).1
  have X0 : Stand p l e ({ frames := 1, cells := 0, slots := 0, locals := 64 } : Room) s m #[(.int (2 : Int32)), (.long q)] below meth c s₁ [] 0 0 := Stand.of_body Bd
  have e0 : s₁.heap = h0 := by rw [← hh, Bd.state]; rfl
  have N0 := Fr.nil n0
  have pre0 : ∀ t, Steps p.tables e below (s₁.setTop (mkF m 0 #[.val (.int (2 : Int32)), .val (.long q), .second, .unset, .unset] [])) t → Steps p.tables e below (s₁.setTop (entryFrame m #[(.int (2 : Int32)), (.long q)] 5)) t := fun t k => castTop (ef_1_1 m (2 : Int32) q) k
  obtain ⟨_, _, ⟨T1, L1, k1, n1⟩, -, X1, ⟨Lc1, hQ1, l1, y1, z1⟩, st1⟩ := Jvm.LawKit.callS X0 hx (y := (⟨"com/example/rattan/rattan/storage/label/ComponentCodeDecodePinLaw", "follow", "(JI)J"⟩ : MethodName)) hown (mvT hZ (hw _ (List.mem_of_getElem? (i := 7) rfl))) (mvT hZ (hw _ (List.mem_of_getElem? (i := 8) rfl))) (mvT hZ (hw _ (List.mem_of_getElem? (i := 5) rfl))) (mvT hZ (hw _ (List.mem_of_getElem? (i := 9) rfl))) (by decide) (backOf (W := 0) (r_fol l Z a0 hw [] s_R s_F s_E s_L cl_R cl_F cl_E k_L h0 n0 O0 G0 q (1 : Int32)) hZ (hw _ (List.mem_of_getElem? (i := 9) rfl)) (hw _ (List.mem_of_getElem? (i := 5) rfl)) (by decide) (by decide)) (g := (mkF m 22 #[.val (.int (2 : Int32)), .val (.long q), .second, .unset, .unset] [(.int (1 : Int32)), (.long q)])) rfl (by rw [hml]; rfl) (argsL := [(.long q), (.int (1 : Int32))]) (rest := []) (lenOf pd_0 rfl) rfl (by show 2 * 0 + _ ≤ _; exact Nat.le_of_eq rfl) (hb hby d1_22) (fun _ _ => ⟨rfl, e0, (by decide : 0 + 0 ≤ _), (by decide : 0 + 0 ≤ _)⟩)
  dsimp only [Pt.U, Pt.locs, Pt.cells, Pt.slots] at X1 l1 y1 z1 st1 hQ1
  subst l1 y1 z1
  obtain ⟨rfl, N1q, e1⟩ := hQ1
  have N1 := Fr.app N0 N1q
  obtain ⟨u1, hu1⟩ : ∃ z : Int64, z = ((q.toUInt64 >>> (((8 : Int32) * ((7 : Int32) - (1 : Int32))) &&& 0x3f).toInt64.toUInt64).toInt64) := ⟨_, rfl⟩
  obtain ⟨_, _, ⟨T2, L2, k2, n2⟩, -, X2, ⟨Lc2, hQ2, l2, y2, z2⟩, st2⟩ := Jvm.LawKit.callS X1 hx (y := (⟨"com/example/rattan/rattan/storage/label/ComponentCodeDecodePinLaw", "follow", "(JI)J"⟩ : MethodName)) hown (mvT hZ (hw _ (List.mem_of_getElem? (i := 7) rfl))) (mvT hZ (hw _ (List.mem_of_getElem? (i := 8) rfl))) (mvT hZ (hw _ (List.mem_of_getElem? (i := 5) rfl))) (mvT hZ (hw _ (List.mem_of_getElem? (i := 9) rfl))) (by decide) (backOf (W := 2) (r_fol l Z a0 hw [] s_R s_F s_E s_L cl_R cl_F cl_E k_L h0 n0 O0 G0 q (6 : Int32)) hZ (hw _ (List.mem_of_getElem? (i := 9) rfl)) (hw _ (List.mem_of_getElem? (i := 5) rfl)) (by decide) (by decide)) (g := (mkF m 112 #[.val (.int (2 : Int32)), .val (.long q), .second, .val (.long u1), .second] [(.int (6 : Int32)), (.long q), (.long (-282578800154912 : Int64))])) rfl (by rw [hml]; rfl) (argsL := [(.long q), (.int (6 : Int32))]) (rest := [(.long (-282578800154912 : Int64))]) (lenOf pd_0 rfl) rfl (by show 2 * 0 + _ ≤ _; exact Nat.le_of_eq rfl) (hb hby d1_112) (fun _ _ => ⟨rfl, e1, (by decide : 0 + 0 ≤ _), (by decide : 0 + 0 ≤ _)⟩)
  dsimp only [Pt.U, Pt.locs, Pt.cells, Pt.slots] at X2 l2 y2 z2 st2 hQ2
  subst l2 y2 z2
  obtain ⟨rfl, N2q, e2⟩ := hQ2
  have N2 := Fr.app N1 N2q
  obtain ⟨fs, hr, hrun, hended, hW, hsame⟩ := X2.leave (v := some (.long ((-282578800154912 : Int64) + ((q.toUInt64 >>> (((8 : Int32) * ((7 : Int32) - (6 : Int32))) &&& 0x3f).toInt64.toUInt64).toInt64)))) (fun h => by rw [Bd.returns] at h; cases h)
  refine ⟨_, _, pre0 _ ?_, hrun, hended, _, _, rfl, ?_, ⟨_, rfl⟩, hW, hsame.mono (by decide) (by decide)⟩
  · show Steps p.tables e below (s₁.setTop (mkF m 0 #[.val (.int (2 : Int32)), .val (.long q), .second, .unset, .unset] [])) _
    refine XS.iloadN X0.here hx rfl (hb hby d1_0) rfl ?_
    refine XS.bipush X0.here hx rfl (hb hby d1_1) ?_
    refine XS.icmpYes X0.here hx rfl (pc0 := 3) (pc' := 20) rfl (hb hby d1_3) rfl (tlt (by decide : (2 : Int32) < (32 : Int32))).1 (by decide) (by decide) ?_
    show Steps p.tables e below (s₁.setTop (mkF m 20 #[.val (.int (2 : Int32)), .val (.long q), .second, .unset, .unset] [])) _
    refine XS.lloadN X0.here hx rfl (hb hby d1_20) rfl ?_
    refine XS.iconst X0.here hx rfl (hb hby d1_21) ?_
    show Steps p.tables e below (s₁.setTop (mkF m 22 #[.val (.int (2 : Int32)), .val (.long q), .second, .unset, .unset] [(.int (1 : Int32)), (.long q)])) _
    refine st1 _ ?_
    show Steps p.tables e below (T1.setTop (mkF m 25 #[.val (.int (2 : Int32)), .val (.long q), .second, .unset, .unset] [(.long ((q.toUInt64 >>> (((8 : Int32) * ((7 : Int32) - (1 : Int32))) &&& 0x3f).toInt64.toUInt64).toInt64))])) _
    rw [← hu1]
    show Steps p.tables e below (T1.setTop (mkF m 25 #[.val (.int (2 : Int32)), .val (.long q), .second, .unset, .unset] [(.long u1)])) _
    refine XS.lstoreN X1.here hx rfl (hb hby d1_25) rfl (l' := #[.val (.int (2 : Int32)), .val (.long q), .second, .val (.long u1), .second]) rfl ?_
    show Steps p.tables e below (T1.setTop (mkF m 26 #[.val (.int (2 : Int32)), .val (.long q), .second, .val (.long u1), .second] [])) _
    refine XS.iloadN X1.here hx rfl (hb hby d1_26) rfl ?_
    refine XS.bipush X1.here hx rfl (hb hby d1_27) ?_
    refine XS.icmpYes X1.here hx rfl (pc0 := 29) (pc' := 54) rfl (hb hby d1_29) rfl (tlt (by decide : (2 : Int32) < (7 : Int32))).1 (by decide) (by decide) ?_
    show Steps p.tables e below (T1.setTop (mkF m 54 #[.val (.int (2 : Int32)), .val (.long q), .second, .val (.long u1), .second] [])) _
    refine XS.iloadN X1.here hx rfl (hb hby d1_54) rfl ?_
    refine XS.sipush X1.here hx rfl (hb hby d1_55) ?_
    refine XS.icmpYes X1.here hx rfl (pc0 := 58) (pc' := 85) rfl (hb hby d1_58) rfl (tlt (by decide : (2 : Int32) < (224 : Int32))).1 (by decide) (by decide) ?_
    show Steps p.tables e below (T1.setTop (mkF m 85 #[.val (.int (2 : Int32)), .val (.long q), .second, .val (.long u1), .second] [])) _
    refine XS.iloadN X1.here hx rfl (hb hby d1_85) rfl ?_
    refine XS.iconst X1.here hx rfl (hb hby d1_86) ?_
    refine XS.icmpYes X1.here hx rfl (pc0 := 87) (pc' := 101) rfl (hb hby d1_87) rfl (feq (by decide : ¬ ((2 : Int32) = (1 : Int32)))).2 (by decide) (by decide) ?_
    show Steps p.tables e below (T1.setTop (mkF m 101 #[.val (.int (2 : Int32)), .val (.long q), .second, .val (.long u1), .second] [])) _
    refine XS.iloadN X1.here hx rfl (hb hby d1_101) rfl ?_
    refine XS.iconst X1.here hx rfl (hb hby d1_102) ?_
    refine XS.icmpNo X1.here hx rfl (hb hby d1_103) rfl (teq (by decide : (2 : Int32) = (2 : Int32))).2 ?_
    show Steps p.tables e below (T1.setTop (mkF m 106 #[.val (.int (2 : Int32)), .val (.long q), .second, .val (.long u1), .second] [])) _
    refine X1.ldc2Long hx hown (mvT hZ (hw _ (List.mem_of_getElem? (i := 26) rfl))) (g := (mkF m 106 #[.val (.int (2 : Int32)), .val (.long q), .second, .val (.long u1), .second] [])) rfl (hb hby d1_106) _ ?_
    show Steps p.tables e below (T1.setTop (mkF m 109 #[.val (.int (2 : Int32)), .val (.long q), .second, .val (.long u1), .second] [(.long (-282578800154912 : Int64))])) _
    refine XS.lloadN X1.here hx rfl (hb hby d1_109) rfl ?_
    refine XS.bipush X1.here hx rfl (hb hby d1_110) ?_
    show Steps p.tables e below (T1.setTop (mkF m 112 #[.val (.int (2 : Int32)), .val (.long q), .second, .val (.long u1), .second] [(.int (6 : Int32)), (.long q), (.long (-282578800154912 : Int64))])) _
    refine st2 _ ?_
    show Steps p.tables e below (T2.setTop (mkF m 115 #[.val (.int (2 : Int32)), .val (.long q), .second, .val (.long u1), .second] [(.long ((q.toUInt64 >>> (((8 : Int32) * ((7 : Int32) - (6 : Int32))) &&& 0x3f).toInt64.toUInt64).toInt64)), (.long (-282578800154912 : Int64))])) _
    refine XS.ladd X2.here hx rfl (hb hby d1_115) rfl ?_
    show Steps p.tables e below (T2.setTop (mkF m 116 #[.val (.int (2 : Int32)), .val (.long q), .second, .val (.long u1), .second] [(.long ((-282578800154912 : Int64) + ((q.toUInt64 >>> (((8 : Int32) * ((7 : Int32) - (6 : Int32))) &&& 0x3f).toInt64.toUInt64).toInt64)))])) _
    exact retOut X2 hx Bd.returns rfl (Or.inr (Or.inl ⟨rfl, rfl, _, rfl⟩)) (hb hby d1_116) hr
  · show own_Ql (own_val 2 q.toInt) h0 n0 _ T2.heap _
    rw [e2]
    exact ⟨((-282578800154912 : Int64) + ((q.toUInt64 >>> (((8 : Int32) * ((7 : Int32) - (6 : Int32))) &&& 0x3f).toInt64.toUInt64).toInt64)), rfl, N2, rfl, own_e_1 hq0 hq1⟩
theorem d1_117 : decode method_4_code 117 = .ok (.iload_n 0, 1) := by decide +kernel
theorem d1_118 : decode method_4_code 118 = .ok (.iconst 3, 1) := by decide +kernel
theorem d1_119 : decode method_4_code 119 = .ok (.if_icmp .ne 13, 3) := by decide +kernel
theorem d1_122 : decode method_4_code 122 = .ok (.ldc2_w 38, 3) := by decide +kernel
theorem d1_125 : decode method_4_code 125 = .ok (.lload_n 1, 1) := by decide +kernel
theorem d1_126 : decode method_4_code 126 = .ok (.iconst 5, 1) := by decide +kernel
theorem d1_127 : decode method_4_code 127 = .ok (.invokestatic 24, 3) := by decide +kernel
theorem d1_130 : decode method_4_code 130 = .ok (.ladd, 1) := by decide +kernel
theorem d1_131 : decode method_4_code 131 = .ok (.lreturn, 1) := by decide +kernel
theorem own_e_2 {q : Int64} (hq0 : 0 ≤ q.toInt) (hq1 : q.toInt < 72057594037927936) : (((-1103823444256 : Int64) + ((q.toUInt64 >>> (((8 : Int32) * ((7 : Int32) - (5 : Int32))) &&& 0x3f).toInt64.toUInt64).toInt64))).toInt = own_val 3 q.toInt := by
  rw [own_val_2 (by decide) (by decide)]
  have v := own_follow (q := q) (5 : Int32) 16 (by decide) hq0
  generalize ((q.toUInt64 >>> (((8 : Int32) * ((7 : Int32) - (5 : Int32))) &&& 0x3f).toInt64.toUInt64).toInt64) = u at *
  have v1 : u.toInt = q.toInt / 65536 := v
  have c0 : ((-1103823444256 : Int64)).toInt = -1103823444256 := rfl
  rw [Jvm.Kit.i64_add (by omega) (by omega), c0, v1]
  omega
set_option maxRecDepth 65536 in
set_option maxHeartbeats 40000000 in
theorem r_exp_2 (l : Launch) (Z : State) (a0 : Array Value) (hw : ∀ d ∈ tables_1, d.before a0 Z = true) (ws : List Jvm.Cond) (s_R s_F s_E s_L : Addr) (cl_R cl_F cl_E : Cell) (k_L : ClassId) (h0 : Heap) (n0 : Nat) (O0 : Old Z n0 h0) (G : own_Ctx Z Z.heap s_R s_F s_E s_L cl_R cl_F cl_E k_L) (q : Int64)  (hq0 : 0 ≤ q.toInt) (hq1 : q.toInt < 72057594037927936) :
    MetFree l (⟨"com/example/rattan/rattan/storage/label/ComponentCodeDecodePinLaw", "expected", "(IJ)J"⟩ : MethodName) (head1 (Jvm.Cond.code (⟨"com/example/rattan/rattan/storage/label/ComponentCodeDecodePinLaw", "expected", "(IJ)J"⟩ : MethodName) method_4_code 5 (some .long) :: ws) ({ frames := 1, cells := 0, slots := 0, locals := 64 } : Room)) (fun a U => a = #[(.int (3 : Int32)), (.long q)] ∧ Z.Warmed39 U.vm ∧ U.heap = h0) (fun _ _ _ _ _ => True) (fun _ U o U' => ∃ v L, o = .returned v ∧ own_Ql (own_val 3 q.toInt) h0 n0 v U'.heap L ∧ FrameEnd U o U' L ({ frames := 1, cells := 0, slots := 0, locals := 64 } : Room).cells ({ frames := 1, cells := 0, slots := 0, locals := 64 } : Room).slots) := by
  have G0 := G
  obtain ⟨S_R, C_R, S_F, C_F, S_E, C_E, S_L, V_L, R_1, R_2, R_3, R_4, R_5, F_0, F_1, F_2, F_3, F_4, F_5, F_6, F_7, F_8, F_9, F_10, F_11, F_12, F_13, F_14, E_0, E_1, E_2, E_3, E_4, E_5, E_6, E_7, E_8, E_9, E_10, E_11, E_12, E_13, E_14⟩ := G
  refine MetFree.of_bodySF (plainFor_of_name pn_0) hisR ?_
  intro p e s m args below meth c s₁ Bd hml0 hP hK
  obtain ⟨rfl, hZ, hh⟩ := hP
  have hx := Bd.exec
  have hby := Bd.bytes
  have hml : c.maxLocals = 5 := hml0
  have hown : s.vm.findClass "com/example/rattan/rattan/storage/label/ComponentCodeDecodePinLaw" = some m.cls := findClass_of_methodNamed Bd.named
  have hnm := (name_of_methodNamed Bd.named Bd.method).1
  have X0 : Stand p l e ({ frames := 1, cells := 0, slots := 0, locals := 64 } : Room) s m #[(.int (3 : Int32)), (.long q)] below meth c s₁ [] 0 0 := Stand.of_body Bd
  have e0 : s₁.heap = h0 := by rw [← hh, Bd.state]; rfl
  have N0 := Fr.nil n0
  have pre0 : ∀ t, Steps p.tables e below (s₁.setTop (mkF m 0 #[.val (.int (3 : Int32)), .val (.long q), .second, .unset, .unset] [])) t → Steps p.tables e below (s₁.setTop (entryFrame m #[(.int (3 : Int32)), (.long q)] 5)) t := fun t k => castTop (ef_1_1 m (3 : Int32) q) k
  obtain ⟨_, _, ⟨T1, L1, k1, n1⟩, -, X1, ⟨Lc1, hQ1, l1, y1, z1⟩, st1⟩ := Jvm.LawKit.callS X0 hx (y := (⟨"com/example/rattan/rattan/storage/label/ComponentCodeDecodePinLaw", "follow", "(JI)J"⟩ : MethodName)) hown (mvT hZ (hw _ (List.mem_of_getElem? (i := 7) rfl))) (mvT hZ (hw _ (List.mem_of_getElem? (i := 8) rfl))) (mvT hZ (hw _ (List.mem_of_getElem? (i := 5) rfl))) (mvT hZ (hw _ (List.mem_of_getElem? (i := 9) rfl))) (by decide) (backOf (W := 0) (r_fol l Z a0 hw [] s_R s_F s_E s_L cl_R cl_F cl_E k_L h0 n0 O0 G0 q (1 : Int32)) hZ (hw _ (List.mem_of_getElem? (i := 9) rfl)) (hw _ (List.mem_of_getElem? (i := 5) rfl)) (by decide) (by decide)) (g := (mkF m 22 #[.val (.int (3 : Int32)), .val (.long q), .second, .unset, .unset] [(.int (1 : Int32)), (.long q)])) rfl (by rw [hml]; rfl) (argsL := [(.long q), (.int (1 : Int32))]) (rest := []) (lenOf pd_0 rfl) rfl (by show 2 * 0 + _ ≤ _; exact Nat.le_of_eq rfl) (hb hby d1_22) (fun _ _ => ⟨rfl, e0, (by decide : 0 + 0 ≤ _), (by decide : 0 + 0 ≤ _)⟩)
  dsimp only [Pt.U, Pt.locs, Pt.cells, Pt.slots] at X1 l1 y1 z1 st1 hQ1
  subst l1 y1 z1
  obtain ⟨rfl, N1q, e1⟩ := hQ1
  have N1 := Fr.app N0 N1q
  obtain ⟨u1, hu1⟩ : ∃ z : Int64, z = ((q.toUInt64 >>> (((8 : Int32) * ((7 : Int32) - (1 : Int32))) &&& 0x3f).toInt64.toUInt64).toInt64) := ⟨_, rfl⟩
  obtain ⟨_, _, ⟨T2, L2, k2, n2⟩, -, X2, ⟨Lc2, hQ2, l2, y2, z2⟩, st2⟩ := Jvm.LawKit.callS X1 hx (y := (⟨"com/example/rattan/rattan/storage/label/ComponentCodeDecodePinLaw", "follow", "(JI)J"⟩ : MethodName)) hown (mvT hZ (hw _ (List.mem_of_getElem? (i := 7) rfl))) (mvT hZ (hw _ (List.mem_of_getElem? (i := 8) rfl))) (mvT hZ (hw _ (List.mem_of_getElem? (i := 5) rfl))) (mvT hZ (hw _ (List.mem_of_getElem? (i := 9) rfl))) (by decide) (backOf (W := 2) (r_fol l Z a0 hw [] s_R s_F s_E s_L cl_R cl_F cl_E k_L h0 n0 O0 G0 q (5 : Int32)) hZ (hw _ (List.mem_of_getElem? (i := 9) rfl)) (hw _ (List.mem_of_getElem? (i := 5) rfl)) (by decide) (by decide)) (g := (mkF m 127 #[.val (.int (3 : Int32)), .val (.long q), .second, .val (.long u1), .second] [(.int (5 : Int32)), (.long q), (.long (-1103823444256 : Int64))])) rfl (by rw [hml]; rfl) (argsL := [(.long q), (.int (5 : Int32))]) (rest := [(.long (-1103823444256 : Int64))]) (lenOf pd_0 rfl) rfl (by show 2 * 0 + _ ≤ _; exact Nat.le_of_eq rfl) (hb hby d1_127) (fun _ _ => ⟨rfl, e1, (by decide : 0 + 0 ≤ _), (by decide : 0 + 0 ≤ _)⟩)
  dsimp only [Pt.U, Pt.locs, Pt.cells, Pt.slots] at X2 l2 y2 z2 st2 hQ2
  subst l2 y2 z2
  obtain ⟨rfl, N2q, e2⟩ := hQ2
  have N2 := Fr.app N1 N2q
  obtain ⟨fs, hr, hrun, hended, hW, hsame⟩ := X2.leave (v := some (.long ((-1103823444256 : Int64) + ((q.toUInt64 >>> (((8 : Int32) * ((7 : Int32) - (5 : Int32))) &&& 0x3f).toInt64.toUInt64).toInt64)))) (fun h => by rw [Bd.returns] at h; cases h)
  refine ⟨_, _, pre0 _ ?_, hrun, hended, _, _, rfl, ?_, ⟨_, rfl⟩, hW, hsame.mono (by decide) (by decide)⟩
  · show Steps p.tables e below (s₁.setTop (mkF m 0 #[.val (.int (3 : Int32)), .val (.long q), .second, .unset, .unset] [])) _
    refine XS.iloadN X0.here hx rfl (hb hby d1_0) rfl ?_
    refine XS.bipush X0.here hx rfl (hb hby d1_1) ?_
    refine XS.icmpYes X0.here hx rfl (pc0 := 3) (pc' := 20) rfl (hb hby d1_3) rfl (tlt (by decide : (3 : Int32) < (32 : Int32))).1 (by decide) (by decide) ?_
    show Steps p.tables e below (s₁.setTop (mkF m 20 #[.val (.int (3 : Int32)), .val (.long q), .second, .unset, .unset] [])) _
    refine XS.lloadN X0.here hx rfl (hb hby d1_20) rfl ?_
    refine XS.iconst X0.here hx rfl (hb hby d1_21) ?_
    show Steps p.tables e below (s₁.setTop (mkF m 22 #[.val (.int (3 : Int32)), .val (.long q), .second, .unset, .unset] [(.int (1 : Int32)), (.long q)])) _
    refine st1 _ ?_
    show Steps p.tables e below (T1.setTop (mkF m 25 #[.val (.int (3 : Int32)), .val (.long q), .second, .unset, .unset] [(.long ((q.toUInt64 >>> (((8 : Int32) * ((7 : Int32) - (1 : Int32))) &&& 0x3f).toInt64.toUInt64).toInt64))])) _
    rw [← hu1]
    show Steps p.tables e below (T1.setTop (mkF m 25 #[.val (.int (3 : Int32)), .val (.long q), .second, .unset, .unset] [(.long u1)])) _
    refine XS.lstoreN X1.here hx rfl (hb hby d1_25) rfl (l' := #[.val (.int (3 : Int32)), .val (.long q), .second, .val (.long u1), .second]) rfl ?_
    show Steps p.tables e below (T1.setTop (mkF m 26 #[.val (.int (3 : Int32)), .val (.long q), .second, .val (.long u1), .second] [])) _
    refine XS.iloadN X1.here hx rfl (hb hby d1_26) rfl ?_
    refine XS.bipush X1.here hx rfl (hb hby d1_27) ?_
    refine XS.icmpYes X1.here hx rfl (pc0 := 29) (pc' := 54) rfl (hb hby d1_29) rfl (tlt (by decide : (3 : Int32) < (7 : Int32))).1 (by decide) (by decide) ?_
    show Steps p.tables e below (T1.setTop (mkF m 54 #[.val (.int (3 : Int32)), .val (.long q), .second, .val (.long u1), .second] [])) _
    refine XS.iloadN X1.here hx rfl (hb hby d1_54) rfl ?_
    refine XS.sipush X1.here hx rfl (hb hby d1_55) ?_
    refine XS.icmpYes X1.here hx rfl (pc0 := 58) (pc' := 85) rfl (hb hby d1_58) rfl (tlt (by decide : (3 : Int32) < (224 : Int32))).1 (by decide) (by decide) ?_
    show Steps p.tables e below (T1.setTop (mkF m 85 #[.val (.int (3 : Int32)), .val (.long q), .second, .val (.long u1), .second] [])) _
    refine XS.iloadN X1.here hx rfl (hb hby d1_85) rfl ?_
    refine XS.iconst X1.here hx rfl (hb hby d1_86) ?_
    refine XS.icmpYes X1.here hx rfl (pc0 := 87) (pc' := 101) rfl (hb hby d1_87) rfl (feq (by decide : ¬ ((3 : Int32) = (1 : Int32)))).2 (by decide) (by decide) ?_
    show Steps p.tables e below (T1.setTop (mkF m 101 #[.val (.int (3 : Int32)), .val (.long q), .second, .val (.long u1), .second] [])) _
    refine XS.iloadN X1.here hx rfl (hb hby d1_101) rfl ?_
    refine XS.iconst X1.here hx rfl (hb hby d1_102) ?_
    refine XS.icmpYes X1.here hx rfl (pc0 := 103) (pc' := 117) rfl (hb hby d1_103) rfl (feq (by decide : ¬ ((3 : Int32) = (2 : Int32)))).2 (by decide) (by decide) ?_
    show Steps p.tables e below (T1.setTop (mkF m 117 #[.val (.int (3 : Int32)), .val (.long q), .second, .val (.long u1), .second] [])) _
    refine XS.iloadN X1.here hx rfl (hb hby d1_117) rfl ?_
    refine XS.iconst X1.here hx rfl (hb hby d1_118) ?_
    refine XS.icmpNo X1.here hx rfl (hb hby d1_119) rfl (teq (by decide : (3 : Int32) = (3 : Int32))).2 ?_
    show Steps p.tables e below (T1.setTop (mkF m 122 #[.val (.int (3 : Int32)), .val (.long q), .second, .val (.long u1), .second] [])) _
    refine X1.ldc2Long hx hown (mvT hZ (hw _ (List.mem_of_getElem? (i := 29) rfl))) (g := (mkF m 122 #[.val (.int (3 : Int32)), .val (.long q), .second, .val (.long u1), .second] [])) rfl (hb hby d1_122) _ ?_
    show Steps p.tables e below (T1.setTop (mkF m 125 #[.val (.int (3 : Int32)), .val (.long q), .second, .val (.long u1), .second] [(.long (-1103823444256 : Int64))])) _
    refine XS.lloadN X1.here hx rfl (hb hby d1_125) rfl ?_
    refine XS.iconst X1.here hx rfl (hb hby d1_126) ?_
    show Steps p.tables e below (T1.setTop (mkF m 127 #[.val (.int (3 : Int32)), .val (.long q), .second, .val (.long u1), .second] [(.int (5 : Int32)), (.long q), (.long (-1103823444256 : Int64))])) _
    refine st2 _ ?_
    show Steps p.tables e below (T2.setTop (mkF m 130 #[.val (.int (3 : Int32)), .val (.long q), .second, .val (.long u1), .second] [(.long ((q.toUInt64 >>> (((8 : Int32) * ((7 : Int32) - (5 : Int32))) &&& 0x3f).toInt64.toUInt64).toInt64)), (.long (-1103823444256 : Int64))])) _
    refine XS.ladd X2.here hx rfl (hb hby d1_130) rfl ?_
    show Steps p.tables e below (T2.setTop (mkF m 131 #[.val (.int (3 : Int32)), .val (.long q), .second, .val (.long u1), .second] [(.long ((-1103823444256 : Int64) + ((q.toUInt64 >>> (((8 : Int32) * ((7 : Int32) - (5 : Int32))) &&& 0x3f).toInt64.toUInt64).toInt64)))])) _
    exact retOut X2 hx Bd.returns rfl (Or.inr (Or.inl ⟨rfl, rfl, _, rfl⟩)) (hb hby d1_131) hr
  · show own_Ql (own_val 3 q.toInt) h0 n0 _ T2.heap _
    rw [e2]
    exact ⟨((-1103823444256 : Int64) + ((q.toUInt64 >>> (((8 : Int32) * ((7 : Int32) - (5 : Int32))) &&& 0x3f).toInt64.toUInt64).toInt64)), rfl, N2, rfl, own_e_2 hq0 hq1⟩
theorem d1_132 : decode method_4_code 132 = .ok (.iload_n 0, 1) := by decide +kernel
theorem d1_133 : decode method_4_code 133 = .ok (.iconst 4, 1) := by decide +kernel
theorem d1_134 : decode method_4_code 134 = .ok (.if_icmp .ne 13, 3) := by decide +kernel
theorem d1_137 : decode method_4_code 137 = .ok (.ldc2_w 40, 3) := by decide +kernel
theorem d1_140 : decode method_4_code 140 = .ok (.lload_n 1, 1) := by decide +kernel
theorem d1_141 : decode method_4_code 141 = .ok (.iconst 4, 1) := by decide +kernel
theorem d1_142 : decode method_4_code 142 = .ok (.invokestatic 24, 3) := by decide +kernel
theorem d1_145 : decode method_4_code 145 = .ok (.ladd, 1) := by decide +kernel
theorem d1_146 : decode method_4_code 146 = .ok (.lreturn, 1) := by decide +kernel
theorem own_e_3 {q : Int64} (hq0 : 0 ≤ q.toInt) (hq1 : q.toInt < 72057594037927936) : (((-4311816480 : Int64) + ((q.toUInt64 >>> (((8 : Int32) * ((7 : Int32) - (4 : Int32))) &&& 0x3f).toInt64.toUInt64).toInt64))).toInt = own_val 4 q.toInt := by
  rw [own_val_3 (by decide) (by decide)]
  have v := own_follow (q := q) (4 : Int32) 24 (by decide) hq0
  generalize ((q.toUInt64 >>> (((8 : Int32) * ((7 : Int32) - (4 : Int32))) &&& 0x3f).toInt64.toUInt64).toInt64) = u at *
  have v1 : u.toInt = q.toInt / 16777216 := v
  have c0 : ((-4311816480 : Int64)).toInt = -4311816480 := rfl
  rw [Jvm.Kit.i64_add (by omega) (by omega), c0, v1]
  omega
set_option maxRecDepth 65536 in
set_option maxHeartbeats 40000000 in
theorem r_exp_3 (l : Launch) (Z : State) (a0 : Array Value) (hw : ∀ d ∈ tables_1, d.before a0 Z = true) (ws : List Jvm.Cond) (s_R s_F s_E s_L : Addr) (cl_R cl_F cl_E : Cell) (k_L : ClassId) (h0 : Heap) (n0 : Nat) (O0 : Old Z n0 h0) (G : own_Ctx Z Z.heap s_R s_F s_E s_L cl_R cl_F cl_E k_L) (q : Int64)  (hq0 : 0 ≤ q.toInt) (hq1 : q.toInt < 72057594037927936) :
    MetFree l (⟨"com/example/rattan/rattan/storage/label/ComponentCodeDecodePinLaw", "expected", "(IJ)J"⟩ : MethodName) (head1 (Jvm.Cond.code (⟨"com/example/rattan/rattan/storage/label/ComponentCodeDecodePinLaw", "expected", "(IJ)J"⟩ : MethodName) method_4_code 5 (some .long) :: ws) ({ frames := 1, cells := 0, slots := 0, locals := 64 } : Room)) (fun a U => a = #[(.int (4 : Int32)), (.long q)] ∧ Z.Warmed39 U.vm ∧ U.heap = h0) (fun _ _ _ _ _ => True) (fun _ U o U' => ∃ v L, o = .returned v ∧ own_Ql (own_val 4 q.toInt) h0 n0 v U'.heap L ∧ FrameEnd U o U' L ({ frames := 1, cells := 0, slots := 0, locals := 64 } : Room).cells ({ frames := 1, cells := 0, slots := 0, locals := 64 } : Room).slots) := by
  have G0 := G
  obtain ⟨S_R, C_R, S_F, C_F, S_E, C_E, S_L, V_L, R_1, R_2, R_3, R_4, R_5, F_0, F_1, F_2, F_3, F_4, F_5, F_6, F_7, F_8, F_9, F_10, F_11, F_12, F_13, F_14, E_0, E_1, E_2, E_3, E_4, E_5, E_6, E_7, E_8, E_9, E_10, E_11, E_12, E_13, E_14⟩ := G
  refine MetFree.of_bodySF (plainFor_of_name pn_0) hisR ?_
  intro p e s m args below meth c s₁ Bd hml0 hP hK
  obtain ⟨rfl, hZ, hh⟩ := hP
  have hx := Bd.exec
  have hby := Bd.bytes
  have hml : c.maxLocals = 5 := hml0
  have hown : s.vm.findClass "com/example/rattan/rattan/storage/label/ComponentCodeDecodePinLaw" = some m.cls := findClass_of_methodNamed Bd.named
  have hnm := (name_of_methodNamed Bd.named Bd.method).1
  have X0 : Stand p l e ({ frames := 1, cells := 0, slots := 0, locals := 64 } : Room) s m #[(.int (4 : Int32)), (.long q)] below meth c s₁ [] 0 0 := Stand.of_body Bd
  have e0 : s₁.heap = h0 := by rw [← hh, Bd.state]; rfl
  have N0 := Fr.nil n0
  have pre0 : ∀ t, Steps p.tables e below (s₁.setTop (mkF m 0 #[.val (.int (4 : Int32)), .val (.long q), .second, .unset, .unset] [])) t → Steps p.tables e below (s₁.setTop (entryFrame m #[(.int (4 : Int32)), (.long q)] 5)) t := fun t k => castTop (ef_1_1 m (4 : Int32) q) k
  obtain ⟨_, _, ⟨T1, L1, k1, n1⟩, -, X1, ⟨Lc1, hQ1, l1, y1, z1⟩, st1⟩ := Jvm.LawKit.callS X0 hx (y := (⟨"com/example/rattan/rattan/storage/label/ComponentCodeDecodePinLaw", "follow", "(JI)J"⟩ : MethodName)) hown (mvT hZ (hw _ (List.mem_of_getElem? (i := 7) rfl))) (mvT hZ (hw _ (List.mem_of_getElem? (i := 8) rfl))) (mvT hZ (hw _ (List.mem_of_getElem? (i := 5) rfl))) (mvT hZ (hw _ (List.mem_of_getElem? (i := 9) rfl))) (by decide) (backOf (W := 0) (r_fol l Z a0 hw [] s_R s_F s_E s_L cl_R cl_F cl_E k_L h0 n0 O0 G0 q (1 : Int32)) hZ (hw _ (List.mem_of_getElem? (i := 9) rfl)) (hw _ (List.mem_of_getElem? (i := 5) rfl)) (by decide) (by decide)) (g := (mkF m 22 #[.val (.int (4 : Int32)), .val (.long q), .second, .unset, .unset] [(.int (1 : Int32)), (.long q)])) rfl (by rw [hml]; rfl) (argsL := [(.long q), (.int (1 : Int32))]) (rest := []) (lenOf pd_0 rfl) rfl (by show 2 * 0 + _ ≤ _; exact Nat.le_of_eq rfl) (hb hby d1_22) (fun _ _ => ⟨rfl, e0, (by decide : 0 + 0 ≤ _), (by decide : 0 + 0 ≤ _)⟩)
  dsimp only [Pt.U, Pt.locs, Pt.cells, Pt.slots] at X1 l1 y1 z1 st1 hQ1
  subst l1 y1 z1
  obtain ⟨rfl, N1q, e1⟩ := hQ1
  have N1 := Fr.app N0 N1q
  obtain ⟨u1, hu1⟩ : ∃ z : Int64, z = ((q.toUInt64 >>> (((8 : Int32) * ((7 : Int32) - (1 : Int32))) &&& 0x3f).toInt64.toUInt64).toInt64) := ⟨_, rfl⟩
  obtain ⟨_, _, ⟨T2, L2, k2, n2⟩, -, X2, ⟨Lc2, hQ2, l2, y2, z2⟩, st2⟩ := Jvm.LawKit.callS X1 hx (y := (⟨"com/example/rattan/rattan/storage/label/ComponentCodeDecodePinLaw", "follow", "(JI)J"⟩ : MethodName)) hown (mvT hZ (hw _ (List.mem_of_getElem? (i := 7) rfl))) (mvT hZ (hw _ (List.mem_of_getElem? (i := 8) rfl))) (mvT hZ (hw _ (List.mem_of_getElem? (i := 5) rfl))) (mvT hZ (hw _ (List.mem_of_getElem? (i := 9) rfl))) (by decide) (backOf (W := 2) (r_fol l Z a0 hw [] s_R s_F s_E s_L cl_R cl_F cl_E k_L h0 n0 O0 G0 q (4 : Int32)) hZ (hw _ (List.mem_of_getElem? (i := 9) rfl)) (hw _ (List.mem_of_getElem? (i := 5) rfl)) (by decide) (by decide)) (g := (mkF m 142 #[.val (.int (4 : Int32)), .val (.long q), .second, .val (.long u1), .second] [(.int (4 : Int32)), (.long q), (.long (-4311816480 : Int64))])) rfl (by rw [hml]; rfl) (argsL := [(.long q), (.int (4 : Int32))]) (rest := [(.long (-4311816480 : Int64))]) (lenOf pd_0 rfl) rfl (by show 2 * 0 + _ ≤ _; exact Nat.le_of_eq rfl) (hb hby d1_142) (fun _ _ => ⟨rfl, e1, (by decide : 0 + 0 ≤ _), (by decide : 0 + 0 ≤ _)⟩)
  dsimp only [Pt.U, Pt.locs, Pt.cells, Pt.slots] at X2 l2 y2 z2 st2 hQ2
  subst l2 y2 z2
  obtain ⟨rfl, N2q, e2⟩ := hQ2
  have N2 := Fr.app N1 N2q
  obtain ⟨fs, hr, hrun, hended, hW, hsame⟩ := X2.leave (v := some (.long ((-4311816480 : Int64) + ((q.toUInt64 >>> (((8 : Int32) * ((7 : Int32) - (4 : Int32))) &&& 0x3f).toInt64.toUInt64).toInt64)))) (fun h => by rw [Bd.returns] at h; cases h)
  refine ⟨_, _, pre0 _ ?_, hrun, hended, _, _, rfl, ?_, ⟨_, rfl⟩, hW, hsame.mono (by decide) (by decide)⟩
  · show Steps p.tables e below (s₁.setTop (mkF m 0 #[.val (.int (4 : Int32)), .val (.long q), .second, .unset, .unset] [])) _
    refine XS.iloadN X0.here hx rfl (hb hby d1_0) rfl ?_
    refine XS.bipush X0.here hx rfl (hb hby d1_1) ?_
    refine XS.icmpYes X0.here hx rfl (pc0 := 3) (pc' := 20) rfl (hb hby d1_3) rfl (tlt (by decide : (4 : Int32) < (32 : Int32))).1 (by decide) (by decide) ?_
    show Steps p.tables e below (s₁.setTop (mkF m 20 #[.val (.int (4 : Int32)), .val (.long q), .second, .unset, .unset] [])) _
    refine XS.lloadN X0.here hx rfl (hb hby d1_20) rfl ?_
    refine XS.iconst X0.here hx rfl (hb hby d1_21) ?_
    show Steps p.tables e below (s₁.setTop (mkF m 22 #[.val (.int (4 : Int32)), .val (.long q), .second, .unset, .unset] [(.int (1 : Int32)), (.long q)])) _
    refine st1 _ ?_
    show Steps p.tables e below (T1.setTop (mkF m 25 #[.val (.int (4 : Int32)), .val (.long q), .second, .unset, .unset] [(.long ((q.toUInt64 >>> (((8 : Int32) * ((7 : Int32) - (1 : Int32))) &&& 0x3f).toInt64.toUInt64).toInt64))])) _
    rw [← hu1]
    show Steps p.tables e below (T1.setTop (mkF m 25 #[.val (.int (4 : Int32)), .val (.long q), .second, .unset, .unset] [(.long u1)])) _
    refine XS.lstoreN X1.here hx rfl (hb hby d1_25) rfl (l' := #[.val (.int (4 : Int32)), .val (.long q), .second, .val (.long u1), .second]) rfl ?_
    show Steps p.tables e below (T1.setTop (mkF m 26 #[.val (.int (4 : Int32)), .val (.long q), .second, .val (.long u1), .second] [])) _
    refine XS.iloadN X1.here hx rfl (hb hby d1_26) rfl ?_
    refine XS.bipush X1.here hx rfl (hb hby d1_27) ?_
    refine XS.icmpYes X1.here hx rfl (pc0 := 29) (pc' := 54) rfl (hb hby d1_29) rfl (tlt (by decide : (4 : Int32) < (7 : Int32))).1 (by decide) (by decide) ?_
    show Steps p.tables e below (T1.setTop (mkF m 54 #[.val (.int (4 : Int32)), .val (.long q), .second, .val (.long u1), .second] [])) _
    refine XS.iloadN X1.here hx rfl (hb hby d1_54) rfl ?_
    refine XS.sipush X1.here hx rfl (hb hby d1_55) ?_
    refine XS.icmpYes X1.here hx rfl (pc0 := 58) (pc' := 85) rfl (hb hby d1_58) rfl (tlt (by decide : (4 : Int32) < (224 : Int32))).1 (by decide) (by decide) ?_
    show Steps p.tables e below (T1.setTop (mkF m 85 #[.val (.int (4 : Int32)), .val (.long q), .second, .val (.long u1), .second] [])) _
    refine XS.iloadN X1.here hx rfl (hb hby d1_85) rfl ?_
    refine XS.iconst X1.here hx rfl (hb hby d1_86) ?_
    refine XS.icmpYes X1.here hx rfl (pc0 := 87) (pc' := 101) rfl (hb hby d1_87) rfl (feq (by decide : ¬ ((4 : Int32) = (1 : Int32)))).2 (by decide) (by decide) ?_
    show Steps p.tables e below (T1.setTop (mkF m 101 #[.val (.int (4 : Int32)), .val (.long q), .second, .val (.long u1), .second] [])) _
    refine XS.iloadN X1.here hx rfl (hb hby d1_101) rfl ?_
    refine XS.iconst X1.here hx rfl (hb hby d1_102) ?_
    refine XS.icmpYes X1.here hx rfl (pc0 := 103) (pc' := 117) rfl (hb hby d1_103) rfl (feq (by decide : ¬ ((4 : Int32) = (2 : Int32)))).2 (by decide) (by decide) ?_
    show Steps p.tables e below (T1.setTop (mkF m 117 #[.val (.int (4 : Int32)), .val (.long q), .second, .val (.long u1), .second] [])) _
    refine XS.iloadN X1.here hx rfl (hb hby d1_117) rfl ?_
    refine XS.iconst X1.here hx rfl (hb hby d1_118) ?_
    refine XS.icmpYes X1.here hx rfl (pc0 := 119) (pc' := 132) rfl (hb hby d1_119) rfl (feq (by decide : ¬ ((4 : Int32) = (3 : Int32)))).2 (by decide) (by decide) ?_
    show Steps p.tables e below (T1.setTop (mkF m 132 #[.val (.int (4 : Int32)), .val (.long q), .second, .val (.long u1), .second] [])) _
    refine XS.iloadN X1.here hx rfl (hb hby d1_132) rfl ?_
    refine XS.iconst X1.here hx rfl (hb hby d1_133) ?_
    refine XS.icmpNo X1.here hx rfl (hb hby d1_134) rfl (teq (by decide : (4 : Int32) = (4 : Int32))).2 ?_
    show Steps p.tables e below (T1.setTop (mkF m 137 #[.val (.int (4 : Int32)), .val (.long q), .second, .val (.long u1), .second] [])) _
    refine X1.ldc2Long hx hown (mvT hZ (hw _ (List.mem_of_getElem? (i := 28) rfl))) (g := (mkF m 137 #[.val (.int (4 : Int32)), .val (.long q), .second, .val (.long u1), .second] [])) rfl (hb hby d1_137) _ ?_
    show Steps p.tables e below (T1.setTop (mkF m 140 #[.val (.int (4 : Int32)), .val (.long q), .second, .val (.long u1), .second] [(.long (-4311816480 : Int64))])) _
    refine XS.lloadN X1.here hx rfl (hb hby d1_140) rfl ?_
    refine XS.iconst X1.here hx rfl (hb hby d1_141) ?_
    show Steps p.tables e below (T1.setTop (mkF m 142 #[.val (.int (4 : Int32)), .val (.long q), .second, .val (.long u1), .second] [(.int (4 : Int32)), (.long q), (.long (-4311816480 : Int64))])) _
    refine st2 _ ?_
    show Steps p.tables e below (T2.setTop (mkF m 145 #[.val (.int (4 : Int32)), .val (.long q), .second, .val (.long u1), .second] [(.long ((q.toUInt64 >>> (((8 : Int32) * ((7 : Int32) - (4 : Int32))) &&& 0x3f).toInt64.toUInt64).toInt64)), (.long (-4311816480 : Int64))])) _
    refine XS.ladd X2.here hx rfl (hb hby d1_145) rfl ?_
    show Steps p.tables e below (T2.setTop (mkF m 146 #[.val (.int (4 : Int32)), .val (.long q), .second, .val (.long u1), .second] [(.long ((-4311816480 : Int64) + ((q.toUInt64 >>> (((8 : Int32) * ((7 : Int32) - (4 : Int32))) &&& 0x3f).toInt64.toUInt64).toInt64)))])) _
    exact retOut X2 hx Bd.returns rfl (Or.inr (Or.inl ⟨rfl, rfl, _, rfl⟩)) (hb hby d1_146) hr
  · show own_Ql (own_val 4 q.toInt) h0 n0 _ T2.heap _
    rw [e2]
    exact ⟨((-4311816480 : Int64) + ((q.toUInt64 >>> (((8 : Int32) * ((7 : Int32) - (4 : Int32))) &&& 0x3f).toInt64.toUInt64).toInt64)), rfl, N2, rfl, own_e_3 hq0 hq1⟩
theorem d1_147 : decode method_4_code 147 = .ok (.iload_n 0, 1) := by decide +kernel
theorem d1_148 : decode method_4_code 148 = .ok (.iconst 5, 1) := by decide +kernel
theorem d1_149 : decode method_4_code 149 = .ok (.if_icmp .ne 13, 3) := by decide +kernel
theorem d1_152 : decode method_4_code 152 = .ok (.ldc2_w 42, 3) := by decide +kernel
theorem d1_155 : decode method_4_code 155 = .ok (.lload_n 1, 1) := by decide +kernel
theorem d1_156 : decode method_4_code 156 = .ok (.iconst 3, 1) := by decide +kernel
theorem d1_157 : decode method_4_code 157 = .ok (.invokestatic 24, 3) := by decide +kernel
theorem d1_160 : decode method_4_code 160 = .ok (.ladd, 1) := by decide +kernel
theorem d1_161 : decode method_4_code 161 = .ok (.lreturn, 1) := by decide +kernel
theorem own_e_4 {q : Int64} (hq0 : 0 ≤ q.toInt) (hq1 : q.toInt < 72057594037927936) : (((-16849184 : Int64) + ((q.toUInt64 >>> (((8 : Int32) * ((7 : Int32) - (3 : Int32))) &&& 0x3f).toInt64.toUInt64).toInt64))).toInt = own_val 5 q.toInt := by
  rw [own_val_4 (by decide) (by decide)]
  have v := own_follow (q := q) (3 : Int32) 32 (by decide) hq0
  generalize ((q.toUInt64 >>> (((8 : Int32) * ((7 : Int32) - (3 : Int32))) &&& 0x3f).toInt64.toUInt64).toInt64) = u at *
  have v1 : u.toInt = q.toInt / 4294967296 := v
  have c0 : ((-16849184 : Int64)).toInt = -16849184 := rfl
  rw [Jvm.Kit.i64_add (by omega) (by omega), c0, v1]
  omega
set_option maxRecDepth 65536 in
set_option maxHeartbeats 40000000 in
theorem r_exp_4 (l : Launch) (Z : State) (a0 : Array Value) (hw : ∀ d ∈ tables_1, d.before a0 Z = true) (ws : List Jvm.Cond) (s_R s_F s_E s_L : Addr) (cl_R cl_F cl_E : Cell) (k_L : ClassId) (h0 : Heap) (n0 : Nat) (O0 : Old Z n0 h0) (G : own_Ctx Z Z.heap s_R s_F s_E s_L cl_R cl_F cl_E k_L) (q : Int64)  (hq0 : 0 ≤ q.toInt) (hq1 : q.toInt < 72057594037927936) :
    MetFree l (⟨"com/example/rattan/rattan/storage/label/ComponentCodeDecodePinLaw", "expected", "(IJ)J"⟩ : MethodName) (head1 (Jvm.Cond.code (⟨"com/example/rattan/rattan/storage/label/ComponentCodeDecodePinLaw", "expected", "(IJ)J"⟩ : MethodName) method_4_code 5 (some .long) :: ws) ({ frames := 1, cells := 0, slots := 0, locals := 64 } : Room)) (fun a U => a = #[(.int (5 : Int32)), (.long q)] ∧ Z.Warmed39 U.vm ∧ U.heap = h0) (fun _ _ _ _ _ => True) (fun _ U o U' => ∃ v L, o = .returned v ∧ own_Ql (own_val 5 q.toInt) h0 n0 v U'.heap L ∧ FrameEnd U o U' L ({ frames := 1, cells := 0, slots := 0, locals := 64 } : Room).cells ({ frames := 1, cells := 0, slots := 0, locals := 64 } : Room).slots) := by
  have G0 := G
  obtain ⟨S_R, C_R, S_F, C_F, S_E, C_E, S_L, V_L, R_1, R_2, R_3, R_4, R_5, F_0, F_1, F_2, F_3, F_4, F_5, F_6, F_7, F_8, F_9, F_10, F_11, F_12, F_13, F_14, E_0, E_1, E_2, E_3, E_4, E_5, E_6, E_7, E_8, E_9, E_10, E_11, E_12, E_13, E_14⟩ := G
  refine MetFree.of_bodySF (plainFor_of_name pn_0) hisR ?_
  intro p e s m args below meth c s₁ Bd hml0 hP hK
  obtain ⟨rfl, hZ, hh⟩ := hP
  have hx := Bd.exec
  have hby := Bd.bytes
  have hml : c.maxLocals = 5 := hml0
  have hown : s.vm.findClass "com/example/rattan/rattan/storage/label/ComponentCodeDecodePinLaw" = some m.cls := findClass_of_methodNamed Bd.named
  have hnm := (name_of_methodNamed Bd.named Bd.method).1
  have X0 : Stand p l e ({ frames := 1, cells := 0, slots := 0, locals := 64 } : Room) s m #[(.int (5 : Int32)), (.long q)] below meth c s₁ [] 0 0 := Stand.of_body Bd
  have e0 : s₁.heap = h0 := by rw [← hh, Bd.state]; rfl
  have N0 := Fr.nil n0
  have pre0 : ∀ t, Steps p.tables e below (s₁.setTop (mkF m 0 #[.val (.int (5 : Int32)), .val (.long q), .second, .unset, .unset] [])) t → Steps p.tables e below (s₁.setTop (entryFrame m #[(.int (5 : Int32)), (.long q)] 5)) t := fun t k => castTop (ef_1_1 m (5 : Int32) q) k
  obtain ⟨_, _, ⟨T1, L1, k1, n1⟩, -, X1, ⟨Lc1, hQ1, l1, y1, z1⟩, st1⟩ := Jvm.LawKit.callS X0 hx (y := (⟨"com/example/rattan/rattan/storage/label/ComponentCodeDecodePinLaw", "follow", "(JI)J"⟩ : MethodName)) hown (mvT hZ (hw _ (List.mem_of_getElem? (i := 7) rfl))) (mvT hZ (hw _ (List.mem_of_getElem? (i := 8) rfl))) (mvT hZ (hw _ (List.mem_of_getElem? (i := 5) rfl))) (mvT hZ (hw _ (List.mem_of_getElem? (i := 9) rfl))) (by decide) (backOf (W := 0) (r_fol l Z a0 hw [] s_R s_F s_E s_L cl_R cl_F cl_E k_L h0 n0 O0 G0 q (1 : Int32)) hZ (hw _ (List.mem_of_getElem? (i := 9) rfl)) (hw _ (List.mem_of_getElem? (i := 5) rfl)) (by decide) (by decide)) (g := (mkF m 22 #[.val (.int (5 : Int32)), .val (.long q), .second, .unset, .unset] [(.int (1 : Int32)), (.long q)])) rfl (by rw [hml]; rfl) (argsL := [(.long q), (.int (1 : Int32))]) (rest := []) (lenOf pd_0 rfl) rfl (by show 2 * 0 + _ ≤ _; exact Nat.le_of_eq rfl) (hb hby d1_22) (fun _ _ => ⟨rfl, e0, (by decide : 0 + 0 ≤ _), (by decide : 0 + 0 ≤ _)⟩)
  dsimp only [Pt.U, Pt.locs, Pt.cells, Pt.slots] at X1 l1 y1 z1 st1 hQ1
  subst l1 y1 z1
  obtain ⟨rfl, N1q, e1⟩ := hQ1
  have N1 := Fr.app N0 N1q
  obtain ⟨u1, hu1⟩ : ∃ z : Int64, z = ((q.toUInt64 >>> (((8 : Int32) * ((7 : Int32) - (1 : Int32))) &&& 0x3f).toInt64.toUInt64).toInt64) := ⟨_, rfl⟩
  obtain ⟨_, _, ⟨T2, L2, k2, n2⟩, -, X2, ⟨Lc2, hQ2, l2, y2, z2⟩, st2⟩ := Jvm.LawKit.callS X1 hx (y := (⟨"com/example/rattan/rattan/storage/label/ComponentCodeDecodePinLaw", "follow", "(JI)J"⟩ : MethodName)) hown (mvT hZ (hw _ (List.mem_of_getElem? (i := 7) rfl))) (mvT hZ (hw _ (List.mem_of_getElem? (i := 8) rfl))) (mvT hZ (hw _ (List.mem_of_getElem? (i := 5) rfl))) (mvT hZ (hw _ (List.mem_of_getElem? (i := 9) rfl))) (by decide) (backOf (W := 2) (r_fol l Z a0 hw [] s_R s_F s_E s_L cl_R cl_F cl_E k_L h0 n0 O0 G0 q (3 : Int32)) hZ (hw _ (List.mem_of_getElem? (i := 9) rfl)) (hw _ (List.mem_of_getElem? (i := 5) rfl)) (by decide) (by decide)) (g := (mkF m 157 #[.val (.int (5 : Int32)), .val (.long q), .second, .val (.long u1), .second] [(.int (3 : Int32)), (.long q), (.long (-16849184 : Int64))])) rfl (by rw [hml]; rfl) (argsL := [(.long q), (.int (3 : Int32))]) (rest := [(.long (-16849184 : Int64))]) (lenOf pd_0 rfl) rfl (by show 2 * 0 + _ ≤ _; exact Nat.le_of_eq rfl) (hb hby d1_157) (fun _ _ => ⟨rfl, e1, (by decide : 0 + 0 ≤ _), (by decide : 0 + 0 ≤ _)⟩)
  dsimp only [Pt.U, Pt.locs, Pt.cells, Pt.slots] at X2 l2 y2 z2 st2 hQ2
  subst l2 y2 z2
  obtain ⟨rfl, N2q, e2⟩ := hQ2
  have N2 := Fr.app N1 N2q
  obtain ⟨fs, hr, hrun, hended, hW, hsame⟩ := X2.leave (v := some (.long ((-16849184 : Int64) + ((q.toUInt64 >>> (((8 : Int32) * ((7 : Int32) - (3 : Int32))) &&& 0x3f).toInt64.toUInt64).toInt64)))) (fun h => by rw [Bd.returns] at h; cases h)
  refine ⟨_, _, pre0 _ ?_, hrun, hended, _, _, rfl, ?_, ⟨_, rfl⟩, hW, hsame.mono (by decide) (by decide)⟩
  · show Steps p.tables e below (s₁.setTop (mkF m 0 #[.val (.int (5 : Int32)), .val (.long q), .second, .unset, .unset] [])) _
    refine XS.iloadN X0.here hx rfl (hb hby d1_0) rfl ?_
    refine XS.bipush X0.here hx rfl (hb hby d1_1) ?_
    refine XS.icmpYes X0.here hx rfl (pc0 := 3) (pc' := 20) rfl (hb hby d1_3) rfl (tlt (by decide : (5 : Int32) < (32 : Int32))).1 (by decide) (by decide) ?_
    show Steps p.tables e below (s₁.setTop (mkF m 20 #[.val (.int (5 : Int32)), .val (.long q), .second, .unset, .unset] [])) _
    refine XS.lloadN X0.here hx rfl (hb hby d1_20) rfl ?_
    refine XS.iconst X0.here hx rfl (hb hby d1_21) ?_
    show Steps p.tables e below (s₁.setTop (mkF m 22 #[.val (.int (5 : Int32)), .val (.long q), .second, .unset, .unset] [(.int (1 : Int32)), (.long q)])) _
    refine st1 _ ?_
    show Steps p.tables e below (T1.setTop (mkF m 25 #[.val (.int (5 : Int32)), .val (.long q), .second, .unset, .unset] [(.long ((q.toUInt64 >>> (((8 : Int32) * ((7 : Int32) - (1 : Int32))) &&& 0x3f).toInt64.toUInt64).toInt64))])) _
    rw [← hu1]
    show Steps p.tables e below (T1.setTop (mkF m 25 #[.val (.int (5 : Int32)), .val (.long q), .second, .unset, .unset] [(.long u1)])) _
    refine XS.lstoreN X1.here hx rfl (hb hby d1_25) rfl (l' := #[.val (.int (5 : Int32)), .val (.long q), .second, .val (.long u1), .second]) rfl ?_
    show Steps p.tables e below (T1.setTop (mkF m 26 #[.val (.int (5 : Int32)), .val (.long q), .second, .val (.long u1), .second] [])) _
    refine XS.iloadN X1.here hx rfl (hb hby d1_26) rfl ?_
    refine XS.bipush X1.here hx rfl (hb hby d1_27) ?_
    refine XS.icmpYes X1.here hx rfl (pc0 := 29) (pc' := 54) rfl (hb hby d1_29) rfl (tlt (by decide : (5 : Int32) < (7 : Int32))).1 (by decide) (by decide) ?_
    show Steps p.tables e below (T1.setTop (mkF m 54 #[.val (.int (5 : Int32)), .val (.long q), .second, .val (.long u1), .second] [])) _
    refine XS.iloadN X1.here hx rfl (hb hby d1_54) rfl ?_
    refine XS.sipush X1.here hx rfl (hb hby d1_55) ?_
    refine XS.icmpYes X1.here hx rfl (pc0 := 58) (pc' := 85) rfl (hb hby d1_58) rfl (tlt (by decide : (5 : Int32) < (224 : Int32))).1 (by decide) (by decide) ?_
    show Steps p.tables e below (T1.setTop (mkF m 85 #[.val (.int (5 : Int32)), .val (.long q), .second, .val (.long u1), .second] [])) _
    refine XS.iloadN X1.here hx rfl (hb hby d1_85) rfl ?_
    refine XS.iconst X1.here hx rfl (hb hby d1_86) ?_
    refine XS.icmpYes X1.here hx rfl (pc0 := 87) (pc' := 101) rfl (hb hby d1_87) rfl (feq (by decide : ¬ ((5 : Int32) = (1 : Int32)))).2 (by decide) (by decide) ?_
    show Steps p.tables e below (T1.setTop (mkF m 101 #[.val (.int (5 : Int32)), .val (.long q), .second, .val (.long u1), .second] [])) _
    refine XS.iloadN X1.here hx rfl (hb hby d1_101) rfl ?_
    refine XS.iconst X1.here hx rfl (hb hby d1_102) ?_
    refine XS.icmpYes X1.here hx rfl (pc0 := 103) (pc' := 117) rfl (hb hby d1_103) rfl (feq (by decide : ¬ ((5 : Int32) = (2 : Int32)))).2 (by decide) (by decide) ?_
    show Steps p.tables e below (T1.setTop (mkF m 117 #[.val (.int (5 : Int32)), .val (.long q), .second, .val (.long u1), .second] [])) _
    refine XS.iloadN X1.here hx rfl (hb hby d1_117) rfl ?_
    refine XS.iconst X1.here hx rfl (hb hby d1_118) ?_
    refine XS.icmpYes X1.here hx rfl (pc0 := 119) (pc' := 132) rfl (hb hby d1_119) rfl (feq (by decide : ¬ ((5 : Int32) = (3 : Int32)))).2 (by decide) (by decide) ?_
    show Steps p.tables e below (T1.setTop (mkF m 132 #[.val (.int (5 : Int32)), .val (.long q), .second, .val (.long u1), .second] [])) _
    refine XS.iloadN X1.here hx rfl (hb hby d1_132) rfl ?_
    refine XS.iconst X1.here hx rfl (hb hby d1_133) ?_
    refine XS.icmpYes X1.here hx rfl (pc0 := 134) (pc' := 147) rfl (hb hby d1_134) rfl (feq (by decide : ¬ ((5 : Int32) = (4 : Int32)))).2 (by decide) (by decide) ?_
    show Steps p.tables e below (T1.setTop (mkF m 147 #[.val (.int (5 : Int32)), .val (.long q), .second, .val (.long u1), .second] [])) _
    refine XS.iloadN X1.here hx rfl (hb hby d1_147) rfl ?_
    refine XS.iconst X1.here hx rfl (hb hby d1_148) ?_
    refine XS.icmpNo X1.here hx rfl (hb hby d1_149) rfl (teq (by decide : (5 : Int32) = (5 : Int32))).2 ?_
    show Steps p.tables e below (T1.setTop (mkF m 152 #[.val (.int (5 : Int32)), .val (.long q), .second, .val (.long u1), .second] [])) _
    refine X1.ldc2Long hx hown (mvT hZ (hw _ (List.mem_of_getElem? (i := 30) rfl))) (g := (mkF m 152 #[.val (.int (5 : Int32)), .val (.long q), .second, .val (.long u1), .second] [])) rfl (hb hby d1_152) _ ?_
    show Steps p.tables e below (T1.setTop (mkF m 155 #[.val (.int (5 : Int32)), .val (.long q), .second, .val (.long u1), .second] [(.long (-16849184 : Int64))])) _
    refine XS.lloadN X1.here hx rfl (hb hby d1_155) rfl ?_
    refine XS.iconst X1.here hx rfl (hb hby d1_156) ?_
    show Steps p.tables e below (T1.setTop (mkF m 157 #[.val (.int (5 : Int32)), .val (.long q), .second, .val (.long u1), .second] [(.int (3 : Int32)), (.long q), (.long (-16849184 : Int64))])) _
    refine st2 _ ?_
    show Steps p.tables e below (T2.setTop (mkF m 160 #[.val (.int (5 : Int32)), .val (.long q), .second, .val (.long u1), .second] [(.long ((q.toUInt64 >>> (((8 : Int32) * ((7 : Int32) - (3 : Int32))) &&& 0x3f).toInt64.toUInt64).toInt64)), (.long (-16849184 : Int64))])) _
    refine XS.ladd X2.here hx rfl (hb hby d1_160) rfl ?_
    show Steps p.tables e below (T2.setTop (mkF m 161 #[.val (.int (5 : Int32)), .val (.long q), .second, .val (.long u1), .second] [(.long ((-16849184 : Int64) + ((q.toUInt64 >>> (((8 : Int32) * ((7 : Int32) - (3 : Int32))) &&& 0x3f).toInt64.toUInt64).toInt64)))])) _
    exact retOut X2 hx Bd.returns rfl (Or.inr (Or.inl ⟨rfl, rfl, _, rfl⟩)) (hb hby d1_161) hr
  · show own_Ql (own_val 5 q.toInt) h0 n0 _ T2.heap _
    rw [e2]
    exact ⟨((-16849184 : Int64) + ((q.toUInt64 >>> (((8 : Int32) * ((7 : Int32) - (3 : Int32))) &&& 0x3f).toInt64.toUInt64).toInt64)), rfl, N2, rfl, own_e_4 hq0 hq1⟩
theorem d1_162 : decode method_4_code 162 = .ok (.iload_n 0, 1) := by decide +kernel
theorem d1_163 : decode method_4_code 163 = .ok (.bipush 6, 2) := by decide +kernel
theorem d1_165 : decode method_4_code 165 = .ok (.if_icmp .ne 13, 3) := by decide +kernel
theorem d1_168 : decode method_4_code 168 = .ok (.ldc2_w 44, 3) := by decide +kernel
theorem d1_171 : decode method_4_code 171 = .ok (.lload_n 1, 1) := by decide +kernel
theorem d1_172 : decode method_4_code 172 = .ok (.iconst 2, 1) := by decide +kernel
theorem d1_173 : decode method_4_code 173 = .ok (.invokestatic 24, 3) := by decide +kernel
theorem d1_176 : decode method_4_code 176 = .ok (.ladd, 1) := by decide +kernel
theorem d1_177 : decode method_4_code 177 = .ok (.lreturn, 1) := by decide +kernel
theorem own_e_5 {q : Int64} (hq0 : 0 ≤ q.toInt) (hq1 : q.toInt < 72057594037927936) : (((-71968 : Int64) + ((q.toUInt64 >>> (((8 : Int32) * ((7 : Int32) - (2 : Int32))) &&& 0x3f).toInt64.toUInt64).toInt64))).toInt = own_val 6 q.toInt := by
  rw [own_val_5 (by decide) (by decide)]
  have v := own_follow (q := q) (2 : Int32) 40 (by decide) hq0
  generalize ((q.toUInt64 >>> (((8 : Int32) * ((7 : Int32) - (2 : Int32))) &&& 0x3f).toInt64.toUInt64).toInt64) = u at *
  have v1 : u.toInt = q.toInt / 1099511627776 := v
  have c0 : ((-71968 : Int64)).toInt = -71968 := rfl
  rw [Jvm.Kit.i64_add (by omega) (by omega), c0, v1]
  omega
set_option maxRecDepth 65536 in
set_option maxHeartbeats 40000000 in
theorem r_exp_5 (l : Launch) (Z : State) (a0 : Array Value) (hw : ∀ d ∈ tables_1, d.before a0 Z = true) (ws : List Jvm.Cond) (s_R s_F s_E s_L : Addr) (cl_R cl_F cl_E : Cell) (k_L : ClassId) (h0 : Heap) (n0 : Nat) (O0 : Old Z n0 h0) (G : own_Ctx Z Z.heap s_R s_F s_E s_L cl_R cl_F cl_E k_L) (q : Int64)  (hq0 : 0 ≤ q.toInt) (hq1 : q.toInt < 72057594037927936) :
    MetFree l (⟨"com/example/rattan/rattan/storage/label/ComponentCodeDecodePinLaw", "expected", "(IJ)J"⟩ : MethodName) (head1 (Jvm.Cond.code (⟨"com/example/rattan/rattan/storage/label/ComponentCodeDecodePinLaw", "expected", "(IJ)J"⟩ : MethodName) method_4_code 5 (some .long) :: ws) ({ frames := 1, cells := 0, slots := 0, locals := 64 } : Room)) (fun a U => a = #[(.int (6 : Int32)), (.long q)] ∧ Z.Warmed39 U.vm ∧ U.heap = h0) (fun _ _ _ _ _ => True) (fun _ U o U' => ∃ v L, o = .returned v ∧ own_Ql (own_val 6 q.toInt) h0 n0 v U'.heap L ∧ FrameEnd U o U' L ({ frames := 1, cells := 0, slots := 0, locals := 64 } : Room).cells ({ frames := 1, cells := 0, slots := 0, locals := 64 } : Room).slots) := by
  have G0 := G
  obtain ⟨S_R, C_R, S_F, C_F, S_E, C_E, S_L, V_L, R_1, R_2, R_3, R_4, R_5, F_0, F_1, F_2, F_3, F_4, F_5, F_6, F_7, F_8, F_9, F_10, F_11, F_12, F_13, F_14, E_0, E_1, E_2, E_3, E_4, E_5, E_6, E_7, E_8, E_9, E_10, E_11, E_12, E_13, E_14⟩ := G
  refine MetFree.of_bodySF (plainFor_of_name pn_0) hisR ?_
  intro p e s m args below meth c s₁ Bd hml0 hP hK
  obtain ⟨rfl, hZ, hh⟩ := hP
  have hx := Bd.exec
  have hby := Bd.bytes
  have hml : c.maxLocals = 5 := hml0
  have hown : s.vm.findClass "com/example/rattan/rattan/storage/label/ComponentCodeDecodePinLaw" = some m.cls := findClass_of_methodNamed Bd.named
  have hnm := (name_of_methodNamed Bd.named Bd.method).1
  have X0 : Stand p l e ({ frames := 1, cells := 0, slots := 0, locals := 64 } : Room) s m #[(.int (6 : Int32)), (.long q)] below meth c s₁ [] 0 0 := Stand.of_body Bd
  have e0 : s₁.heap = h0 := by rw [← hh, Bd.state]; rfl
  have N0 := Fr.nil n0
  have pre0 : ∀ t, Steps p.tables e below (s₁.setTop (mkF m 0 #[.val (.int (6 : Int32)), .val (.long q), .second, .unset, .unset] [])) t → Steps p.tables e below (s₁.setTop (entryFrame m #[(.int (6 : Int32)), (.long q)] 5)) t := fun t k => castTop (ef_1_1 m (6 : Int32) q) k
  obtain ⟨_, _, ⟨T1, L1, k1, n1⟩, -, X1, ⟨Lc1, hQ1, l1, y1, z1⟩, st1⟩ := Jvm.LawKit.callS X0 hx (y := (⟨"com/example/rattan/rattan/storage/label/ComponentCodeDecodePinLaw", "follow", "(JI)J"⟩ : MethodName)) hown (mvT hZ (hw _ (List.mem_of_getElem? (i := 7) rfl))) (mvT hZ (hw _ (List.mem_of_getElem? (i := 8) rfl))) (mvT hZ (hw _ (List.mem_of_getElem? (i := 5) rfl))) (mvT hZ (hw _ (List.mem_of_getElem? (i := 9) rfl))) (by decide) (backOf (W := 0) (r_fol l Z a0 hw [] s_R s_F s_E s_L cl_R cl_F cl_E k_L h0 n0 O0 G0 q (1 : Int32)) hZ (hw _ (List.mem_of_getElem? (i := 9) rfl)) (hw _ (List.mem_of_getElem? (i := 5) rfl)) (by decide) (by decide)) (g := (mkF m 22 #[.val (.int (6 : Int32)), .val (.long q), .second, .unset, .unset] [(.int (1 : Int32)), (.long q)])) rfl (by rw [hml]; rfl) (argsL := [(.long q), (.int (1 : Int32))]) (rest := []) (lenOf pd_0 rfl) rfl (by show 2 * 0 + _ ≤ _; exact Nat.le_of_eq rfl) (hb hby d1_22) (fun _ _ => ⟨rfl, e0, (by decide : 0 + 0 ≤ _), (by decide : 0 + 0 ≤ _)⟩)
  dsimp only [Pt.U, Pt.locs, Pt.cells, Pt.slots] at X1 l1 y1 z1 st1 hQ1
  subst l1 y1 z1
  obtain ⟨rfl, N1q, e1⟩ := hQ1
  have N1 := Fr.app N0 N1q
  obtain ⟨u1, hu1⟩ : ∃ z : Int64, z = ((q.toUInt64 >>> (((8 : Int32) * ((7 : Int32) - (1 : Int32))) &&& 0x3f).toInt64.toUInt64).toInt64) := ⟨_, rfl⟩
  obtain ⟨_, _, ⟨T2, L2, k2, n2⟩, -, X2, ⟨Lc2, hQ2, l2, y2, z2⟩, st2⟩ := Jvm.LawKit.callS X1 hx (y := (⟨"com/example/rattan/rattan/storage/label/ComponentCodeDecodePinLaw", "follow", "(JI)J"⟩ : MethodName)) hown (mvT hZ (hw _ (List.mem_of_getElem? (i := 7) rfl))) (mvT hZ (hw _ (List.mem_of_getElem? (i := 8) rfl))) (mvT hZ (hw _ (List.mem_of_getElem? (i := 5) rfl))) (mvT hZ (hw _ (List.mem_of_getElem? (i := 9) rfl))) (by decide) (backOf (W := 2) (r_fol l Z a0 hw [] s_R s_F s_E s_L cl_R cl_F cl_E k_L h0 n0 O0 G0 q (2 : Int32)) hZ (hw _ (List.mem_of_getElem? (i := 9) rfl)) (hw _ (List.mem_of_getElem? (i := 5) rfl)) (by decide) (by decide)) (g := (mkF m 173 #[.val (.int (6 : Int32)), .val (.long q), .second, .val (.long u1), .second] [(.int (2 : Int32)), (.long q), (.long (-71968 : Int64))])) rfl (by rw [hml]; rfl) (argsL := [(.long q), (.int (2 : Int32))]) (rest := [(.long (-71968 : Int64))]) (lenOf pd_0 rfl) rfl (by show 2 * 0 + _ ≤ _; exact Nat.le_of_eq rfl) (hb hby d1_173) (fun _ _ => ⟨rfl, e1, (by decide : 0 + 0 ≤ _), (by decide : 0 + 0 ≤ _)⟩)
  dsimp only [Pt.U, Pt.locs, Pt.cells, Pt.slots] at X2 l2 y2 z2 st2 hQ2
  subst l2 y2 z2
  obtain ⟨rfl, N2q, e2⟩ := hQ2
  have N2 := Fr.app N1 N2q
  obtain ⟨fs, hr, hrun, hended, hW, hsame⟩ := X2.leave (v := some (.long ((-71968 : Int64) + ((q.toUInt64 >>> (((8 : Int32) * ((7 : Int32) - (2 : Int32))) &&& 0x3f).toInt64.toUInt64).toInt64)))) (fun h => by rw [Bd.returns] at h; cases h)
  refine ⟨_, _, pre0 _ ?_, hrun, hended, _, _, rfl, ?_, ⟨_, rfl⟩, hW, hsame.mono (by decide) (by decide)⟩
  · show Steps p.tables e below (s₁.setTop (mkF m 0 #[.val (.int (6 : Int32)), .val (.long q), .second, .unset, .unset] [])) _
    refine XS.iloadN X0.here hx rfl (hb hby d1_0) rfl ?_
    refine XS.bipush X0.here hx rfl (hb hby d1_1) ?_
    refine XS.icmpYes X0.here hx rfl (pc0 := 3) (pc' := 20) rfl (hb hby d1_3) rfl (tlt (by decide : (6 : Int32) < (32 : Int32))).1 (by decide) (by decide) ?_
    show Steps p.tables e below (s₁.setTop (mkF m 20 #[.val (.int (6 : Int32)), .val (.long q), .second, .unset, .unset] [])) _
    refine XS.lloadN X0.here hx rfl (hb hby d1_20) rfl ?_
    refine XS.iconst X0.here hx rfl (hb hby d1_21) ?_
    show Steps p.tables e below (s₁.setTop (mkF m 22 #[.val (.int (6 : Int32)), .val (.long q), .second, .unset, .unset] [(.int (1 : Int32)), (.long q)])) _
    refine st1 _ ?_
    show Steps p.tables e below (T1.setTop (mkF m 25 #[.val (.int (6 : Int32)), .val (.long q), .second, .unset, .unset] [(.long ((q.toUInt64 >>> (((8 : Int32) * ((7 : Int32) - (1 : Int32))) &&& 0x3f).toInt64.toUInt64).toInt64))])) _
    rw [← hu1]
    show Steps p.tables e below (T1.setTop (mkF m 25 #[.val (.int (6 : Int32)), .val (.long q), .second, .unset, .unset] [(.long u1)])) _
    refine XS.lstoreN X1.here hx rfl (hb hby d1_25) rfl (l' := #[.val (.int (6 : Int32)), .val (.long q), .second, .val (.long u1), .second]) rfl ?_
    show Steps p.tables e below (T1.setTop (mkF m 26 #[.val (.int (6 : Int32)), .val (.long q), .second, .val (.long u1), .second] [])) _
    refine XS.iloadN X1.here hx rfl (hb hby d1_26) rfl ?_
    refine XS.bipush X1.here hx rfl (hb hby d1_27) ?_
    refine XS.icmpYes X1.here hx rfl (pc0 := 29) (pc' := 54) rfl (hb hby d1_29) rfl (tlt (by decide : (6 : Int32) < (7 : Int32))).1 (by decide) (by decide) ?_
    show Steps p.tables e below (T1.setTop (mkF m 54 #[.val (.int (6 : Int32)), .val (.long q), .second, .val (.long u1), .second] [])) _
    refine XS.iloadN X1.here hx rfl (hb hby d1_54) rfl ?_
    refine XS.sipush X1.here hx rfl (hb hby d1_55) ?_
    refine XS.icmpYes X1.here hx rfl (pc0 := 58) (pc' := 85) rfl (hb hby d1_58) rfl (tlt (by decide : (6 : Int32) < (224 : Int32))).1 (by decide) (by decide) ?_
    show Steps p.tables e below (T1.setTop (mkF m 85 #[.val (.int (6 : Int32)), .val (.long q), .second, .val (.long u1), .second] [])) _
    refine XS.iloadN X1.here hx rfl (hb hby d1_85) rfl ?_
    refine XS.iconst X1.here hx rfl (hb hby d1_86) ?_
    refine XS.icmpYes X1.here hx rfl (pc0 := 87) (pc' := 101) rfl (hb hby d1_87) rfl (feq (by decide : ¬ ((6 : Int32) = (1 : Int32)))).2 (by decide) (by decide) ?_
    show Steps p.tables e below (T1.setTop (mkF m 101 #[.val (.int (6 : Int32)), .val (.long q), .second, .val (.long u1), .second] [])) _
    refine XS.iloadN X1.here hx rfl (hb hby d1_101) rfl ?_
    refine XS.iconst X1.here hx rfl (hb hby d1_102) ?_
    refine XS.icmpYes X1.here hx rfl (pc0 := 103) (pc' := 117) rfl (hb hby d1_103) rfl (feq (by decide : ¬ ((6 : Int32) = (2 : Int32)))).2 (by decide) (by decide) ?_
    show Steps p.tables e below (T1.setTop (mkF m 117 #[.val (.int (6 : Int32)), .val (.long q), .second, .val (.long u1), .second] [])) _
    refine XS.iloadN X1.here hx rfl (hb hby d1_117) rfl ?_
    refine XS.iconst X1.here hx rfl (hb hby d1_118) ?_
    refine XS.icmpYes X1.here hx rfl (pc0 := 119) (pc' := 132) rfl (hb hby d1_119) rfl (feq (by decide : ¬ ((6 : Int32) = (3 : Int32)))).2 (by decide) (by decide) ?_
    show Steps p.tables e below (T1.setTop (mkF m 132 #[.val (.int (6 : Int32)), .val (.long q), .second, .val (.long u1), .second] [])) _
    refine XS.iloadN X1.here hx rfl (hb hby d1_132) rfl ?_
    refine XS.iconst X1.here hx rfl (hb hby d1_133) ?_
    refine XS.icmpYes X1.here hx rfl (pc0 := 134) (pc' := 147) rfl (hb hby d1_134) rfl (feq (by decide : ¬ ((6 : Int32) = (4 : Int32)))).2 (by decide) (by decide) ?_
    show Steps p.tables e below (T1.setTop (mkF m 147 #[.val (.int (6 : Int32)), .val (.long q), .second, .val (.long u1), .second] [])) _
    refine XS.iloadN X1.here hx rfl (hb hby d1_147) rfl ?_
    refine XS.iconst X1.here hx rfl (hb hby d1_148) ?_
    refine XS.icmpYes X1.here hx rfl (pc0 := 149) (pc' := 162) rfl (hb hby d1_149) rfl (feq (by decide : ¬ ((6 : Int32) = (5 : Int32)))).2 (by decide) (by decide) ?_
    show Steps p.tables e below (T1.setTop (mkF m 162 #[.val (.int (6 : Int32)), .val (.long q), .second, .val (.long u1), .second] [])) _
    refine XS.iloadN X1.here hx rfl (hb hby d1_162) rfl ?_
    refine XS.bipush X1.here hx rfl (hb hby d1_163) ?_
    refine XS.icmpNo X1.here hx rfl (hb hby d1_165) rfl (teq (by decide : (6 : Int32) = (6 : Int32))).2 ?_
    show Steps p.tables e below (T1.setTop (mkF m 168 #[.val (.int (6 : Int32)), .val (.long q), .second, .val (.long u1), .second] [])) _
    refine X1.ldc2Long hx hown (mvT hZ (hw _ (List.mem_of_getElem? (i := 34) rfl))) (g := (mkF m 168 #[.val (.int (6 : Int32)), .val (.long q), .second, .val (.long u1), .second] [])) rfl (hb hby d1_168) _ ?_
    show Steps p.tables e below (T1.setTop (mkF m 171 #[.val (.int (6 : Int32)), .val (.long q), .second, .val (.long u1), .second] [(.long (-71968 : Int64))])) _
    refine XS.lloadN X1.here hx rfl (hb hby d1_171) rfl ?_
    refine XS.iconst X1.here hx rfl (hb hby d1_172) ?_
    show Steps p.tables e below (T1.setTop (mkF m 173 #[.val (.int (6 : Int32)), .val (.long q), .second, .val (.long u1), .second] [(.int (2 : Int32)), (.long q), (.long (-71968 : Int64))])) _
    refine st2 _ ?_
    show Steps p.tables e below (T2.setTop (mkF m 176 #[.val (.int (6 : Int32)), .val (.long q), .second, .val (.long u1), .second] [(.long ((q.toUInt64 >>> (((8 : Int32) * ((7 : Int32) - (2 : Int32))) &&& 0x3f).toInt64.toUInt64).toInt64)), (.long (-71968 : Int64))])) _
    refine XS.ladd X2.here hx rfl (hb hby d1_176) rfl ?_
    show Steps p.tables e below (T2.setTop (mkF m 177 #[.val (.int (6 : Int32)), .val (.long q), .second, .val (.long u1), .second] [(.long ((-71968 : Int64) + ((q.toUInt64 >>> (((8 : Int32) * ((7 : Int32) - (2 : Int32))) &&& 0x3f).toInt64.toUInt64).toInt64)))])) _
    exact retOut X2 hx Bd.returns rfl (Or.inr (Or.inl ⟨rfl, rfl, _, rfl⟩)) (hb hby d1_177) hr
  · show own_Ql (own_val 6 q.toInt) h0 n0 _ T2.heap _
    rw [e2]
    exact ⟨((-71968 : Int64) + ((q.toUInt64 >>> (((8 : Int32) * ((7 : Int32) - (2 : Int32))) &&& 0x3f).toInt64.toUInt64).toInt64)), rfl, N2, rfl, own_e_5 hq0 hq1⟩
theorem d1_32 : decode method_4_code 32 = .ok (.iload_n 0, 1) := by decide +kernel
theorem d1_33 : decode method_4_code 33 = .ok (.bipush 31, 2) := by decide +kernel
theorem d1_35 : decode method_4_code 35 = .ok (.if_icmp .gt 19, 3) := by decide +kernel
theorem d1_38 : decode method_4_code 38 = .ok (.ldc2_w 28, 3) := by decide +kernel
theorem d1_41 : decode method_4_code 41 = .ok (.iload_n 0, 1) := by decide +kernel
theorem d1_42 : decode method_4_code 42 = .ok (.bipush 7, 2) := by decide +kernel
theorem d1_44 : decode method_4_code 44 = .ok (.isub, 1) := by decide +kernel
theorem d1_45 : decode method_4_code 45 = .ok (.i2l, 1) := by decide +kernel
theorem d1_46 : decode method_4_code 46 = .ok (.ldc2_w 30, 3) := by decide +kernel
theorem d1_49 : decode method_4_code 49 = .ok (.lmul, 1) := by decide +kernel
theorem d1_50 : decode method_4_code 50 = .ok (.ladd, 1) := by decide +kernel
theorem d1_51 : decode method_4_code 51 = .ok (.lload_n 3, 1) := by decide +kernel
theorem d1_52 : decode method_4_code 52 = .ok (.ladd, 1) := by decide +kernel
theorem d1_53 : decode method_4_code 53 = .ok (.lreturn, 1) := by decide +kernel
theorem own_e_6 {f : Int32} {q u1 : Int64} (h1 : 7 ≤ f.toInt) (h2 : f.toInt ≤ 31) (hq0 : 0 ≤ q.toInt) (hq1 : q.toInt < 72057594037927936) (hu1 : u1 = ((q.toUInt64 >>> (((8 : Int32) * ((7 : Int32) - (1 : Int32))) &&& 0x3f).toInt64.toUInt64).toInt64)) : ((((-6432 : Int64) + (((f - (7 : Int32)).toInt64) * (256 : Int64))) + u1)).toInt = own_val f.toInt q.toInt := by
  rw [own_val_6 h1 h2]
  rw [hu1]
  have v := own_follow (q := q) (1 : Int32) 48 (by decide) hq0
  generalize ((q.toUInt64 >>> (((8 : Int32) * ((7 : Int32) - (1 : Int32))) &&& 0x3f).toInt64.toUInt64).toInt64) = u at *
  have v1 : u.toInt = q.toInt / 281474976710656 := v
  have c0 : ((-6432 : Int64)).toInt = -6432 := rfl
  have c1 : ((256 : Int64)).toInt = 256 := rfl
  have c2 : ((7 : Int32)).toInt = 7 := rfl
  have e1 : (f - (7 : Int32)).toInt = f.toInt - 7 := Jvm.Kit.i32_sub (by omega) (by omega)
  have e2 : (f - (7 : Int32)).toInt64.toInt = f.toInt - 7 := (Int32.toInt_toInt64 _).trans e1
  have e3 : ((f - (7 : Int32)).toInt64 * (256 : Int64)).toInt = (f.toInt - 7) * 256 := (Jvm.Kit.i64_mul (by rw [c1]; omega) (by rw [c1]; omega)).trans (by rw [e2, c1])
  have e4 : ((-6432 : Int64) + ((f - (7 : Int32)).toInt64 * (256 : Int64))).toInt = -6432 + (f.toInt - 7) * 256 := by rw [← e3]; exact Jvm.Kit.i64_add (by omega) (by omega)
  rw [Jvm.Kit.i64_add (by omega) (by omega), e4, v1]
set_option maxRecDepth 65536 in
set_option maxHeartbeats 40000000 in
theorem r_exp_6 (l : Launch) (Z : State) (a0 : Array Value) (hw : ∀ d ∈ tables_1, d.before a0 Z = true) (ws : List Jvm.Cond) (s_R s_F s_E s_L : Addr) (cl_R cl_F cl_E : Cell) (k_L : ClassId) (h0 : Heap) (n0 : Nat) (O0 : Old Z n0 h0) (G : own_Ctx Z Z.heap s_R s_F s_E s_L cl_R cl_F cl_E k_L) (f : Int32) (q : Int64) (hf1 : 7 ≤ f.toInt) (hf2 : f.toInt ≤ 31) (hq0 : 0 ≤ q.toInt) (hq1 : q.toInt < 72057594037927936) :
    MetFree l (⟨"com/example/rattan/rattan/storage/label/ComponentCodeDecodePinLaw", "expected", "(IJ)J"⟩ : MethodName) (head1 (Jvm.Cond.code (⟨"com/example/rattan/rattan/storage/label/ComponentCodeDecodePinLaw", "expected", "(IJ)J"⟩ : MethodName) method_4_code 5 (some .long) :: ws) ({ frames := 1, cells := 0, slots := 0, locals := 64 } : Room)) (fun a U => a = #[(.int f), (.long q)] ∧ Z.Warmed39 U.vm ∧ U.heap = h0) (fun _ _ _ _ _ => True) (fun _ U o U' => ∃ v L, o = .returned v ∧ own_Ql (own_val f.toInt q.toInt) h0 n0 v U'.heap L ∧ FrameEnd U o U' L ({ frames := 1, cells := 0, slots := 0, locals := 64 } : Room).cells ({ frames := 1, cells := 0, slots := 0, locals := 64 } : Room).slots) := by
  have G0 := G
  obtain ⟨S_R, C_R, S_F, C_F, S_E, C_E, S_L, V_L, R_1, R_2, R_3, R_4, R_5, F_0, F_1, F_2, F_3, F_4, F_5, F_6, F_7, F_8, F_9, F_10, F_11, F_12, F_13, F_14, E_0, E_1, E_2, E_3, E_4, E_5, E_6, E_7, E_8, E_9, E_10, E_11, E_12, E_13, E_14⟩ := G
  refine MetFree.of_bodySF (plainFor_of_name pn_0) hisR ?_
  intro p e s m args below meth c s₁ Bd hml0 hP hK
  obtain ⟨rfl, hZ, hh⟩ := hP
  have hx := Bd.exec
  have hby := Bd.bytes
  have hml : c.maxLocals = 5 := hml0
  have hown : s.vm.findClass "com/example/rattan/rattan/storage/label/ComponentCodeDecodePinLaw" = some m.cls := findClass_of_methodNamed Bd.named
  have hnm := (name_of_methodNamed Bd.named Bd.method).1
  have X0 : Stand p l e ({ frames := 1, cells := 0, slots := 0, locals := 64 } : Room) s m #[(.int f), (.long q)] below meth c s₁ [] 0 0 := Stand.of_body Bd
  have e0 : s₁.heap = h0 := by rw [← hh, Bd.state]; rfl
  have N0 := Fr.nil n0
  have pre0 : ∀ t, Steps p.tables e below (s₁.setTop (mkF m 0 #[.val (.int f), .val (.long q), .second, .unset, .unset] [])) t → Steps p.tables e below (s₁.setTop (entryFrame m #[(.int f), (.long q)] 5)) t := fun t k => castTop (ef_1_1 m f q) k
  obtain ⟨_, _, ⟨T1, L1, k1, n1⟩, -, X1, ⟨Lc1, hQ1, l1, y1, z1⟩, st1⟩ := Jvm.LawKit.callS X0 hx (y := (⟨"com/example/rattan/rattan/storage/label/ComponentCodeDecodePinLaw", "follow", "(JI)J"⟩ : MethodName)) hown (mvT hZ (hw _ (List.mem_of_getElem? (i := 7) rfl))) (mvT hZ (hw _ (List.mem_of_getElem? (i := 8) rfl))) (mvT hZ (hw _ (List.mem_of_getElem? (i := 5) rfl))) (mvT hZ (hw _ (List.mem_of_getElem? (i := 9) rfl))) (by decide) (backOf (W := 0) (r_fol l Z a0 hw [] s_R s_F s_E s_L cl_R cl_F cl_E k_L h0 n0 O0 G0 q (1 : Int32)) hZ (hw _ (List.mem_of_getElem? (i := 9) rfl)) (hw _ (List.mem_of_getElem? (i := 5) rfl)) (by decide) (by decide)) (g := (mkF m 22 #[.val (.int f), .val (.long q), .second, .unset, .unset] [(.int (1 : Int32)), (.long q)])) rfl (by rw [hml]; rfl) (argsL := [(.long q), (.int (1 : Int32))]) (rest := []) (lenOf pd_0 rfl) rfl (by show 2 * 0 + _ ≤ _; exact Nat.le_of_eq rfl) (hb hby d1_22) (fun _ _ => ⟨rfl, e0, (by decide : 0 + 0 ≤ _), (by decide : 0 + 0 ≤ _)⟩)
  dsimp only [Pt.U, Pt.locs, Pt.cells, Pt.slots] at X1 l1 y1 z1 st1 hQ1
  subst l1 y1 z1
  obtain ⟨rfl, N1q, e1⟩ := hQ1
  have N1 := Fr.app N0 N1q
  obtain ⟨u1, hu1⟩ : ∃ z : Int64, z = ((q.toUInt64 >>> (((8 : Int32) * ((7 : Int32) - (1 : Int32))) &&& 0x3f).toInt64.toUInt64).toInt64) := ⟨_, rfl⟩
  obtain ⟨fs, hr, hrun, hended, hW, hsame⟩ := X1.leave (v := some (.long (((-6432 : Int64) + (((f - (7 : Int32)).toInt64) * (256 : Int64))) + u1))) (fun h => by rw [Bd.returns] at h; cases h)
  refine ⟨_, _, pre0 _ ?_, hrun, hended, _, _, rfl, ?_, ⟨_, rfl⟩, hW, hsame.mono (by decide) (by decide)⟩
  · show Steps p.tables e below (s₁.setTop (mkF m 0 #[.val (.int f), .val (.long q), .second, .unset, .unset] [])) _
    refine XS.iloadN X0.here hx rfl (hb hby d1_0) rfl ?_
    refine XS.bipush X0.here hx rfl (hb hby d1_1) ?_
    refine XS.icmpYes X0.here hx rfl (pc0 := 3) (pc' := 20) rfl (hb hby d1_3) rfl (tlt ((by have z : (32 : Int32).toInt = 32 := rfl; rw [Int32.lt_iff_toInt_lt]; omega) : f < (32 : Int32))).1 (by decide) (by decide) ?_
    show Steps p.tables e below (s₁.setTop (mkF m 20 #[.val (.int f), .val (.long q), .second, .unset, .unset] [])) _
    refine XS.lloadN X0.here hx rfl (hb hby d1_20) rfl ?_
    refine XS.iconst X0.here hx rfl (hb hby d1_21) ?_
    show Steps p.tables e below (s₁.setTop (mkF m 22 #[.val (.int f), .val (.long q), .second, .unset, .unset] [(.int (1 : Int32)), (.long q)])) _
    refine st1 _ ?_
    show Steps p.tables e below (T1.setTop (mkF m 25 #[.val (.int f), .val (.long q), .second, .unset, .unset] [(.long ((q.toUInt64 >>> (((8 : Int32) * ((7 : Int32) - (1 : Int32))) &&& 0x3f).toInt64.toUInt64).toInt64))])) _
    rw [← hu1]
    show Steps p.tables e below (T1.setTop (mkF m 25 #[.val (.int f), .val (.long q), .second, .unset, .unset] [(.long u1)])) _
    refine XS.lstoreN X1.here hx rfl (hb hby d1_25) rfl (l' := #[.val (.int f), .val (.long q), .second, .val (.long u1), .second]) rfl ?_
    show Steps p.tables e below (T1.setTop (mkF m 26 #[.val (.int f), .val (.long q), .second, .val (.long u1), .second] [])) _
    refine XS.iloadN X1.here hx rfl (hb hby d1_26) rfl ?_
    refine XS.bipush X1.here hx rfl (hb hby d1_27) ?_
    refine XS.icmpNo X1.here hx rfl (hb hby d1_29) rfl (flt ((by have z : (7 : Int32).toInt = 7 := rfl; rw [Int32.lt_iff_toInt_lt]; omega) : ¬ (f < (7 : Int32)))).1 ?_
    show Steps p.tables e below (T1.setTop (mkF m 32 #[.val (.int f), .val (.long q), .second, .val (.long u1), .second] [])) _
    refine XS.iloadN X1.here hx rfl (hb hby d1_32) rfl ?_
    refine XS.bipush X1.here hx rfl (hb hby d1_33) ?_
    refine XS.icmpNo X1.here hx rfl (hb hby d1_35) rfl (flt ((by have z : (31 : Int32).toInt = 31 := rfl; rw [Int32.lt_iff_toInt_lt]; omega) : ¬ ((31 : Int32) < f))).2.2.1 ?_
    show Steps p.tables e below (T1.setTop (mkF m 38 #[.val (.int f), .val (.long q), .second, .val (.long u1), .second] [])) _
    refine X1.ldc2Long hx hown (mvT hZ (hw _ (List.mem_of_getElem? (i := 23) rfl))) (g := (mkF m 38 #[.val (.int f), .val (.long q), .second, .val (.long u1), .second] [])) rfl (hb hby d1_38) _ ?_
    show Steps p.tables e below (T1.setTop (mkF m 41 #[.val (.int f), .val (.long q), .second, .val (.long u1), .second] [(.long (-6432 : Int64))])) _
    refine XS.iloadN X1.here hx rfl (hb hby d1_41) rfl ?_
    refine XS.bipush X1.here hx rfl (hb hby d1_42) ?_
    refine XS.isub X1.here hx rfl (hb hby d1_44) rfl ?_
    show Steps p.tables e below (T1.setTop (mkF m 45 #[.val (.int f), .val (.long q), .second, .val (.long u1), .second] [(.int (f - (7 : Int32))), (.long (-6432 : Int64))])) _
    refine XS.i2l X1.here hx rfl (hb hby d1_45) rfl ?_
    show Steps p.tables e below (T1.setTop (mkF m 46 #[.val (.int f), .val (.long q), .second, .val (.long u1), .second] [(.long ((f - (7 : Int32)).toInt64)), (.long (-6432 : Int64))])) _
    refine X1.ldc2Long hx hown (mvT hZ (hw _ (List.mem_of_getElem? (i := 24) rfl))) (g := (mkF m 46 #[.val (.int f), .val (.long q), .second, .val (.long u1), .second] [(.long ((f - (7 : Int32)).toInt64)), (.long (-6432 : Int64))])) rfl (hb hby d1_46) _ ?_
    show Steps p.tables e below (T1.setTop (mkF m 49 #[.val (.int f), .val (.long q), .second, .val (.long u1), .second] [(.long (256 : Int64)), (.long ((f - (7 : Int32)).toInt64)), (.long (-6432 : Int64))])) _
    refine XS.lmul X1.here hx rfl (hb hby d1_49) rfl ?_
    show Steps p.tables e below (T1.setTop (mkF m 50 #[.val (.int f), .val (.long q), .second, .val (.long u1), .second] [(.long (((f - (7 : Int32)).toInt64) * (256 : Int64))), (.long (-6432 : Int64))])) _
    refine XS.ladd X1.here hx rfl (hb hby d1_50) rfl ?_
    show Steps p.tables e below (T1.setTop (mkF m 51 #[.val (.int f), .val (.long q), .second, .val (.long u1), .second] [(.long ((-6432 : Int64) + (((f - (7 : Int32)).toInt64) * (256 : Int64))))])) _
    refine XS.lloadN X1.here hx rfl (hb hby d1_51) rfl ?_
    refine XS.ladd X1.here hx rfl (hb hby d1_52) rfl ?_
    show Steps p.tables e below (T1.setTop (mkF m 53 #[.val (.int f), .val (.long q), .second, .val (.long u1), .second] [(.long (((-6432 : Int64) + (((f - (7 : Int32)).toInt64) * (256 : Int64))) + u1))])) _
    exact retOut X1 hx Bd.returns rfl (Or.inr (Or.inl ⟨rfl, rfl, _, rfl⟩)) (hb hby d1_53) hr
  · show own_Ql (own_val f.toInt q.toInt) h0 n0 _ T1.heap _
    rw [e1]
    exact ⟨(((-6432 : Int64) + (((f - (7 : Int32)).toInt64) * (256 : Int64))) + u1), rfl, N1, rfl, own_e_6 hf1 hf2 hq0 hq1 hu1⟩
theorem d1_6 : decode method_4_code 6 = .ok (.iload_n 0, 1) := by decide +kernel
theorem d1_7 : decode method_4_code 7 = .ok (.sipush 223, 3) := by decide +kernel
theorem d1_10 : decode method_4_code 10 = .ok (.if_icmp .gt 10, 3) := by decide +kernel
theorem d1_13 : decode method_4_code 13 = .ok (.iload_n 0, 1) := by decide +kernel
theorem d1_14 : decode method_4_code 14 = .ok (.i2l, 1) := by decide +kernel
theorem d1_15 : decode method_4_code 15 = .ok (.ldc2_w 22, 3) := by decide +kernel
theorem d1_18 : decode method_4_code 18 = .ok (.lsub, 1) := by decide +kernel
theorem d1_19 : decode method_4_code 19 = .ok (.lreturn, 1) := by decide +kernel
theorem own_e_7 {f : Int32} {q : Int64} (h1 : 32 ≤ f.toInt) (h2 : f.toInt ≤ 223) (hq0 : 0 ≤ q.toInt) (hq1 : q.toInt < 72057594037927936) : (((f.toInt64) - (64 : Int64))).toInt = own_val f.toInt q.toInt := by
  rw [own_val_7 h1 h2]
  have c : ((64 : Int64)).toInt = 64 := rfl
  have e1 : f.toInt64.toInt = f.toInt := Int32.toInt_toInt64 _
  rw [Jvm.Kit.i64_sub (by omega) (by omega)]
  omega
set_option maxRecDepth 65536 in
set_option maxHeartbeats 40000000 in
theorem r_exp_7 (l : Launch) (Z : State) (a0 : Array Value) (hw : ∀ d ∈ tables_1, d.before a0 Z = true) (ws : List Jvm.Cond) (s_R s_F s_E s_L : Addr) (cl_R cl_F cl_E : Cell) (k_L : ClassId) (h0 : Heap) (n0 : Nat) (O0 : Old Z n0 h0) (G : own_Ctx Z Z.heap s_R s_F s_E s_L cl_R cl_F cl_E k_L) (f : Int32) (q : Int64) (hf1 : 32 ≤ f.toInt) (hf2 : f.toInt ≤ 223) (hq0 : 0 ≤ q.toInt) (hq1 : q.toInt < 72057594037927936) :
    MetFree l (⟨"com/example/rattan/rattan/storage/label/ComponentCodeDecodePinLaw", "expected", "(IJ)J"⟩ : MethodName) (head1 (Jvm.Cond.code (⟨"com/example/rattan/rattan/storage/label/ComponentCodeDecodePinLaw", "expected", "(IJ)J"⟩ : MethodName) method_4_code 5 (some .long) :: ws) ({ frames := 1, cells := 0, slots := 0, locals := 64 } : Room)) (fun a U => a = #[(.int f), (.long q)] ∧ Z.Warmed39 U.vm ∧ U.heap = h0) (fun _ _ _ _ _ => True) (fun _ U o U' => ∃ v L, o = .returned v ∧ own_Ql (own_val f.toInt q.toInt) h0 n0 v U'.heap L ∧ FrameEnd U o U' L ({ frames := 1, cells := 0, slots := 0, locals := 64 } : Room).cells ({ frames := 1, cells := 0, slots := 0, locals := 64 } : Room).slots) := by
  have G0 := G
  obtain ⟨S_R, C_R, S_F, C_F, S_E, C_E, S_L, V_L, R_1, R_2, R_3, R_4, R_5, F_0, F_1, F_2, F_3, F_4, F_5, F_6, F_7, F_8, F_9, F_10, F_11, F_12, F_13, F_14, E_0, E_1, E_2, E_3, E_4, E_5, E_6, E_7, E_8, E_9, E_10, E_11, E_12, E_13, E_14⟩ := G
  refine MetFree.of_bodySF (plainFor_of_name pn_0) hisR ?_
  intro p e s m args below meth c s₁ Bd hml0 hP hK
  obtain ⟨rfl, hZ, hh⟩ := hP
  have hx := Bd.exec
  have hby := Bd.bytes
  have hml : c.maxLocals = 5 := hml0
  have hown : s.vm.findClass "com/example/rattan/rattan/storage/label/ComponentCodeDecodePinLaw" = some m.cls := findClass_of_methodNamed Bd.named
  have hnm := (name_of_methodNamed Bd.named Bd.method).1
  have X0 : Stand p l e ({ frames := 1, cells := 0, slots := 0, locals := 64 } : Room) s m #[(.int f), (.long q)] below meth c s₁ [] 0 0 := Stand.of_body Bd
  have e0 : s₁.heap = h0 := by rw [← hh, Bd.state]; rfl
  have N0 := Fr.nil n0
  have pre0 : ∀ t, Steps p.tables e below (s₁.setTop (mkF m 0 #[.val (.int f), .val (.long q), .second, .unset, .unset] [])) t → Steps p.tables e below (s₁.setTop (entryFrame m #[(.int f), (.long q)] 5)) t := fun t k => castTop (ef_1_1 m f q) k
  obtain ⟨fs, hr, hrun, hended, hW, hsame⟩ := X0.leave (v := some (.long ((f.toInt64) - (64 : Int64)))) (fun h => by rw [Bd.returns] at h; cases h)
  refine ⟨_, _, pre0 _ ?_, hrun, hended, _, _, rfl, ?_, ⟨_, rfl⟩, hW, hsame.mono (by decide) (by decide)⟩
  · show Steps p.tables e below (s₁.setTop (mkF m 0 #[.val (.int f), .val (.long q), .second, .unset, .unset] [])) _
    refine XS.iloadN X0.here hx rfl (hb hby d1_0) rfl ?_
    refine XS.bipush X0.here hx rfl (hb hby d1_1) ?_
    refine XS.icmpNo X0.here hx rfl (hb hby d1_3) rfl (flt ((by have z : (32 : Int32).toInt = 32 := rfl; rw [Int32.lt_iff_toInt_lt]; omega) : ¬ (f < (32 : Int32)))).1 ?_
    show Steps p.tables e below (s₁.setTop (mkF m 6 #[.val (.int f), .val (.long q), .second, .unset, .unset] [])) _
    refine XS.iloadN X0.here hx rfl (hb hby d1_6) rfl ?_
    refine XS.sipush X0.here hx rfl (hb hby d1_7) ?_
    refine XS.icmpNo X0.here hx rfl (hb hby d1_10) rfl (flt ((by have z : (223 : Int32).toInt = 223 := rfl; rw [Int32.lt_iff_toInt_lt]; omega) : ¬ ((223 : Int32) < f))).2.2.1 ?_
    show Steps p.tables e below (s₁.setTop (mkF m 13 #[.val (.int f), .val (.long q), .second, .unset, .unset] [])) _
    refine XS.iloadN X0.here hx rfl (hb hby d1_13) rfl ?_
    refine XS.i2l X0.here hx rfl (hb hby d1_14) rfl ?_
    show Steps p.tables e below (s₁.setTop (mkF m 15 #[.val (.int f), .val (.long q), .second, .unset, .unset] [(.long (f.toInt64))])) _
    refine X0.ldc2Long hx hown (mvT hZ (hw _ (List.mem_of_getElem? (i := 25) rfl))) (g := (mkF m 15 #[.val (.int f), .val (.long q), .second, .unset, .unset] [(.long (f.toInt64))])) rfl (hb hby d1_15) _ ?_
    show Steps p.tables e below (s₁.setTop (mkF m 18 #[.val (.int f), .val (.long q), .second, .unset, .unset] [(.long (64 : Int64)), (.long (f.toInt64))])) _
    refine XS.lsub X0.here hx rfl (hb hby d1_18) rfl ?_
    show Steps p.tables e below (s₁.setTop (mkF m 19 #[.val (.int f), .val (.long q), .second, .unset, .unset] [(.long ((f.toInt64) - (64 : Int64)))])) _
    exact retOut X0 hx Bd.returns rfl (Or.inr (Or.inl ⟨rfl, rfl, _, rfl⟩)) (hb hby d1_19) hr
  · show own_Ql (own_val f.toInt q.toInt) h0 n0 _ s₁.heap _
    rw [e0]
    exact ⟨((f.toInt64) - (64 : Int64)), rfl, N0, rfl, own_e_7 hf1 hf2 hq0 hq1⟩
theorem d1_61 : decode method_4_code 61 = .ok (.iload_n 0, 1) := by decide +kernel
theorem d1_62 : decode method_4_code 62 = .ok (.sipush 248, 3) := by decide +kernel
theorem d1_65 : decode method_4_code 65 = .ok (.if_icmp .gt 20, 3) := by decide +kernel
theorem d1_68 : decode method_4_code 68 = .ok (.ldc2_w 32, 3) := by decide +kernel
theorem d1_71 : decode method_4_code 71 = .ok (.iload_n 0, 1) := by decide +kernel
theorem d1_72 : decode method_4_code 72 = .ok (.sipush 224, 3) := by decide +kernel
theorem d1_75 : decode method_4_code 75 = .ok (.isub, 1) := by decide +kernel
theorem d1_76 : decode method_4_code 76 = .ok (.i2l, 1) := by decide +kernel
theorem d1_77 : decode method_4_code 77 = .ok (.ldc2_w 30, 3) := by decide +kernel
theorem d1_80 : decode method_4_code 80 = .ok (.lmul, 1) := by decide +kernel
theorem d1_81 : decode method_4_code 81 = .ok (.ladd, 1) := by decide +kernel
theorem d1_82 : decode method_4_code 82 = .ok (.lload_n 3, 1) := by decide +kernel
theorem d1_83 : decode method_4_code 83 = .ok (.ladd, 1) := by decide +kernel
theorem d1_84 : decode method_4_code 84 = .ok (.lreturn, 1) := by decide +kernel
theorem own_e_8 {f : Int32} {q u1 : Int64} (h1 : 224 ≤ f.toInt) (h2 : f.toInt ≤ 248) (hq0 : 0 ≤ q.toInt) (hq1 : q.toInt < 72057594037927936) (hu1 : u1 = ((q.toUInt64 >>> (((8 : Int32) * ((7 : Int32) - (1 : Int32))) &&& 0x3f).toInt64.toUInt64).toInt64)) : ((((160 : Int64) + (((f - (224 : Int32)).toInt64) * (256 : Int64))) + u1)).toInt = own_val f.toInt q.toInt := by
  rw [own_val_8 h1 h2]
  rw [hu1]
  have v := own_follow (q := q) (1 : Int32) 48 (by decide) hq0
  generalize ((q.toUInt64 >>> (((8 : Int32) * ((7 : Int32) - (1 : Int32))) &&& 0x3f).toInt64.toUInt64).toInt64) = u at *
  have v1 : u.toInt = q.toInt / 281474976710656 := v
  have c0 : ((160 : Int64)).toInt = 160 := rfl
  have c1 : ((256 : Int64)).toInt = 256 := rfl
  have c2 : ((224 : Int32)).toInt = 224 := rfl
  have e1 : (f - (224 : Int32)).toInt = f.toInt - 224 := Jvm.Kit.i32_sub (by omega) (by omega)
  have e2 : (f - (224 : Int32)).toInt64.toInt = f.toInt - 224 := (Int32.toInt_toInt64 _).trans e1
  have e3 : ((f - (224 : Int32)).toInt64 * (256 : Int64)).toInt = (f.toInt - 224) * 256 := (Jvm.Kit.i64_mul (by rw [c1]; omega) (by rw [c1]; omega)).trans (by rw [e2, c1])
  have e4 : ((160 : Int64) + ((f - (224 : Int32)).toInt64 * (256 : Int64))).toInt = 160 + (f.toInt - 224) * 256 := by rw [← e3]; exact Jvm.Kit.i64_add (by omega) (by omega)
  rw [Jvm.Kit.i64_add (by omega) (by omega), e4, v1]
set_option maxRecDepth 65536 in
set_option maxHeartbeats 40000000 in
theorem r_exp_8 (l : Launch) (Z : State) (a0 : Array Value) (hw : ∀ d ∈ tables_1, d.before a0 Z = true) (ws : List Jvm.Cond) (s_R s_F s_E s_L : Addr) (cl_R cl_F cl_E : Cell) (k_L : ClassId) (h0 : Heap) (n0 : Nat) (O0 : Old Z n0 h0) (G : own_Ctx Z Z.heap s_R s_F s_E s_L cl_R cl_F cl_E k_L) (f : Int32) (q : Int64) (hf1 : 224 ≤ f.toInt) (hf2 : f.toInt ≤ 248) (hq0 : 0 ≤ q.toInt) (hq1 : q.toInt < 72057594037927936) :
    MetFree l (⟨"com/example/rattan/rattan/storage/label/ComponentCodeDecodePinLaw", "expected", "(IJ)J"⟩ : MethodName) (head1 (Jvm.Cond.code (⟨"com/example/rattan/rattan/storage/label/ComponentCodeDecodePinLaw", "expected", "(IJ)J"⟩ : MethodName) method_4_code 5 (some .long) :: ws) ({ frames := 1, cells := 0, slots := 0, locals := 64 } : Room)) (fun a U => a = #[(.int f), (.long q)] ∧ Z.Warmed39 U.vm ∧ U.heap = h0) (fun _ _ _ _ _ => True) (fun _ U o U' => ∃ v L, o = .returned v ∧ own_Ql (own_val f.toInt q.toInt) h0 n0 v U'.heap L ∧ FrameEnd U o U' L ({ frames := 1, cells := 0, slots := 0, locals := 64 } : Room).cells ({ frames := 1, cells := 0, slots := 0, locals := 64 } : Room).slots) := by
  have G0 := G
  obtain ⟨S_R, C_R, S_F, C_F, S_E, C_E, S_L, V_L, R_1, R_2, R_3, R_4, R_5, F_0, F_1, F_2, F_3, F_4, F_5, F_6, F_7, F_8, F_9, F_10, F_11, F_12, F_13, F_14, E_0, E_1, E_2, E_3, E_4, E_5, E_6, E_7, E_8, E_9, E_10, E_11, E_12, E_13, E_14⟩ := G
  refine MetFree.of_bodySF (plainFor_of_name pn_0) hisR ?_
  intro p e s m args below meth c s₁ Bd hml0 hP hK
  obtain ⟨rfl, hZ, hh⟩ := hP
  have hx := Bd.exec
  have hby := Bd.bytes
  have hml : c.maxLocals = 5 := hml0
  have hown : s.vm.findClass "com/example/rattan/rattan/storage/label/ComponentCodeDecodePinLaw" = some m.cls := findClass_of_methodNamed Bd.named
  have hnm := (name_of_methodNamed Bd.named Bd.method).1
  have X0 : Stand p l e ({ frames := 1, cells := 0, slots := 0, locals := 64 } : Room) s m #[(.int f), (.long q)] below meth c s₁ [] 0 0 := Stand.of_body Bd
  have e0 : s₁.heap = h0 := by rw [← hh, Bd.state]; rfl
  have N0 := Fr.nil n0
  have pre0 : ∀ t, Steps p.tables e below (s₁.setTop (mkF m 0 #[.val (.int f), .val (.long q), .second, .unset, .unset] [])) t → Steps p.tables e below (s₁.setTop (entryFrame m #[(.int f), (.long q)] 5)) t := fun t k => castTop (ef_1_1 m f q) k
  obtain ⟨_, _, ⟨T1, L1, k1, n1⟩, -, X1, ⟨Lc1, hQ1, l1, y1, z1⟩, st1⟩ := Jvm.LawKit.callS X0 hx (y := (⟨"com/example/rattan/rattan/storage/label/ComponentCodeDecodePinLaw", "follow", "(JI)J"⟩ : MethodName)) hown (mvT hZ (hw _ (List.mem_of_getElem? (i := 7) rfl))) (mvT hZ (hw _ (List.mem_of_getElem? (i := 8) rfl))) (mvT hZ (hw _ (List.mem_of_getElem? (i := 5) rfl))) (mvT hZ (hw _ (List.mem_of_getElem? (i := 9) rfl))) (by decide) (backOf (W := 0) (r_fol l Z a0 hw [] s_R s_F s_E s_L cl_R cl_F cl_E k_L h0 n0 O0 G0 q (1 : Int32)) hZ (hw _ (List.mem_of_getElem? (i := 9) rfl)) (hw _ (List.mem_of_getElem? (i := 5) rfl)) (by decide) (by decide)) (g := (mkF m 22 #[.val (.int f), .val (.long q), .second, .unset, .unset] [(.int (1 : Int32)), (.long q)])) rfl (by rw [hml]; rfl) (argsL := [(.long q), (.int (1 : Int32))]) (rest := []) (lenOf pd_0 rfl) rfl (by show 2 * 0 + _ ≤ _; exact Nat.le_of_eq rfl) (hb hby d1_22) (fun _ _ => ⟨rfl, e0, (by decide : 0 + 0 ≤ _), (by decide : 0 + 0 ≤ _)⟩)
  dsimp only [Pt.U, Pt.locs, Pt.cells, Pt.slots] at X1 l1 y1 z1 st1 hQ1
  subst l1 y1 z1
  obtain ⟨rfl, N1q, e1⟩ := hQ1
  have N1 := Fr.app N0 N1q
  obtain ⟨u1, hu1⟩ : ∃ z : Int64, z = ((q.toUInt64 >>> (((8 : Int32) * ((7 : Int32) - (1 : Int32))) &&& 0x3f).toInt64.toUInt64).toInt64) := ⟨_, rfl⟩
  obtain ⟨fs, hr, hrun, hended, hW, hsame⟩ := X1.leave (v := some (.long (((160 : Int64) + (((f - (224 : Int32)).toInt64) * (256 : Int64))) + u1))) (fun h => by rw [Bd.returns] at h; cases h)
  refine ⟨_, _, pre0 _ ?_, hrun, hended, _, _, rfl, ?_, ⟨_, rfl⟩, hW, hsame.mono (by decide) (by decide)⟩
  · show Steps p.tables e below (s₁.setTop (mkF m 0 #[.val (.int f), .val (.long q), .second, .unset, .unset] [])) _
    refine XS.iloadN X0.here hx rfl (hb hby d1_0) rfl ?_
    refine XS.bipush X0.here hx rfl (hb hby d1_1) ?_
    refine XS.icmpNo X0.here hx rfl (hb hby d1_3) rfl (flt ((by have z : (32 : Int32).toInt = 32 := rfl; rw [Int32.lt_iff_toInt_lt]; omega) : ¬ (f < (32 : Int32)))).1 ?_
    show Steps p.tables e below (s₁.setTop (mkF m 6 #[.val (.int f), .val (.long q), .second, .unset, .unset] [])) _
    refine XS.iloadN X0.here hx rfl (hb hby d1_6) rfl ?_
    refine XS.sipush X0.here hx rfl (hb hby d1_7) ?_
    refine XS.icmpYes X0.here hx rfl (pc0 := 10) (pc' := 20) rfl (hb hby d1_10) rfl (tlt ((by have z : (223 : Int32).toInt = 223 := rfl; rw [Int32.lt_iff_toInt_lt]; omega) : (223 : Int32) < f)).2.2.1 (by decide) (by decide) ?_
    show Steps p.tables e below (s₁.setTop (mkF m 20 #[.val (.int f), .val (.long q), .second, .unset, .unset] [])) _
    refine XS.lloadN X0.here hx rfl (hb hby d1_20) rfl ?_
    refine XS.iconst X0.here hx rfl (hb hby d1_21) ?_
    show Steps p.tables e below (s₁.setTop (mkF m 22 #[.val (.int f), .val (.long q), .second, .unset, .unset] [(.int (1 : Int32)), (.long q)])) _
    refine st1 _ ?_
    show Steps p.tables e below (T1.setTop (mkF m 25 #[.val (.int f), .val (.long q), .second, .unset, .unset] [(.long ((q.toUInt64 >>> (((8 : Int32) * ((7 : Int32) - (1 : Int32))) &&& 0x3f).toInt64.toUInt64).toInt64))])) _
    rw [← hu1]
    show Steps p.tables e below (T1.setTop (mkF m 25 #[.val (.int f), .val (.long q), .second, .unset, .unset] [(.long u1)])) _
    refine XS.lstoreN X1.here hx rfl (hb hby d1_25) rfl (l' := #[.val (.int f), .val (.long q), .second, .val (.long u1), .second]) rfl ?_
    show Steps p.tables e below (T1.setTop (mkF m 26 #[.val (.int f), .val (.long q), .second, .val (.long u1), .second] [])) _
    refine XS.iloadN X1.here hx rfl (hb hby d1_26) rfl ?_
    refine XS.bipush X1.here hx rfl (hb hby d1_27) ?_
    refine XS.icmpNo X1.here hx rfl (hb hby d1_29) rfl (flt ((by have z : (7 : Int32).toInt = 7 := rfl; rw [Int32.lt_iff_toInt_lt]; omega) : ¬ (f < (7 : Int32)))).1 ?_
    show Steps p.tables e below (T1.setTop (mkF m 32 #[.val (.int f), .val (.long q), .second, .val (.long u1), .second] [])) _
    refine XS.iloadN X1.here hx rfl (hb hby d1_32) rfl ?_
    refine XS.bipush X1.here hx rfl (hb hby d1_33) ?_
    refine XS.icmpYes X1.here hx rfl (pc0 := 35) (pc' := 54) rfl (hb hby d1_35) rfl (tlt ((by have z : (31 : Int32).toInt = 31 := rfl; rw [Int32.lt_iff_toInt_lt]; omega) : (31 : Int32) < f)).2.2.1 (by decide) (by decide) ?_
    show Steps p.tables e below (T1.setTop (mkF m 54 #[.val (.int f), .val (.long q), .second, .val (.long u1), .second] [])) _
    refine XS.iloadN X1.here hx rfl (hb hby d1_54) rfl ?_
    refine XS.sipush X1.here hx rfl (hb hby d1_55) ?_
    refine XS.icmpNo X1.here hx rfl (hb hby d1_58) rfl (flt ((by have z : (224 : Int32).toInt = 224 := rfl; rw [Int32.lt_iff_toInt_lt]; omega) : ¬ (f < (224 : Int32)))).1 ?_
    show Steps p.tables e below (T1.setTop (mkF m 61 #[.val (.int f), .val (.long q), .second, .val (.long u1), .second] [])) _
    refine XS.iloadN X1.here hx rfl (hb hby d1_61) rfl ?_
    refine XS.sipush X1.here hx rfl (hb hby d1_62) ?_
    refine XS.icmpNo X1.here hx rfl (hb hby d1_65) rfl (flt ((by have z : (248 : Int32).toInt = 248 := rfl; rw [Int32.lt_iff_toInt_lt]; omega) : ¬ ((248 : Int32) < f))).2.2.1 ?_
    show Steps p.tables e below (T1.setTop (mkF m 68 #[.val (.int f), .val (.long q), .second, .val (.long u1), .second] [])) _
    refine X1.ldc2Long hx hown (mvT hZ (hw _ (List.mem_of_getElem? (i := 27) rfl))) (g := (mkF m 68 #[.val (.int f), .val (.long q), .second, .val (.long u1), .second] [])) rfl (hb hby d1_68) _ ?_
    show Steps p.tables e below (T1.setTop (mkF m 71 #[.val (.int f), .val (.long q), .second, .val (.long u1), .second] [(.long (160 : Int64))])) _
    refine XS.iloadN X1.here hx rfl (hb hby d1_71) rfl ?_
    refine XS.sipush X1.here hx rfl (hb hby d1_72) ?_
    refine XS.isub X1.here hx rfl (hb hby d1_75) rfl ?_
    show Steps p.tables e below (T1.setTop (mkF m 76 #[.val (.int f), .val (.long q), .second, .val (.long u1), .second] [(.int (f - (224 : Int32))), (.long (160 : Int64))])) _
    refine XS.i2l X1.here hx rfl (hb hby d1_76) rfl ?_
    show Steps p.tables e below (T1.setTop (mkF m 77 #[.val (.int f), .val (.long q), .second, .val (.long u1), .second] [(.long ((f - (224 : Int32)).toInt64)), (.long (160 : Int64))])) _
    refine X1.ldc2Long hx hown (mvT hZ (hw _ (List.mem_of_getElem? (i := 24) rfl))) (g := (mkF m 77 #[.val (.int f), .val (.long q), .second, .val (.long u1), .second] [(.long ((f - (224 : Int32)).toInt64)), (.long (160 : Int64))])) rfl (hb hby d1_77) _ ?_
    show Steps p.tables e below (T1.setTop (mkF m 80 #[.val (.int f), .val (.long q), .second, .val (.long u1), .second] [(.long (256 : Int64)), (.long ((f - (224 : Int32)).toInt64)), (.long (160 : Int64))])) _
    refine XS.lmul X1.here hx rfl (hb hby d1_80) rfl ?_
    show Steps p.tables e below (T1.setTop (mkF m 81 #[.val (.int f), .val (.long q), .second, .val (.long u1), .second] [(.long (((f - (224 : Int32)).toInt64) * (256 : Int64))), (.long (160 : Int64))])) _
    refine XS.ladd X1.here hx rfl (hb hby d1_81) rfl ?_
    show Steps p.tables e below (T1.setTop (mkF m 82 #[.val (.int f), .val (.long q), .second, .val (.long u1), .second] [(.long ((160 : Int64) + (((f - (224 : Int32)).toInt64) * (256 : Int64))))])) _
    refine XS.lloadN X1.here hx rfl (hb hby d1_82) rfl ?_
    refine XS.ladd X1.here hx rfl (hb hby d1_83) rfl ?_
    show Steps p.tables e below (T1.setTop (mkF m 84 #[.val (.int f), .val (.long q), .second, .val (.long u1), .second] [(.long (((160 : Int64) + (((f - (224 : Int32)).toInt64) * (256 : Int64))) + u1))])) _
    exact retOut X1 hx Bd.returns rfl (Or.inr (Or.inl ⟨rfl, rfl, _, rfl⟩)) (hb hby d1_84) hr
  · show own_Ql (own_val f.toInt q.toInt) h0 n0 _ T1.heap _
    rw [e1]
    exact ⟨(((160 : Int64) + (((f - (224 : Int32)).toInt64) * (256 : Int64))) + u1), rfl, N1, rfl, own_e_8 hf1 hf2 hq0 hq1 hu1⟩
theorem d1_178 : decode method_4_code 178 = .ok (.iload_n 0, 1) := by decide +kernel
theorem d1_179 : decode method_4_code 179 = .ok (.sipush 249, 3) := by decide +kernel
theorem d1_182 : decode method_4_code 182 = .ok (.if_icmp .ne 13, 3) := by decide +kernel
theorem d1_185 : decode method_4_code 185 = .ok (.ldc2_w 46, 3) := by decide +kernel
theorem d1_188 : decode method_4_code 188 = .ok (.lload_n 1, 1) := by decide +kernel
theorem d1_189 : decode method_4_code 189 = .ok (.iconst 2, 1) := by decide +kernel
theorem d1_190 : decode method_4_code 190 = .ok (.invokestatic 24, 3) := by decide +kernel
theorem d1_193 : decode method_4_code 193 = .ok (.ladd, 1) := by decide +kernel
theorem d1_194 : decode method_4_code 194 = .ok (.lreturn, 1) := by decide +kernel
theorem own_e_9 {q : Int64} (hq0 : 0 ≤ q.toInt) (hq1 : q.toInt < 72057594037927936) : (((6560 : Int64) + ((q.toUInt64 >>> (((8 : Int32) * ((7 : Int32) - (2 : Int32))) &&& 0x3f).toInt64.toUInt64).toInt64))).toInt = own_val 249 q.toInt := by
  rw [own_val_9 (by decide) (by decide)]
  have v := own_follow (q := q) (2 : Int32) 40 (by decide) hq0
  generalize ((q.toUInt64 >>> (((8 : Int32) * ((7 : Int32) - (2 : Int32))) &&& 0x3f).toInt64.toUInt64).toInt64) = u at *
  have v1 : u.toInt = q.toInt / 1099511627776 := v
  have c0 : ((6560 : Int64)).toInt = 6560 := rfl
  rw [Jvm.Kit.i64_add (by omega) (by omega), c0, v1]
  omega
set_option maxRecDepth 65536 in
set_option maxHeartbeats 40000000 in
theorem r_exp_9 (l : Launch) (Z : State) (a0 : Array Value) (hw : ∀ d ∈ tables_1, d.before a0 Z = true) (ws : List Jvm.Cond) (s_R s_F s_E s_L : Addr) (cl_R cl_F cl_E : Cell) (k_L : ClassId) (h0 : Heap) (n0 : Nat) (O0 : Old Z n0 h0) (G : own_Ctx Z Z.heap s_R s_F s_E s_L cl_R cl_F cl_E k_L) (q : Int64)  (hq0 : 0 ≤ q.toInt) (hq1 : q.toInt < 72057594037927936) :
    MetFree l (⟨"com/example/rattan/rattan/storage/label/ComponentCodeDecodePinLaw", "expected", "(IJ)J"⟩ : MethodName) (head1 (Jvm.Cond.code (⟨"com/example/rattan/rattan/storage/label/ComponentCodeDecodePinLaw", "expected", "(IJ)J"⟩ : MethodName) method_4_code 5 (some .long) :: ws) ({ frames := 1, cells := 0, slots := 0, locals := 64 } : Room)) (fun a U => a = #[(.int (249 : Int32)), (.long q)] ∧ Z.Warmed39 U.vm ∧ U.heap = h0) (fun _ _ _ _ _ => True) (fun _ U o U' => ∃ v L, o = .returned v ∧ own_Ql (own_val 249 q.toInt) h0 n0 v U'.heap L ∧ FrameEnd U o U' L ({ frames := 1, cells := 0, slots := 0, locals := 64 } : Room).cells ({ frames := 1, cells := 0, slots := 0, locals := 64 } : Room).slots) := by
  have G0 := G
  obtain ⟨S_R, C_R, S_F, C_F, S_E, C_E, S_L, V_L, R_1, R_2, R_3, R_4, R_5, F_0, F_1, F_2, F_3, F_4, F_5, F_6, F_7, F_8, F_9, F_10, F_11, F_12, F_13, F_14, E_0, E_1, E_2, E_3, E_4, E_5, E_6, E_7, E_8, E_9, E_10, E_11, E_12, E_13, E_14⟩ := G
  refine MetFree.of_bodySF (plainFor_of_name pn_0) hisR ?_
  intro p e s m args below meth c s₁ Bd hml0 hP hK
  obtain ⟨rfl, hZ, hh⟩ := hP
  have hx := Bd.exec
  have hby := Bd.bytes
  have hml : c.maxLocals = 5 := hml0
  have hown : s.vm.findClass "com/example/rattan/rattan/storage/label/ComponentCodeDecodePinLaw" = some m.cls := findClass_of_methodNamed Bd.named
  have hnm := (name_of_methodNamed Bd.named Bd.method).1
  have X0 : Stand p l e ({ frames := 1, cells := 0, slots := 0, locals := 64 } : Room) s m #[(.int (249 : Int32)), (.long q)] below meth c s₁ [] 0 0 := Stand.of_body Bd
  have e0 : s₁.heap = h0 := by rw [← hh, Bd.state]; rfl
  have N0 := Fr.nil n0
  have pre0 : ∀ t, Steps p.tables e below (s₁.setTop (mkF m 0 #[.val (.int (249 : Int32)), .val (.long q), .second, .unset, .unset] [])) t → Steps p.tables e below (s₁.setTop (entryFrame m #[(.int (249 : Int32)), (.long q)] 5)) t := fun t k => castTop (ef_1_1 m (249 : Int32) q) k
  obtain ⟨_, _, ⟨T1, L1, k1, n1⟩, -, X1, ⟨Lc1, hQ1, l1, y1, z1⟩, st1⟩ := Jvm.LawKit.callS X0 hx (y := (⟨"com/example/rattan/rattan/storage/label/ComponentCodeDecodePinLaw", "follow", "(JI)J"⟩ : MethodName)) hown (mvT hZ (hw _ (List.mem_of_getElem? (i := 7) rfl))) (mvT hZ (hw _ (List.mem_of_getElem? (i := 8) rfl))) (mvT hZ (hw _ (List.mem_of_getElem? (i := 5) rfl))) (mvT hZ (hw _ (List.mem_of_getElem? (i := 9) rfl))) (by decide) (backOf (W := 0) (r_fol l Z a0 hw [] s_R s_F s_E s_L cl_R cl_F cl_E k_L h0 n0 O0 G0 q (1 : Int32)) hZ (hw _ (List.mem_of_getElem? (i := 9) rfl)) (hw _ (List.mem_of_getElem? (i := 5) rfl)) (by decide) (by decide)) (g := (mkF m 22 #[.val (.int (249 : Int32)), .val (.long q), .second, .unset, .unset] [(.int (1 : Int32)), (.long q)])) rfl (by rw [hml]; rfl) (argsL := [(.long q), (.int (1 : Int32))]) (rest := []) (lenOf pd_0 rfl) rfl (by show 2 * 0 + _ ≤ _; exact Nat.le_of_eq rfl) (hb hby d1_22) (fun _ _ => ⟨rfl, e0, (by decide : 0 + 0 ≤ _), (by decide : 0 + 0 ≤ _)⟩)
  dsimp only [Pt.U, Pt.locs, Pt.cells, Pt.slots] at X1 l1 y1 z1 st1 hQ1
  subst l1 y1 z1
  obtain ⟨rfl, N1q, e1⟩ := hQ1
  have N1 := Fr.app N0 N1q
  obtain ⟨u1, hu1⟩ : ∃ z : Int64, z = ((q.toUInt64 >>> (((8 : Int32) * ((7 : Int32) - (1 : Int32))) &&& 0x3f).toInt64.toUInt64).toInt64) := ⟨_, rfl⟩
  obtain ⟨_, _, ⟨T2, L2, k2, n2⟩, -, X2, ⟨Lc2, hQ2, l2, y2, z2⟩, st2⟩ := Jvm.LawKit.callS X1 hx (y := (⟨"com/example/rattan/rattan/storage/label/ComponentCodeDecodePinLaw", "follow", "(JI)J"⟩ : MethodName)) hown (mvT hZ (hw _ (List.mem_of_getElem? (i := 7) rfl))) (mvT hZ (hw _ (List.mem_of_getElem? (i := 8) rfl))) (mvT hZ (hw _ (List.mem_of_getElem? (i := 5) rfl))) (mvT hZ (hw _ (List.mem_of_getElem? (i := 9) rfl))) (by decide) (backOf (W := 2) (r_fol l Z a0 hw [] s_R s_F s_E s_L cl_R cl_F cl_E k_L h0 n0 O0 G0 q (2 : Int32)) hZ (hw _ (List.mem_of_getElem? (i := 9) rfl)) (hw _ (List.mem_of_getElem? (i := 5) rfl)) (by decide) (by decide)) (g := (mkF m 190 #[.val (.int (249 : Int32)), .val (.long q), .second, .val (.long u1), .second] [(.int (2 : Int32)), (.long q), (.long (6560 : Int64))])) rfl (by rw [hml]; rfl) (argsL := [(.long q), (.int (2 : Int32))]) (rest := [(.long (6560 : Int64))]) (lenOf pd_0 rfl) rfl (by show 2 * 0 + _ ≤ _; exact Nat.le_of_eq rfl) (hb hby d1_190) (fun _ _ => ⟨rfl, e1, (by decide : 0 + 0 ≤ _), (by decide : 0 + 0 ≤ _)⟩)
  dsimp only [Pt.U, Pt.locs, Pt.cells, Pt.slots] at X2 l2 y2 z2 st2 hQ2
  subst l2 y2 z2
  obtain ⟨rfl, N2q, e2⟩ := hQ2
  have N2 := Fr.app N1 N2q
  obtain ⟨fs, hr, hrun, hended, hW, hsame⟩ := X2.leave (v := some (.long ((6560 : Int64) + ((q.toUInt64 >>> (((8 : Int32) * ((7 : Int32) - (2 : Int32))) &&& 0x3f).toInt64.toUInt64).toInt64)))) (fun h => by rw [Bd.returns] at h; cases h)
  refine ⟨_, _, pre0 _ ?_, hrun, hended, _, _, rfl, ?_, ⟨_, rfl⟩, hW, hsame.mono (by decide) (by decide)⟩
  · show Steps p.tables e below (s₁.setTop (mkF m 0 #[.val (.int (249 : Int32)), .val (.long q), .second, .unset, .unset] [])) _
    refine XS.iloadN X0.here hx rfl (hb hby d1_0) rfl ?_
    refine XS.bipush X0.here hx rfl (hb hby d1_1) ?_
    refine XS.icmpNo X0.here hx rfl (hb hby d1_3) rfl (flt (by decide : ¬ ((249 : Int32) < (32 : Int32)))).1 ?_
    show Steps p.tables e below (s₁.setTop (mkF m 6 #[.val (.int (249 : Int32)), .val (.long q), .second, .unset, .unset] [])) _
    refine XS.iloadN X0.here hx rfl (hb hby d1_6) rfl ?_
    refine XS.sipush X0.here hx rfl (hb hby d1_7) ?_
    refine XS.icmpYes X0.here hx rfl (pc0 := 10) (pc' := 20) rfl (hb hby d1_10) rfl (tlt (by decide : (223 : Int32) < (249 : Int32))).2.2.1 (by decide) (by decide) ?_
    show Steps p.tables e below (s₁.setTop (mkF m 20 #[.val (.int (249 : Int32)), .val (.long q), .second, .unset, .unset] [])) _
    refine XS.lloadN X0.here hx rfl (hb hby d1_20) rfl ?_
    refine XS.iconst X0.here hx rfl (hb hby d1_21) ?_
    show Steps p.tables e below (s₁.setTop (mkF m 22 #[.val (.int (249 : Int32)), .val (.long q), .second, .unset, .unset] [(.int (1 : Int32)), (.long q)])) _
    refine st1 _ ?_
    show Steps p.tables e below (T1.setTop (mkF m 25 #[.val (.int (249 : Int32)), .val (.long q), .second, .unset, .unset] [(.long ((q.toUInt64 >>> (((8 : Int32) * ((7 : Int32) - (1 : Int32))) &&& 0x3f).toInt64.toUInt64).toInt64))])) _
    rw [← hu1]
    show Steps p.tables e below (T1.setTop (mkF m 25 #[.val (.int (249 : Int32)), .val (.long q), .second, .unset, .unset] [(.long u1)])) _
    refine XS.lstoreN X1.here hx rfl (hb hby d1_25) rfl (l' := #[.val (.int (249 : Int32)), .val (.long q), .second, .val (.long u1), .second]) rfl ?_
    show Steps p.tables e below (T1.setTop (mkF m 26 #[.val (.int (249 : Int32)), .val (.long q), .second, .val (.long u1), .second] [])) _
    refine XS.iloadN X1.here hx rfl (hb hby d1_26) rfl ?_
    refine XS.bipush X1.here hx rfl (hb hby d1_27) ?_
    refine XS.icmpNo X1.here hx rfl (hb hby d1_29) rfl (flt (by decide : ¬ ((249 : Int32) < (7 : Int32)))).1 ?_
    show Steps p.tables e below (T1.setTop (mkF m 32 #[.val (.int (249 : Int32)), .val (.long q), .second, .val (.long u1), .second] [])) _
    refine XS.iloadN X1.here hx rfl (hb hby d1_32) rfl ?_
    refine XS.bipush X1.here hx rfl (hb hby d1_33) ?_
    refine XS.icmpYes X1.here hx rfl (pc0 := 35) (pc' := 54) rfl (hb hby d1_35) rfl (tlt (by decide : (31 : Int32) < (249 : Int32))).2.2.1 (by decide) (by decide) ?_
    show Steps p.tables e below (T1.setTop (mkF m 54 #[.val (.int (249 : Int32)), .val (.long q), .second, .val (.long u1), .second] [])) _
    refine XS.iloadN X1.here hx rfl (hb hby d1_54) rfl ?_
    refine XS.sipush X1.here hx rfl (hb hby d1_55) ?_
    refine XS.icmpNo X1.here hx rfl (hb hby d1_58) rfl (flt (by decide : ¬ ((249 : Int32) < (224 : Int32)))).1 ?_
    show Steps p.tables e below (T1.setTop (mkF m 61 #[.val (.int (249 : Int32)), .val (.long q), .second, .val (.long u1), .second] [])) _
    refine XS.iloadN X1.here hx rfl (hb hby d1_61) rfl ?_
    refine XS.sipush X1.here hx rfl (hb hby d1_62) ?_
    refine XS.icmpYes X1.here hx rfl (pc0 := 65) (pc' := 85) rfl (hb hby d1_65) rfl (tlt (by decide : (248 : Int32) < (249 : Int32))).2.2.1 (by decide) (by decide) ?_
    show Steps p.tables e below (T1.setTop (mkF m 85 #[.val (.int (249 : Int32)), .val (.long q), .second, .val (.long u1), .second] [])) _
    refine XS.iloadN X1.here hx rfl (hb hby d1_85) rfl ?_
    refine XS.iconst X1.here hx rfl (hb hby d1_86) ?_
    refine XS.icmpYes X1.here hx rfl (pc0 := 87) (pc' := 101) rfl (hb hby d1_87) rfl (feq (by decide : ¬ ((249 : Int32) = (1 : Int32)))).2 (by decide) (by decide) ?_
    show Steps p.tables e below (T1.setTop (mkF m 101 #[.val (.int (249 : Int32)), .val (.long q), .second, .val (.long u1), .second] [])) _
    refine XS.iloadN X1.here hx rfl (hb hby d1_101) rfl ?_
    refine XS.iconst X1.here hx rfl (hb hby d1_102) ?_
    refine XS.icmpYes X1.here hx rfl (pc0 := 103) (pc' := 117) rfl (hb hby d1_103) rfl (feq (by decide : ¬ ((249 : Int32) = (2 : Int32)))).2 (by decide) (by decide) ?_
    show Steps p.tables e below (T1.setTop (mkF m 117 #[.val (.int (249 : Int32)), .val (.long q), .second, .val (.long u1), .second] [])) _
    refine XS.iloadN X1.here hx rfl (hb hby d1_117) rfl ?_
    refine XS.iconst X1.here hx rfl (hb hby d1_118) ?_
    refine XS.icmpYes X1.here hx rfl (pc0 := 119) (pc' := 132) rfl (hb hby d1_119) rfl (feq (by decide : ¬ ((249 : Int32) = (3 : Int32)))).2 (by decide) (by decide) ?_
    show Steps p.tables e below (T1.setTop (mkF m 132 #[.val (.int (249 : Int32)), .val (.long q), .second, .val (.long u1), .second] [])) _
    refine XS.iloadN X1.here hx rfl (hb hby d1_132) rfl ?_
    refine XS.iconst X1.here hx rfl (hb hby d1_133) ?_
    refine XS.icmpYes X1.here hx rfl (pc0 := 134) (pc' := 147) rfl (hb hby d1_134) rfl (feq (by decide : ¬ ((249 : Int32) = (4 : Int32)))).2 (by decide) (by decide) ?_
    show Steps p.tables e below (T1.setTop (mkF m 147 #[.val (.int (249 : Int32)), .val (.long q), .second, .val (.long u1), .second] [])) _
    refine XS.iloadN X1.here hx rfl (hb hby d1_147) rfl ?_
    refine XS.iconst X1.here hx rfl (hb hby d1_148) ?_
    refine XS.icmpYes X1.here hx rfl (pc0 := 149) (pc' := 162) rfl (hb hby d1_149) rfl (feq (by decide : ¬ ((249 : Int32) = (5 : Int32)))).2 (by decide) (by decide) ?_
    show Steps p.tables e below (T1.setTop (mkF m 162 #[.val (.int (249 : Int32)), .val (.long q), .second, .val (.long u1), .second] [])) _
    refine XS.iloadN X1.here hx rfl (hb hby d1_162) rfl ?_
    refine XS.bipush X1.here hx rfl (hb hby d1_163) ?_
    refine XS.icmpYes X1.here hx rfl (pc0 := 165) (pc' := 178) rfl (hb hby d1_165) rfl (feq (by decide : ¬ ((249 : Int32) = (6 : Int32)))).2 (by decide) (by decide) ?_
    show Steps p.tables e below (T1.setTop (mkF m 178 #[.val (.int (249 : Int32)), .val (.long q), .second, .val (.long u1), .second] [])) _
    refine XS.iloadN X1.here hx rfl (hb hby d1_178) rfl ?_
    refine XS.sipush X1.here hx rfl (hb hby d1_179) ?_
    refine XS.icmpNo X1.here hx rfl (hb hby d1_182) rfl (teq (by decide : (249 : Int32) = (249 : Int32))).2 ?_
    show Steps p.tables e below (T1.setTop (mkF m 185 #[.val (.int (249 : Int32)), .val (.long q), .second, .val (.long u1), .second] [])) _
    refine X1.ldc2Long hx hown (mvT hZ (hw _ (List.mem_of_getElem? (i := 32) rfl))) (g := (mkF m 185 #[.val (.int (249 : Int32)), .val (.long q), .second, .val (.long u1), .second] [])) rfl (hb hby d1_185) _ ?_
    show Steps p.tables e below (T1.setTop (mkF m 188 #[.val (.int (249 : Int32)), .val (.long q), .second, .val (.long u1), .second] [(.long (6560 : Int64))])) _
    refine XS.lloadN X1.here hx rfl (hb hby d1_188) rfl ?_
    refine XS.iconst X1.here hx rfl (hb hby d1_189) ?_
    show Steps p.tables e below (T1.setTop (mkF m 190 #[.val (.int (249 : Int32)), .val (.long q), .second, .val (.long u1), .second] [(.int (2 : Int32)), (.long q), (.long (6560 : Int64))])) _
    refine st2 _ ?_
    show Steps p.tables e below (T2.setTop (mkF m 193 #[.val (.int (249 : Int32)), .val (.long q), .second, .val (.long u1), .second] [(.long ((q.toUInt64 >>> (((8 : Int32) * ((7 : Int32) - (2 : Int32))) &&& 0x3f).toInt64.toUInt64).toInt64)), (.long (6560 : Int64))])) _
    refine XS.ladd X2.here hx rfl (hb hby d1_193) rfl ?_
    show Steps p.tables e below (T2.setTop (mkF m 194 #[.val (.int (249 : Int32)), .val (.long q), .second, .val (.long u1), .second] [(.long ((6560 : Int64) + ((q.toUInt64 >>> (((8 : Int32) * ((7 : Int32) - (2 : Int32))) &&& 0x3f).toInt64.toUInt64).toInt64)))])) _
    exact retOut X2 hx Bd.returns rfl (Or.inr (Or.inl ⟨rfl, rfl, _, rfl⟩)) (hb hby d1_194) hr
  · show own_Ql (own_val 249 q.toInt) h0 n0 _ T2.heap _
    rw [e2]
    exact ⟨((6560 : Int64) + ((q.toUInt64 >>> (((8 : Int32) * ((7 : Int32) - (2 : Int32))) &&& 0x3f).toInt64.toUInt64).toInt64)), rfl, N2, rfl, own_e_9 hq0 hq1⟩
theorem d1_195 : decode method_4_code 195 = .ok (.iload_n 0, 1) := by decide +kernel
theorem d1_196 : decode method_4_code 196 = .ok (.sipush 250, 3) := by decide +kernel
theorem d1_199 : decode method_4_code 199 = .ok (.if_icmp .ne 13, 3) := by decide +kernel
theorem d1_202 : decode method_4_code 202 = .ok (.ldc2_w 48, 3) := by decide +kernel
theorem d1_205 : decode method_4_code 205 = .ok (.lload_n 1, 1) := by decide +kernel
theorem d1_206 : decode method_4_code 206 = .ok (.iconst 3, 1) := by decide +kernel
theorem d1_207 : decode method_4_code 207 = .ok (.invokestatic 24, 3) := by decide +kernel
theorem d1_210 : decode method_4_code 210 = .ok (.ladd, 1) := by decide +kernel
theorem d1_211 : decode method_4_code 211 = .ok (.lreturn, 1) := by decide +kernel
theorem own_e_10 {q : Int64} (hq0 : 0 ≤ q.toInt) (hq1 : q.toInt < 72057594037927936) : (((72096 : Int64) + ((q.toUInt64 >>> (((8 : Int32) * ((7 : Int32) - (3 : Int32))) &&& 0x3f).toInt64.toUInt64).toInt64))).toInt = own_val 250 q.toInt := by
  rw [own_val_10 (by decide) (by decide)]
  have v := own_follow (q := q) (3 : Int32) 32 (by decide) hq0
  generalize ((q.toUInt64 >>> (((8 : Int32) * ((7 : Int32) - (3 : Int32))) &&& 0x3f).toInt64.toUInt64).toInt64) = u at *
  have v1 : u.toInt = q.toInt / 4294967296 := v
  have c0 : ((72096 : Int64)).toInt = 72096 := rfl
  rw [Jvm.Kit.i64_add (by omega) (by omega), c0, v1]
  omega
set_option maxRecDepth 65536 in
set_option maxHeartbeats 40000000 in
theorem r_exp_10 (l : Launch) (Z : State) (a0 : Array Value) (hw : ∀ d ∈ tables_1, d.before a0 Z = true) (ws : List Jvm.Cond) (s_R s_F s_E s_L : Addr) (cl_R cl_F cl_E : Cell) (k_L : ClassId) (h0 : Heap) (n0 : Nat) (O0 : Old Z n0 h0) (G : own_Ctx Z Z.heap s_R s_F s_E s_L cl_R cl_F cl_E k_L) (q : Int64)  (hq0 : 0 ≤ q.toInt) (hq1 : q.toInt < 72057594037927936) :
    MetFree l (⟨"com/example/rattan/rattan/storage/label/ComponentCodeDecodePinLaw", "expected", "(IJ)J"⟩ : MethodName) (head1 (Jvm.Cond.code (⟨"com/example/rattan/rattan/storage/label/ComponentCodeDecodePinLaw", "expected", "(IJ)J"⟩ : MethodName) method_4_code 5 (some .long) :: ws) ({ frames := 1, cells := 0, slots := 0, locals := 64 } : Room)) (fun a U => a = #[(.int (250 : Int32)), (.long q)] ∧ Z.Warmed39 U.vm ∧ U.heap = h0) (fun _ _ _ _ _ => True) (fun _ U o U' => ∃ v L, o = .returned v ∧ own_Ql (own_val 250 q.toInt) h0 n0 v U'.heap L ∧ FrameEnd U o U' L ({ frames := 1, cells := 0, slots := 0, locals := 64 } : Room).cells ({ frames := 1, cells := 0, slots := 0, locals := 64 } : Room).slots) := by
  have G0 := G
  obtain ⟨S_R, C_R, S_F, C_F, S_E, C_E, S_L, V_L, R_1, R_2, R_3, R_4, R_5, F_0, F_1, F_2, F_3, F_4, F_5, F_6, F_7, F_8, F_9, F_10, F_11, F_12, F_13, F_14, E_0, E_1, E_2, E_3, E_4, E_5, E_6, E_7, E_8, E_9, E_10, E_11, E_12, E_13, E_14⟩ := G
  refine MetFree.of_bodySF (plainFor_of_name pn_0) hisR ?_
  intro p e s m args below meth c s₁ Bd hml0 hP hK
  obtain ⟨rfl, hZ, hh⟩ := hP
  have hx := Bd.exec
  have hby := Bd.bytes
  have hml : c.maxLocals = 5 := hml0
  have hown : s.vm.findClass "com/example/rattan/rattan/storage/label/ComponentCodeDecodePinLaw" = some m.cls := findClass_of_methodNamed Bd.named
  have hnm := (name_of_methodNamed Bd.named Bd.method).1
  have X0 : Stand p l e ({ frames := 1, cells := 0, slots := 0, locals := 64 } : Room) s m #[(.int (250 : Int32)), (.long q)] below meth c s₁ [] 0 0 := Stand.of_body Bd
  have e0 : s₁.heap = h0 := by rw [← hh, Bd.state]; rfl
  have N0 := Fr.nil n0
  have pre0 : ∀ t, Steps p.tables e below (s₁.setTop (mkF m 0 #[.val (.int (250 : Int32)), .val (.long q), .second, .unset, .unset] [])) t → Steps p.tables e below (s₁.setTop (entryFrame m #[(.int (250 : Int32)), (.long q)] 5)) t := fun t k => castTop (ef_1_1 m (250 : Int32) q) k
  obtain ⟨_, _, ⟨T1, L1, k1, n1⟩, -, X1, ⟨Lc1, hQ1, l1, y1, z1⟩, st1⟩ := Jvm.LawKit.callS X0 hx (y := (⟨"com/example/rattan/rattan/storage/label/ComponentCodeDecodePinLaw", "follow", "(JI)J"⟩ : MethodName)) hown (mvT hZ (hw _ (List.mem_of_getElem? (i := 7) rfl))) (mvT hZ (hw _ (List.mem_of_getElem? (i := 8) rfl))) (mvT hZ (hw _ (List.mem_of_getElem? (i := 5) rfl))) (mvT hZ (hw _ (List.mem_of_getElem? (i := 9) rfl))) (by decide) (backOf (W := 0) (r_fol l Z a0 hw [] s_R s_F s_E s_L cl_R cl_F cl_E k_L h0 n0 O0 G0 q (1 : Int32)) hZ (hw _ (List.mem_of_getElem? (i := 9) rfl)) (hw _ (List.mem_of_getElem? (i := 5) rfl)) (by decide) (by decide)) (g := (mkF m 22 #[.val (.int (250 : Int32)), .val (.long q), .second, .unset, .unset] [(.int (1 : Int32)), (.long q)])) rfl (by rw [hml]; rfl) (argsL := [(.long q), (.int (1 : Int32))]) (rest := []) (lenOf pd_0 rfl) rfl (by show 2 * 0 + _ ≤ _; exact Nat.le_of_eq rfl) (hb hby d1_22) (fun _ _ => ⟨rfl, e0, (by decide : 0 + 0 ≤ _), (by decide : 0 + 0 ≤ _)⟩)
  dsimp only [Pt.U, Pt.locs, Pt.cells, Pt.slots] at X1 l1 y1 z1 st1 hQ1
  subst l1 y1 z1
  obtain ⟨rfl, N1q, e1⟩ := hQ1
  have N1 := Fr.app N0 N1q
  obtain ⟨u1, hu1⟩ : ∃ z : Int64, z = ((q.toUInt64 >>> (((8 : Int32) * ((7 : Int32) - (1 : Int32))) &&& 0x3f).toInt64.toUInt64).toInt64) := ⟨_, rfl⟩
  obtain ⟨_, _, ⟨T2, L2, k2, n2⟩, -, X2, ⟨Lc2, hQ2, l2, y2, z2⟩, st2⟩ := Jvm.LawKit.callS X1 hx (y := (⟨"com/example/rattan/rattan/storage/label/ComponentCodeDecodePinLaw", "follow", "(JI)J"⟩ : MethodName)) hown (mvT hZ (hw _ (List.mem_of_getElem? (i := 7) rfl))) (mvT hZ (hw _ (List.mem_of_getElem? (i := 8) rfl))) (mvT hZ (hw _ (List.mem_of_getElem? (i := 5) rfl))) (mvT hZ (hw _ (List.mem_of_getElem? (i := 9) rfl))) (by decide) (backOf (W := 2) (r_fol l Z a0 hw [] s_R s_F s_E s_L cl_R cl_F cl_E k_L h0 n0 O0 G0 q (3 : Int32)) hZ (hw _ (List.mem_of_getElem? (i := 9) rfl)) (hw _ (List.mem_of_getElem? (i := 5) rfl)) (by decide) (by decide)) (g := (mkF m 207 #[.val (.int (250 : Int32)), .val (.long q), .second, .val (.long u1), .second] [(.int (3 : Int32)), (.long q), (.long (72096 : Int64))])) rfl (by rw [hml]; rfl) (argsL := [(.long q), (.int (3 : Int32))]) (rest := [(.long (72096 : Int64))]) (lenOf pd_0 rfl) rfl (by show 2 * 0 + _ ≤ _; exact Nat.le_of_eq rfl) (hb hby d1_207) (fun _ _ => ⟨rfl, e1, (by decide : 0 + 0 ≤ _), (by decide : 0 + 0 ≤ _)⟩)
  dsimp only [Pt.U, Pt.locs, Pt.cells, Pt.slots] at X2 l2 y2 z2 st2 hQ2
  subst l2 y2 z2
  obtain ⟨rfl, N2q, e2⟩ := hQ2
  have N2 := Fr.app N1 N2q
  obtain ⟨fs, hr, hrun, hended, hW, hsame⟩ := X2.leave (v := some (.long ((72096 : Int64) + ((q.toUInt64 >>> (((8 : Int32) * ((7 : Int32) - (3 : Int32))) &&& 0x3f).toInt64.toUInt64).toInt64)))) (fun h => by rw [Bd.returns] at h; cases h)
  refine ⟨_, _, pre0 _ ?_, hrun, hended, _, _, rfl, ?_, ⟨_, rfl⟩, hW, hsame.mono (by decide) (by decide)⟩
  · show Steps p.tables e below (s₁.setTop (mkF m 0 #[.val (.int (250 : Int32)), .val (.long q), .second, .unset, .unset] [])) _
    refine XS.iloadN X0.here hx rfl (hb hby d1_0) rfl ?_
    refine XS.bipush X0.here hx rfl (hb hby d1_1) ?_
    refine XS.icmpNo X0.here hx rfl (hb hby d1_3) rfl (flt (by decide : ¬ ((250 : Int32) < (32 : Int32)))).1 ?_
    show Steps p.tables e below (s₁.setTop (mkF m 6 #[.val (.int (250 : Int32)), .val (.long q), .second, .unset, .unset] [])) _
    refine XS.iloadN X0.here hx rfl (hb hby d1_6) rfl ?_
    refine XS.sipush X0.here hx rfl (hb hby d1_7) ?_
    refine XS.icmpYes X0.here hx rfl (pc0 := 10) (pc' := 20) rfl (hb hby d1_10) rfl (tlt (by decide : (223 : Int32) < (250 : Int32))).2.2.1 (by decide) (by decide) ?_
    show Steps p.tables e below (s₁.setTop (mkF m 20 #[.val (.int (250 : Int32)), .val (.long q), .second, .unset, .unset] [])) _
    refine XS.lloadN X0.here hx rfl (hb hby d1_20) rfl ?_
    refine XS.iconst X0.here hx rfl (hb hby d1_21) ?_
    show Steps p.tables e below (s₁.setTop (mkF m 22 #[.val (.int (250 : Int32)), .val (.long q), .second, .unset, .unset] [(.int (1 : Int32)), (.long q)])) _
    refine st1 _ ?_
    show Steps p.tables e below (T1.setTop (mkF m 25 #[.val (.int (250 : Int32)), .val (.long q), .second, .unset, .unset] [(.long ((q.toUInt64 >>> (((8 : Int32) * ((7 : Int32) - (1 : Int32))) &&& 0x3f).toInt64.toUInt64).toInt64))])) _
    rw [← hu1]
    show Steps p.tables e below (T1.setTop (mkF m 25 #[.val (.int (250 : Int32)), .val (.long q), .second, .unset, .unset] [(.long u1)])) _
    refine XS.lstoreN X1.here hx rfl (hb hby d1_25) rfl (l' := #[.val (.int (250 : Int32)), .val (.long q), .second, .val (.long u1), .second]) rfl ?_
    show Steps p.tables e below (T1.setTop (mkF m 26 #[.val (.int (250 : Int32)), .val (.long q), .second, .val (.long u1), .second] [])) _
    refine XS.iloadN X1.here hx rfl (hb hby d1_26) rfl ?_
    refine XS.bipush X1.here hx rfl (hb hby d1_27) ?_
    refine XS.icmpNo X1.here hx rfl (hb hby d1_29) rfl (flt (by decide : ¬ ((250 : Int32) < (7 : Int32)))).1 ?_
    show Steps p.tables e below (T1.setTop (mkF m 32 #[.val (.int (250 : Int32)), .val (.long q), .second, .val (.long u1), .second] [])) _
    refine XS.iloadN X1.here hx rfl (hb hby d1_32) rfl ?_
    refine XS.bipush X1.here hx rfl (hb hby d1_33) ?_
    refine XS.icmpYes X1.here hx rfl (pc0 := 35) (pc' := 54) rfl (hb hby d1_35) rfl (tlt (by decide : (31 : Int32) < (250 : Int32))).2.2.1 (by decide) (by decide) ?_
    show Steps p.tables e below (T1.setTop (mkF m 54 #[.val (.int (250 : Int32)), .val (.long q), .second, .val (.long u1), .second] [])) _
    refine XS.iloadN X1.here hx rfl (hb hby d1_54) rfl ?_
    refine XS.sipush X1.here hx rfl (hb hby d1_55) ?_
    refine XS.icmpNo X1.here hx rfl (hb hby d1_58) rfl (flt (by decide : ¬ ((250 : Int32) < (224 : Int32)))).1 ?_
    show Steps p.tables e below (T1.setTop (mkF m 61 #[.val (.int (250 : Int32)), .val (.long q), .second, .val (.long u1), .second] [])) _
    refine XS.iloadN X1.here hx rfl (hb hby d1_61) rfl ?_
    refine XS.sipush X1.here hx rfl (hb hby d1_62) ?_
    refine XS.icmpYes X1.here hx rfl (pc0 := 65) (pc' := 85) rfl (hb hby d1_65) rfl (tlt (by decide : (248 : Int32) < (250 : Int32))).2.2.1 (by decide) (by decide) ?_
    show Steps p.tables e below (T1.setTop (mkF m 85 #[.val (.int (250 : Int32)), .val (.long q), .second, .val (.long u1), .second] [])) _
    refine XS.iloadN X1.here hx rfl (hb hby d1_85) rfl ?_
    refine XS.iconst X1.here hx rfl (hb hby d1_86) ?_
    refine XS.icmpYes X1.here hx rfl (pc0 := 87) (pc' := 101) rfl (hb hby d1_87) rfl (feq (by decide : ¬ ((250 : Int32) = (1 : Int32)))).2 (by decide) (by decide) ?_
    show Steps p.tables e below (T1.setTop (mkF m 101 #[.val (.int (250 : Int32)), .val (.long q), .second, .val (.long u1), .second] [])) _
    refine XS.iloadN X1.here hx rfl (hb hby d1_101) rfl ?_
    refine XS.iconst X1.here hx rfl (hb hby d1_102) ?_
    refine XS.icmpYes X1.here hx rfl (pc0 := 103) (pc' := 117) rfl (hb hby d1_103) rfl (feq (by decide : ¬ ((250 : Int32) = (2 : Int32)))).2 (by decide) (by decide) ?_
    show Steps p.tables e below (T1.setTop (mkF m 117 #[.val (.int (250 : Int32)), .val (.long q), .second, .val (.long u1), .second] [])) _
    refine XS.iloadN X1.here hx rfl (hb hby d1_117) rfl ?_
    refine XS.iconst X1.here hx rfl (hb hby d1_118) ?_
    refine XS.icmpYes X1.here hx rfl (pc0 := 119) (pc' := 132) rfl (hb hby d1_119) rfl (feq (by decide : ¬ ((250 : Int32) = (3 : Int32)))).2 (by decide) (by decide) ?_
    show Steps p.tables e below (T1.setTop (mkF m 132 #[.val (.int (250 : Int32)), .val (.long q), .second, .val (.long u1), .second] [])) _
    refine XS.iloadN X1.here hx rfl (hb hby d1_132) rfl ?_
    refine XS.iconst X1.here hx rfl (hb hby d1_133) ?_
    refine XS.icmpYes X1.here hx rfl (pc0 := 134) (pc' := 147) rfl (hb hby d1_134) rfl (feq (by decide : ¬ ((250 : Int32) = (4 : Int32)))).2 (by decide) (by decide) ?_
    show Steps p.tables e below (T1.setTop (mkF m 147 #[.val (.int (250 : Int32)), .val (.long q), .second, .val (.long u1), .second] [])) _
    refine XS.iloadN X1.here hx rfl (hb hby d1_147) rfl ?_
    refine XS.iconst X1.here hx rfl (hb hby d1_148) ?_
    refine XS.icmpYes X1.here hx rfl (pc0 := 149) (pc' := 162) rfl (hb hby d1_149) rfl (feq (by decide : ¬ ((250 : Int32) = (5 : Int32)))).2 (by decide) (by decide) ?_
    show Steps p.tables e below (T1.setTop (mkF m 162 #[.val (.int (250 : Int32)), .val (.long q), .second, .val (.long u1), .second] [])) _
    refine XS.iloadN X1.here hx rfl (hb hby d1_162) rfl ?_
    refine XS.bipush X1.here hx rfl (hb hby d1_163) ?_
    refine XS.icmpYes X1.here hx rfl (pc0 := 165) (pc' := 178) rfl (hb hby d1_165) rfl (feq (by decide : ¬ ((250 : Int32) = (6 : Int32)))).2 (by decide) (by decide) ?_
    show Steps p.tables e below (T1.setTop (mkF m 178 #[.val (.int (250 : Int32)), .val (.long q), .second, .val (.long u1), .second] [])) _
    refine XS.iloadN X1.here hx rfl (hb hby d1_178) rfl ?_
    refine XS.sipush X1.here hx rfl (hb hby d1_179) ?_
    refine XS.icmpYes X1.here hx rfl (pc0 := 182) (pc' := 195) rfl (hb hby d1_182) rfl (feq (by decide : ¬ ((250 : Int32) = (249 : Int32)))).2 (by decide) (by decide) ?_
    show Steps p.tables e below (T1.setTop (mkF m 195 #[.val (.int (250 : Int32)), .val (.long q), .second, .val (.long u1), .second] [])) _
    refine XS.iloadN X1.here hx rfl (hb hby d1_195) rfl ?_
    refine XS.sipush X1.here hx rfl (hb hby d1_196) ?_
    refine XS.icmpNo X1.here hx rfl (hb hby d1_199) rfl (teq (by decide : (250 : Int32) = (250 : Int32))).2 ?_
    show Steps p.tables e below (T1.setTop (mkF m 202 #[.val (.int (250 : Int32)), .val (.long q), .second, .val (.long u1), .second] [])) _
    refine X1.ldc2Long hx hown (mvT hZ (hw _ (List.mem_of_getElem? (i := 33) rfl))) (g := (mkF m 202 #[.val (.int (250 : Int32)), .val (.long q), .second, .val (.long u1), .second] [])) rfl (hb hby d1_202) _ ?_
    show Steps p.tables e below (T1.setTop (mkF m 205 #[.val (.int (250 : Int32)), .val (.long q), .second, .val (.long u1), .second] [(.long (72096 : Int64))])) _
    refine XS.lloadN X1.here hx rfl (hb hby d1_205) rfl ?_
    refine XS.iconst X1.here hx rfl (hb hby d1_206) ?_
    show Steps p.tables e below (T1.setTop (mkF m 207 #[.val (.int (250 : Int32)), .val (.long q), .second, .val (.long u1), .second] [(.int (3 : Int32)), (.long q), (.long (72096 : Int64))])) _
    refine st2 _ ?_
    show Steps p.tables e below (T2.setTop (mkF m 210 #[.val (.int (250 : Int32)), .val (.long q), .second, .val (.long u1), .second] [(.long ((q.toUInt64 >>> (((8 : Int32) * ((7 : Int32) - (3 : Int32))) &&& 0x3f).toInt64.toUInt64).toInt64)), (.long (72096 : Int64))])) _
    refine XS.ladd X2.here hx rfl (hb hby d1_210) rfl ?_
    show Steps p.tables e below (T2.setTop (mkF m 211 #[.val (.int (250 : Int32)), .val (.long q), .second, .val (.long u1), .second] [(.long ((72096 : Int64) + ((q.toUInt64 >>> (((8 : Int32) * ((7 : Int32) - (3 : Int32))) &&& 0x3f).toInt64.toUInt64).toInt64)))])) _
    exact retOut X2 hx Bd.returns rfl (Or.inr (Or.inl ⟨rfl, rfl, _, rfl⟩)) (hb hby d1_211) hr
  · show own_Ql (own_val 250 q.toInt) h0 n0 _ T2.heap _
    rw [e2]
    exact ⟨((72096 : Int64) + ((q.toUInt64 >>> (((8 : Int32) * ((7 : Int32) - (3 : Int32))) &&& 0x3f).toInt64.toUInt64).toInt64)), rfl, N2, rfl, own_e_10 hq0 hq1⟩
theorem d1_212 : decode method_4_code 212 = .ok (.iload_n 0, 1) := by decide +kernel
theorem d1_213 : decode method_4_code 213 = .ok (.sipush 251, 3) := by decide +kernel
theorem d1_216 : decode method_4_code 216 = .ok (.if_icmp .ne 13, 3) := by decide +kernel
theorem d1_219 : decode method_4_code 219 = .ok (.ldc2_w 50, 3) := by decide +kernel
theorem d1_222 : decode method_4_code 222 = .ok (.lload_n 1, 1) := by decide +kernel
theorem d1_223 : decode method_4_code 223 = .ok (.iconst 4, 1) := by decide +kernel
theorem d1_224 : decode method_4_code 224 = .ok (.invokestatic 24, 3) := by decide +kernel
theorem d1_227 : decode method_4_code 227 = .ok (.ladd, 1) := by decide +kernel
theorem d1_228 : decode method_4_code 228 = .ok (.lreturn, 1) := by decide +kernel
theorem own_e_11 {q : Int64} (hq0 : 0 ≤ q.toInt) (hq1 : q.toInt < 72057594037927936) : (((16849312 : Int64) + ((q.toUInt64 >>> (((8 : Int32) * ((7 : Int32) - (4 : Int32))) &&& 0x3f).toInt64.toUInt64).toInt64))).toInt = own_val 251 q.toInt := by
  rw [own_val_11 (by decide) (by decide)]
  have v := own_follow (q := q) (4 : Int32) 24 (by decide) hq0
  generalize ((q.toUInt64 >>> (((8 : Int32) * ((7 : Int32) - (4 : Int32))) &&& 0x3f).toInt64.toUInt64).toInt64) = u at *
  have v1 : u.toInt = q.toInt / 16777216 := v
  have c0 : ((16849312 : Int64)).toInt = 16849312 := rfl
  rw [Jvm.Kit.i64_add (by omega) (by omega), c0, v1]
  omega
set_option maxRecDepth 65536 in
set_option maxHeartbeats 40000000 in
theorem r_exp_11 (l : Launch) (Z : State) (a0 : Array Value) (hw : ∀ d ∈ tables_1, d.before a0 Z = true) (ws : List Jvm.Cond) (s_R s_F s_E s_L : Addr) (cl_R cl_F cl_E : Cell) (k_L : ClassId) (h0 : Heap) (n0 : Nat) (O0 : Old Z n0 h0) (G : own_Ctx Z Z.heap s_R s_F s_E s_L cl_R cl_F cl_E k_L) (q : Int64)  (hq0 : 0 ≤ q.toInt) (hq1 : q.toInt < 72057594037927936) :
    MetFree l (⟨"com/example/rattan/rattan/storage/label/ComponentCodeDecodePinLaw", "expected", "(IJ)J"⟩ : MethodName) (head1 (Jvm.Cond.code (⟨"com/example/rattan/rattan/storage/label/ComponentCodeDecodePinLaw", "expected", "(IJ)J"⟩ : MethodName) method_4_code 5 (some .long) :: ws) ({ frames := 1, cells := 0, slots := 0, locals := 64 } : Room)) (fun a U => a = #[(.int (251 : Int32)), (.long q)] ∧ Z.Warmed39 U.vm ∧ U.heap = h0) (fun _ _ _ _ _ => True) (fun _ U o U' => ∃ v L, o = .returned v ∧ own_Ql (own_val 251 q.toInt) h0 n0 v U'.heap L ∧ FrameEnd U o U' L ({ frames := 1, cells := 0, slots := 0, locals := 64 } : Room).cells ({ frames := 1, cells := 0, slots := 0, locals := 64 } : Room).slots) := by
  have G0 := G
  obtain ⟨S_R, C_R, S_F, C_F, S_E, C_E, S_L, V_L, R_1, R_2, R_3, R_4, R_5, F_0, F_1, F_2, F_3, F_4, F_5, F_6, F_7, F_8, F_9, F_10, F_11, F_12, F_13, F_14, E_0, E_1, E_2, E_3, E_4, E_5, E_6, E_7, E_8, E_9, E_10, E_11, E_12, E_13, E_14⟩ := G
  refine MetFree.of_bodySF (plainFor_of_name pn_0) hisR ?_
  intro p e s m args below meth c s₁ Bd hml0 hP hK
  obtain ⟨rfl, hZ, hh⟩ := hP
  have hx := Bd.exec
  have hby := Bd.bytes
  have hml : c.maxLocals = 5 := hml0
  have hown : s.vm.findClass "com/example/rattan/rattan/storage/label/ComponentCodeDecodePinLaw" = some m.cls := findClass_of_methodNamed Bd.named
  have hnm := (name_of_methodNamed Bd.named Bd.method).1
  have X0 : Stand p l e ({ frames := 1, cells := 0, slots := 0, locals := 64 } : Room) s m #[(.int (251 : Int32)), (.long q)] below meth c s₁ [] 0 0 := Stand.of_body Bd
  have e0 : s₁.heap = h0 := by rw [← hh, Bd.state]; rfl
  have N0 := Fr.nil n0
  have pre0 : ∀ t, Steps p.tables e below (s₁.setTop (mkF m 0 #[.val (.int (251 : Int32)), .val (.long q), .second, .unset, .unset] [])) t → Steps p.tables e below (s₁.setTop (entryFrame m #[(.int (251 : Int32)), (.long q)] 5)) t := fun t k => castTop (ef_1_1 m (251 : Int32) q) k
  obtain ⟨_, _, ⟨T1, L1, k1, n1⟩, -, X1, ⟨Lc1, hQ1, l1, y1, z1⟩, st1⟩ := Jvm.LawKit.callS X0 hx (y := (⟨"com/example/rattan/rattan/storage/label/ComponentCodeDecodePinLaw", "follow", "(JI)J"⟩ : MethodName)) hown (mvT hZ (hw _ (List.mem_of_getElem? (i := 7) rfl))) (mvT hZ (hw _ (List.mem_of_getElem? (i := 8) rfl))) (mvT hZ (hw _ (List.mem_of_getElem? (i := 5) rfl))) (mvT hZ (hw _ (List.mem_of_getElem? (i := 9) rfl))) (by decide) (backOf (W := 0) (r_fol l Z a0 hw [] s_R s_F s_E s_L cl_R cl_F cl_E k_L h0 n0 O0 G0 q (1 : Int32)) hZ (hw _ (List.mem_of_getElem? (i := 9) rfl)) (hw _ (List.mem_of_getElem? (i := 5) rfl)) (by decide) (by decide)) (g := (mkF m 22 #[.val (.int (251 : Int32)), .val (.long q), .second, .unset, .unset] [(.int (1 : Int32)), (.long q)])) rfl (by rw [hml]; rfl) (argsL := [(.long q), (.int (1 : Int32))]) (rest := []) (lenOf pd_0 rfl) rfl (by show 2 * 0 + _ ≤ _; exact Nat.le_of_eq rfl) (hb hby d1_22) (fun _ _ => ⟨rfl, e0, (by decide : 0 + 0 ≤ _), (by decide : 0 + 0 ≤ _)⟩)
  dsimp only [Pt.U, Pt.locs, Pt.cells, Pt.slots] at X1 l1 y1 z1 st1 hQ1
  subst l1 y1 z1
  obtain ⟨rfl, N1q, e1⟩ := hQ1
  have N1 := Fr.app N0 N1q
  obtain ⟨u1, hu1⟩ : ∃ z : Int64, z = ((q.toUInt64 >>> (((8 : Int32) * ((7 : Int32) - (1 : Int32))) &&& 0x3f).toInt64.toUInt64).toInt64) := ⟨_, rfl⟩
  obtain ⟨_, _, ⟨T2, L2, k2, n2⟩, -, X2, ⟨Lc2, hQ2, l2, y2, z2⟩, st2⟩ := Jvm.LawKit.callS X1 hx (y := (⟨"com/example/rattan/rattan/storage/label/ComponentCodeDecodePinLaw", "follow", "(JI)J"⟩ : MethodName)) hown (mvT hZ (hw _ (List.mem_of_getElem? (i := 7) rfl))) (mvT hZ (hw _ (List.mem_of_getElem? (i := 8) rfl))) (mvT hZ (hw _ (List.mem_of_getElem? (i := 5) rfl))) (mvT hZ (hw _ (List.mem_of_getElem? (i := 9) rfl))) (by decide) (backOf (W := 2) (r_fol l Z a0 hw [] s_R s_F s_E s_L cl_R cl_F cl_E k_L h0 n0 O0 G0 q (4 : Int32)) hZ (hw _ (List.mem_of_getElem? (i := 9) rfl)) (hw _ (List.mem_of_getElem? (i := 5) rfl)) (by decide) (by decide)) (g := (mkF m 224 #[.val (.int (251 : Int32)), .val (.long q), .second, .val (.long u1), .second] [(.int (4 : Int32)), (.long q), (.long (16849312 : Int64))])) rfl (by rw [hml]; rfl) (argsL := [(.long q), (.int (4 : Int32))]) (rest := [(.long (16849312 : Int64))]) (lenOf pd_0 rfl) rfl (by show 2 * 0 + _ ≤ _; exact Nat.le_of_eq rfl) (hb hby d1_224) (fun _ _ => ⟨rfl, e1, (by decide : 0 + 0 ≤ _), (by decide : 0 + 0 ≤ _)⟩)
  dsimp only [Pt.U, Pt.locs, Pt.cells, Pt.slots] at X2 l2 y2 z2 st2 hQ2
  subst l2 y2 z2
  obtain ⟨rfl, N2q, e2⟩ := hQ2
  have N2 := Fr.app N1 N2q
  obtain ⟨fs, hr, hrun, hended, hW, hsame⟩ := X2.leave (v := some (.long ((16849312 : Int64) + ((q.toUInt64 >>> (((8 : Int32) * ((7 : Int32) - (4 : Int32))) &&& 0x3f).toInt64.toUInt64).toInt64)))) (fun h => by rw [Bd.returns] at h; cases h)
  refine ⟨_, _, pre0 _ ?_, hrun, hended, _, _, rfl, ?_, ⟨_, rfl⟩, hW, hsame.mono (by decide) (by decide)⟩
  · show Steps p.tables e below (s₁.setTop (mkF m 0 #[.val (.int (251 : Int32)), .val (.long q), .second, .unset, .unset] [])) _
    refine XS.iloadN X0.here hx rfl (hb hby d1_0) rfl ?_
    refine XS.bipush X0.here hx rfl (hb hby d1_1) ?_
    refine XS.icmpNo X0.here hx rfl (hb hby d1_3) rfl (flt (by decide : ¬ ((251 : Int32) < (32 : Int32)))).1 ?_
    show Steps p.tables e below (s₁.setTop (mkF m 6 #[.val (.int (251 : Int32)), .val (.long q), .second, .unset, .unset] [])) _
    refine XS.iloadN X0.here hx rfl (hb hby d1_6) rfl ?_
    refine XS.sipush X0.here hx rfl (hb hby d1_7) ?_
    refine XS.icmpYes X0.here hx rfl (pc0 := 10) (pc' := 20) rfl (hb hby d1_10) rfl (tlt (by decide : (223 : Int32) < (251 : Int32))).2.2.1 (by decide) (by decide) ?_
    show Steps p.tables e below (s₁.setTop (mkF m 20 #[.val (.int (251 : Int32)), .val (.long q), .second, .unset, .unset] [])) _
    refine XS.lloadN X0.here hx rfl (hb hby d1_20) rfl ?_
    refine XS.iconst X0.here hx rfl (hb hby d1_21) ?_
    show Steps p.tables e below (s₁.setTop (mkF m 22 #[.val (.int (251 : Int32)), .val (.long q), .second, .unset, .unset] [(.int (1 : Int32)), (.long q)])) _
    refine st1 _ ?_
    show Steps p.tables e below (T1.setTop (mkF m 25 #[.val (.int (251 : Int32)), .val (.long q), .second, .unset, .unset] [(.long ((q.toUInt64 >>> (((8 : Int32) * ((7 : Int32) - (1 : Int32))) &&& 0x3f).toInt64.toUInt64).toInt64))])) _
    rw [← hu1]
    show Steps p.tables e below (T1.setTop (mkF m 25 #[.val (.int (251 : Int32)), .val (.long q), .second, .unset, .unset] [(.long u1)])) _
    refine XS.lstoreN X1.here hx rfl (hb hby d1_25) rfl (l' := #[.val (.int (251 : Int32)), .val (.long q), .second, .val (.long u1), .second]) rfl ?_
    show Steps p.tables e below (T1.setTop (mkF m 26 #[.val (.int (251 : Int32)), .val (.long q), .second, .val (.long u1), .second] [])) _
    refine XS.iloadN X1.here hx rfl (hb hby d1_26) rfl ?_
    refine XS.bipush X1.here hx rfl (hb hby d1_27) ?_
    refine XS.icmpNo X1.here hx rfl (hb hby d1_29) rfl (flt (by decide : ¬ ((251 : Int32) < (7 : Int32)))).1 ?_
    show Steps p.tables e below (T1.setTop (mkF m 32 #[.val (.int (251 : Int32)), .val (.long q), .second, .val (.long u1), .second] [])) _
    refine XS.iloadN X1.here hx rfl (hb hby d1_32) rfl ?_
    refine XS.bipush X1.here hx rfl (hb hby d1_33) ?_
    refine XS.icmpYes X1.here hx rfl (pc0 := 35) (pc' := 54) rfl (hb hby d1_35) rfl (tlt (by decide : (31 : Int32) < (251 : Int32))).2.2.1 (by decide) (by decide) ?_
    show Steps p.tables e below (T1.setTop (mkF m 54 #[.val (.int (251 : Int32)), .val (.long q), .second, .val (.long u1), .second] [])) _
    refine XS.iloadN X1.here hx rfl (hb hby d1_54) rfl ?_
    refine XS.sipush X1.here hx rfl (hb hby d1_55) ?_
    refine XS.icmpNo X1.here hx rfl (hb hby d1_58) rfl (flt (by decide : ¬ ((251 : Int32) < (224 : Int32)))).1 ?_
    show Steps p.tables e below (T1.setTop (mkF m 61 #[.val (.int (251 : Int32)), .val (.long q), .second, .val (.long u1), .second] [])) _
    refine XS.iloadN X1.here hx rfl (hb hby d1_61) rfl ?_
    refine XS.sipush X1.here hx rfl (hb hby d1_62) ?_
    refine XS.icmpYes X1.here hx rfl (pc0 := 65) (pc' := 85) rfl (hb hby d1_65) rfl (tlt (by decide : (248 : Int32) < (251 : Int32))).2.2.1 (by decide) (by decide) ?_
    show Steps p.tables e below (T1.setTop (mkF m 85 #[.val (.int (251 : Int32)), .val (.long q), .second, .val (.long u1), .second] [])) _
    refine XS.iloadN X1.here hx rfl (hb hby d1_85) rfl ?_
    refine XS.iconst X1.here hx rfl (hb hby d1_86) ?_
    refine XS.icmpYes X1.here hx rfl (pc0 := 87) (pc' := 101) rfl (hb hby d1_87) rfl (feq (by decide : ¬ ((251 : Int32) = (1 : Int32)))).2 (by decide) (by decide) ?_
    show Steps p.tables e below (T1.setTop (mkF m 101 #[.val (.int (251 : Int32)), .val (.long q), .second, .val (.long u1), .second] [])) _
    refine XS.iloadN X1.here hx rfl (hb hby d1_101) rfl ?_
    refine XS.iconst X1.here hx rfl (hb hby d1_102) ?_
    refine XS.icmpYes X1.here hx rfl (pc0 := 103) (pc' := 117) rfl (hb hby d1_103) rfl (feq (by decide : ¬ ((251 : Int32) = (2 : Int32)))).2 (by decide) (by decide) ?_
    show Steps p.tables e below (T1.setTop (mkF m 117 #[.val (.int (251 : Int32)), .val (.long q), .second, .val (.long u1), .second] [])) _
    refine XS.iloadN X1.here hx rfl (hb hby d1_117) rfl ?_
    refine XS.iconst X1.here hx rfl (hb hby d1_118) ?_
    refine XS.icmpYes X1.here hx rfl (pc0 := 119) (pc' := 132) rfl (hb hby d1_119) rfl (feq (by decide : ¬ ((251 : Int32) = (3 : Int32)))).2 (by decide) (by decide) ?_
    show Steps p.tables e below (T1.setTop (mkF m 132 #[.val (.int (251 : Int32)), .val (.long q), .second, .val (.long u1), .second] [])) _
    refine XS.iloadN X1.here hx rfl (hb hby d1_132) rfl ?_
    refine XS.iconst X1.here hx rfl (hb hby d1_133) ?_
    refine XS.icmpYes X1.here hx rfl (pc0 := 134) (pc' := 147) rfl (hb hby d1_134) rfl (feq (by decide : ¬ ((251 : Int32) = (4 : Int32)))).2 (by decide) (by decide) ?_
    show Steps p.tables e below (T1.setTop (mkF m 147 #[.val (.int (251 : Int32)), .val (.long q), .second, .val (.long u1), .second] [])) _
    refine XS.iloadN X1.here hx rfl (hb hby d1_147) rfl ?_
    refine XS.iconst X1.here hx rfl (hb hby d1_148) ?_
    refine XS.icmpYes X1.here hx rfl (pc0 := 149) (pc' := 162) rfl (hb hby d1_149) rfl (feq (by decide : ¬ ((251 : Int32) = (5 : Int32)))).2 (by decide) (by decide) ?_
    show Steps p.tables e below (T1.setTop (mkF m 162 #[.val (.int (251 : Int32)), .val (.long q), .second, .val (.long u1), .second] [])) _
    refine XS.iloadN X1.here hx rfl (hb hby d1_162) rfl ?_
    refine XS.bipush X1.here hx rfl (hb hby d1_163) ?_
    refine XS.icmpYes X1.here hx rfl (pc0 := 165) (pc' := 178) rfl (hb hby d1_165) rfl (feq (by decide : ¬ ((251 : Int32) = (6 : Int32)))).2 (by decide) (by decide) ?_
    show Steps p.tables e below (T1.setTop (mkF m 178 #[.val (.int (251 : Int32)), .val (.long q), .second, .val (.long u1), .second] [])) _
    refine XS.iloadN X1.here hx rfl (hb hby d1_178) rfl ?_
    refine XS.sipush X1.here hx rfl (hb hby d1_179) ?_
    refine XS.icmpYes X1.here hx rfl (pc0 := 182) (pc' := 195) rfl (hb hby d1_182) rfl (feq (by decide : ¬ ((251 : Int32) = (249 : Int32)))).2 (by decide) (by decide) ?_
    show Steps p.tables e below (T1.setTop (mkF m 195 #[.val (.int (251 : Int32)), .val (.long q), .second, .val (.long u1), .second] [])) _
    refine XS.iloadN X1.here hx rfl (hb hby d1_195) rfl ?_
    refine XS.sipush X1.here hx rfl (hb hby d1_196) ?_
    refine XS.icmpYes X1.here hx rfl (pc0 := 199) (pc' := 212) rfl (hb hby d1_199) rfl (feq (by decide : ¬ ((251 : Int32) = (250 : Int32)))).2 (by decide) (by decide) ?_
    show Steps p.tables e below (T1.setTop (mkF m 212 #[.val (.int (251 : Int32)), .val (.long q), .second, .val (.long u1), .second] [])) _
    refine XS.iloadN X1.here hx rfl (hb hby d1_212) rfl ?_
    refine XS.sipush X1.here hx rfl (hb hby d1_213) ?_
    refine XS.icmpNo X1.here hx rfl (hb hby d1_216) rfl (teq (by decide : (251 : Int32) = (251 : Int32))).2 ?_
    show Steps p.tables e below (T1.setTop (mkF m 219 #[.val (.int (251 : Int32)), .val (.long q), .second, .val (.long u1), .second] [])) _
    refine X1.ldc2Long hx hown (mvT hZ (hw _ (List.mem_of_getElem? (i := 35) rfl))) (g := (mkF m 219 #[.val (.int (251 : Int32)), .val (.long q), .second, .val (.long u1), .second] [])) rfl (hb hby d1_219) _ ?_
    show Steps p.tables e below (T1.setTop (mkF m 222 #[.val (.int (251 : Int32)), .val (.long q), .second, .val (.long u1), .second] [(.long (16849312 : Int64))])) _
    refine XS.lloadN X1.here hx rfl (hb hby d1_222) rfl ?_
    refine XS.iconst X1.here hx rfl (hb hby d1_223) ?_
    show Steps p.tables e below (T1.setTop (mkF m 224 #[.val (.int (251 : Int32)), .val (.long q), .second, .val (.long u1), .second] [(.int (4 : Int32)), (.long q), (.long (16849312 : Int64))])) _
    refine st2 _ ?_
    show Steps p.tables e below (T2.setTop (mkF m 227 #[.val (.int (251 : Int32)), .val (.long q), .second, .val (.long u1), .second] [(.long ((q.toUInt64 >>> (((8 : Int32) * ((7 : Int32) - (4 : Int32))) &&& 0x3f).toInt64.toUInt64).toInt64)), (.long (16849312 : Int64))])) _
    refine XS.ladd X2.here hx rfl (hb hby d1_227) rfl ?_
    show Steps p.tables e below (T2.setTop (mkF m 228 #[.val (.int (251 : Int32)), .val (.long q), .second, .val (.long u1), .second] [(.long ((16849312 : Int64) + ((q.toUInt64 >>> (((8 : Int32) * ((7 : Int32) - (4 : Int32))) &&& 0x3f).toInt64.toUInt64).toInt64)))])) _
    exact retOut X2 hx Bd.returns rfl (Or.inr (Or.inl ⟨rfl, rfl, _, rfl⟩)) (hb hby d1_228) hr
  · show own_Ql (own_val 251 q.toInt) h0 n0 _ T2.heap _
    rw [e2]
    exact ⟨((16849312 : Int64) + ((q.toUInt64 >>> (((8 : Int32) * ((7 : Int32) - (4 : Int32))) &&& 0x3f).toInt64.toUInt64).toInt64)), rfl, N2, rfl, own_e_11 hq0 hq1⟩
theorem d1_229 : decode method_4_code 229 = .ok (.iload_n 0, 1) := by decide +kernel
theorem d1_230 : decode method_4_code 230 = .ok (.sipush 252, 3) := by decide +kernel
theorem d1_233 : decode method_4_code 233 = .ok (.if_icmp .ne 13, 3) := by decide +kernel
theorem d1_236 : decode method_4_code 236 = .ok (.ldc2_w 52, 3) := by decide +kernel
theorem d1_239 : decode method_4_code 239 = .ok (.lload_n 1, 1) := by decide +kernel
theorem d1_240 : decode method_4_code 240 = .ok (.iconst 5, 1) := by decide +kernel
theorem d1_241 : decode method_4_code 241 = .ok (.invokestatic 24, 3) := by decide +kernel
theorem d1_244 : decode method_4_code 244 = .ok (.ladd, 1) := by decide +kernel
theorem d1_245 : decode method_4_code 245 = .ok (.lreturn, 1) := by decide +kernel
theorem own_e_12 {q : Int64} (hq0 : 0 ≤ q.toInt) (hq1 : q.toInt < 72057594037927936) : (((4311816608 : Int64) + ((q.toUInt64 >>> (((8 : Int32) * ((7 : Int32) - (5 : Int32))) &&& 0x3f).toInt64.toUInt64).toInt64))).toInt = own_val 252 q.toInt := by
  rw [own_val_12 (by decide) (by decide)]
  have v := own_follow (q := q) (5 : Int32) 16 (by decide) hq0
  generalize ((q.toUInt64 >>> (((8 : Int32) * ((7 : Int32) - (5 : Int32))) &&& 0x3f).toInt64.toUInt64).toInt64) = u at *
  have v1 : u.toInt = q.toInt / 65536 := v
  have c0 : ((4311816608 : Int64)).toInt = 4311816608 := rfl
  rw [Jvm.Kit.i64_add (by omega) (by omega), c0, v1]
  omega
set_option maxRecDepth 65536 in
set_option maxHeartbeats 40000000 in
theorem r_exp_12 (l : Launch) (Z : State) (a0 : Array Value) (hw : ∀ d ∈ tables_1, d.before a0 Z = true) (ws : List Jvm.Cond) (s_R s_F s_E s_L : Addr) (cl_R cl_F cl_E : Cell) (k_L : ClassId) (h0 : Heap) (n0 : Nat) (O0 : Old Z n0 h0) (G : own_Ctx Z Z.heap s_R s_F s_E s_L cl_R cl_F cl_E k_L) (q : Int64)  (hq0 : 0 ≤ q.toInt) (hq1 : q.toInt < 72057594037927936) :
    MetFree l (⟨"com/example/rattan/rattan/storage/label/ComponentCodeDecodePinLaw", "expected", "(IJ)J"⟩ : MethodName) (head1 (Jvm.Cond.code (⟨"com/example/rattan/rattan/storage/label/ComponentCodeDecodePinLaw", "expected", "(IJ)J"⟩ : MethodName) method_4_code 5 (some .long) :: ws) ({ frames := 1, cells := 0, slots := 0, locals := 64 } : Room)) (fun a U => a = #[(.int (252 : Int32)), (.long q)] ∧ Z.Warmed39 U.vm ∧ U.heap = h0) (fun _ _ _ _ _ => True) (fun _ U o U' => ∃ v L, o = .returned v ∧ own_Ql (own_val 252 q.toInt) h0 n0 v U'.heap L ∧ FrameEnd U o U' L ({ frames := 1, cells := 0, slots := 0, locals := 64 } : Room).cells ({ frames := 1, cells := 0, slots := 0, locals := 64 } : Room).slots) := by
  have G0 := G
  obtain ⟨S_R, C_R, S_F, C_F, S_E, C_E, S_L, V_L, R_1, R_2, R_3, R_4, R_5, F_0, F_1, F_2, F_3, F_4, F_5, F_6, F_7, F_8, F_9, F_10, F_11, F_12, F_13, F_14, E_0, E_1, E_2, E_3, E_4, E_5, E_6, E_7, E_8, E_9, E_10, E_11, E_12, E_13, E_14⟩ := G
  refine MetFree.of_bodySF (plainFor_of_name pn_0) hisR ?_
  intro p e s m args below meth c s₁ Bd hml0 hP hK
  obtain ⟨rfl, hZ, hh⟩ := hP
  have hx := Bd.exec
  have hby := Bd.bytes
  have hml : c.maxLocals = 5 := hml0
  have hown : s.vm.findClass "com/example/rattan/rattan/storage/label/ComponentCodeDecodePinLaw" = some m.cls := findClass_of_methodNamed Bd.named
  have hnm := (name_of_methodNamed Bd.named Bd.method).1
  have X0 : Stand p l e ({ frames := 1, cells := 0, slots := 0, locals := 64 } : Room) s m #[(.int (252 : Int32)), (.long q)] below meth c s₁ [] 0 0 := Stand.of_body Bd
  have e0 : s₁.heap = h0 := by rw [← hh, Bd.state]; rfl
  have N0 := Fr.nil n0
  have pre0 : ∀ t, Steps p.tables e below (s₁.setTop (mkF m 0 #[.val (.int (252 : Int32)), .val (.long q), .second, .unset, .unset] [])) t → Steps p.tables e below (s₁.setTop (entryFrame m #[(.int (252 : Int32)), (.long q)] 5)) t := fun t k => castTop (ef_1_1 m (252 : Int32) q) k
  obtain ⟨_, _, ⟨T1, L1, k1, n1⟩, -, X1, ⟨Lc1, hQ1, l1, y1, z1⟩, st1⟩ := Jvm.LawKit.callS X0 hx (y := (⟨"com/example/rattan/rattan/storage/label/ComponentCodeDecodePinLaw", "follow", "(JI)J"⟩ : MethodName)) hown (mvT hZ (hw _ (List.mem_of_getElem? (i := 7) rfl))) (mvT hZ (hw _ (List.mem_of_getElem? (i := 8) rfl))) (mvT hZ (hw _ (List.mem_of_getElem? (i := 5) rfl))) (mvT hZ (hw _ (List.mem_of_getElem? (i := 9) rfl))) (by decide) (backOf (W := 0) (r_fol l Z a0 hw [] s_R s_F s_E s_L cl_R cl_F cl_E k_L h0 n0 O0 G0 q (1 : Int32)) hZ (hw _ (List.mem_of_getElem? (i := 9) rfl)) (hw _ (List.mem_of_getElem? (i := 5) rfl)) (by decide) (by decide)) (g := (mkF m 22 #[.val (.int (252 : Int32)), .val (.long q), .second, .unset, .unset] [(.int (1 : Int32)), (.long q)])) rfl (by rw [hml]; rfl) (argsL := [(.long q), (.int (1 : Int32))]) (rest := []) (lenOf pd_0 rfl) rfl (by show 2 * 0 + _ ≤ _; exact Nat.le_of_eq rfl) (hb hby d1_22) (fun _ _ => ⟨rfl, e0, (by decide : 0 + 0 ≤ _), (by decide : 0 + 0 ≤ _)⟩)
  dsimp only [Pt.U, Pt.locs, Pt.cells, Pt.slots] at X1 l1 y1 z1 st1 hQ1
  subst l1 y1 z1
  obtain ⟨rfl, N1q, e1⟩ := hQ1
  have N1 := Fr.app N0 N1q
  obtain ⟨u1, hu1⟩ : ∃ z : Int64, z = ((q.toUInt64 >>> (((8 : Int32) * ((7 : Int32) - (1 : Int32))) &&& 0x3f).toInt64.toUInt64).toInt64) := ⟨_, rfl⟩
  obtain ⟨_, _, ⟨T2, L2, k2, n2⟩, -, X2, ⟨Lc2, hQ2, l2, y2, z2⟩, st2⟩ := Jvm.LawKit.callS X1 hx (y := (⟨"com/example/rattan/rattan/storage/label/ComponentCodeDecodePinLaw", "follow", "(JI)J"⟩ : MethodName)) hown (mvT hZ (hw _ (List.mem_of_getElem? (i := 7) rfl))) (mvT hZ (hw _ (List.mem_of_getElem? (i := 8) rfl))) (mvT hZ (hw _ (List.mem_of_getElem? (i := 5) rfl))) (mvT hZ (hw _ (List.mem_of_getElem? (i := 9) rfl))) (by decide) (backOf (W := 2) (r_fol l Z a0 hw [] s_R s_F s_E s_L cl_R cl_F cl_E k_L h0 n0 O0 G0 q (5 : Int32)) hZ (hw _ (List.mem_of_getElem? (i := 9) rfl)) (hw _ (List.mem_of_getElem? (i := 5) rfl)) (by decide) (by decide)) (g := (mkF m 241 #[.val (.int (252 : Int32)), .val (.long q), .second, .val (.long u1), .second] [(.int (5 : Int32)), (.long q), (.long (4311816608 : Int64))])) rfl (by rw [hml]; rfl) (argsL := [(.long q), (.int (5 : Int32))]) (rest := [(.long (4311816608 : Int64))]) (lenOf pd_0 rfl) rfl (by show 2 * 0 + _ ≤ _; exact Nat.le_of_eq rfl) (hb hby d1_241) (fun _ _ => ⟨rfl, e1, (by decide : 0 + 0 ≤ _), (by decide : 0 + 0 ≤ _)⟩)
  dsimp only [Pt.U, Pt.locs, Pt.cells, Pt.slots] at X2 l2 y2 z2 st2 hQ2
  subst l2 y2 z2
  obtain ⟨rfl, N2q, e2⟩ := hQ2
  have N2 := Fr.app N1 N2q
  obtain ⟨fs, hr, hrun, hended, hW, hsame⟩ := X2.leave (v := some (.long ((4311816608 : Int64) + ((q.toUInt64 >>> (((8 : Int32) * ((7 : Int32) - (5 : Int32))) &&& 0x3f).toInt64.toUInt64).toInt64)))) (fun h => by rw [Bd.returns] at h; cases h)
  refine ⟨_, _, pre0 _ ?_, hrun, hended, _, _, rfl, ?_, ⟨_, rfl⟩, hW, hsame.mono (by decide) (by decide)⟩
  · show Steps p.tables e below (s₁.setTop (mkF m 0 #[.val (.int (252 : Int32)), .val (.long q), .second, .unset, .unset] [])) _
    refine XS.iloadN X0.here hx rfl (hb hby d1_0) rfl ?_
    refine XS.bipush X0.here hx rfl (hb hby d1_1) ?_
    refine XS.icmpNo X0.here hx rfl (hb hby d1_3) rfl (flt (by decide : ¬ ((252 : Int32) < (32 : Int32)))).1 ?_
    show Steps p.tables e below (s₁.setTop (mkF m 6 #[.val (.int (252 : Int32)), .val (.long q), .second, .unset, .unset] [])) _
    refine XS.iloadN X0.here hx rfl (hb hby d1_6) rfl ?_
    refine XS.sipush X0.here hx rfl (hb hby d1_7) ?_
    refine XS.icmpYes X0.here hx rfl (pc0 := 10) (pc' := 20) rfl (hb hby d1_10) rfl (tlt (by decide : (223 : Int32) < (252 : Int32))).2.2.1 (by decide) (by decide) ?_
    show Steps p.tables e below (s₁.setTop (mkF m 20 #[.val (.int (252 : Int32)), .val (.long q), .second, .unset, .unset] [])) _
    refine XS.lloadN X0.here hx rfl (hb hby d1_20) rfl ?_
    refine XS.iconst X0.here hx rfl (hb hby d1_21) ?_
    show Steps p.tables e below (s₁.setTop (mkF m 22 #[.val (.int (252 : Int32)), .val (.long q), .second, .unset, .unset] [(.int (1 : Int32)), (.long q)])) _
    refine st1 _ ?_
    show Steps p.tables e below (T1.setTop (mkF m 25 #[.val (.int (252 : Int32)), .val (.long q), .second, .unset, .unset] [(.long ((q.toUInt64 >>> (((8 : Int32) * ((7 : Int32) - (1 : Int32))) &&& 0x3f).toInt64.toUInt64).toInt64))])) _
    rw [← hu1]
    show Steps p.tables e below (T1.setTop (mkF m 25 #[.val (.int (252 : Int32)), .val (.long q), .second, .unset, .unset] [(.long u1)])) _
    refine XS.lstoreN X1.here hx rfl (hb hby d1_25) rfl (l' := #[.val (.int (252 : Int32)), .val (.long q), .second, .val (.long u1), .second]) rfl ?_
    show Steps p.tables e below (T1.setTop (mkF m 26 #[.val (.int (252 : Int32)), .val (.long q), .second, .val (.long u1), .second] [])) _
    refine XS.iloadN X1.here hx rfl (hb hby d1_26) rfl ?_
    refine XS.bipush X1.here hx rfl (hb hby d1_27) ?_
    refine XS.icmpNo X1.here hx rfl (hb hby d1_29) rfl (flt (by decide : ¬ ((252 : Int32) < (7 : Int32)))).1 ?_
    show Steps p.tables e below (T1.setTop (mkF m 32 #[.val (.int (252 : Int32)), .val (.long q), .second, .val (.long u1), .second] [])) _
    refine XS.iloadN X1.here hx rfl (hb hby d1_32) rfl ?_
    refine XS.bipush X1.here hx rfl (hb hby d1_33) ?_
    refine XS.icmpYes X1.here hx rfl (pc0 := 35) (pc' := 54) rfl (hb hby d1_35) rfl (tlt (by decide : (31 : Int32) < (252 : Int32))).2.2.1 (by decide) (by decide) ?_
    show Steps p.tables e below (T1.setTop (mkF m 54 #[.val (.int (252 : Int32)), .val (.long q), .second, .val (.long u1), .second] [])) _
    refine XS.iloadN X1.here hx rfl (hb hby d1_54) rfl ?_
    refine XS.sipush X1.here hx rfl (hb hby d1_55) ?_
    refine XS.icmpNo X1.here hx rfl (hb hby d1_58) rfl (flt (by decide : ¬ ((252 : Int32) < (224 : Int32)))).1 ?_
    show Steps p.tables e below (T1.setTop (mkF m 61 #[.val (.int (252 : Int32)), .val (.long q), .second, .val (.long u1), .second] [])) _
    refine XS.iloadN X1.here hx rfl (hb hby d1_61) rfl ?_
    refine XS.sipush X1.here hx rfl (hb hby d1_62) ?_
    refine XS.icmpYes X1.here hx rfl (pc0 := 65) (pc' := 85) rfl (hb hby d1_65) rfl (tlt (by decide : (248 : Int32) < (252 : Int32))).2.2.1 (by decide) (by decide) ?_
    show Steps p.tables e below (T1.setTop (mkF m 85 #[.val (.int (252 : Int32)), .val (.long q), .second, .val (.long u1), .second] [])) _
    refine XS.iloadN X1.here hx rfl (hb hby d1_85) rfl ?_
    refine XS.iconst X1.here hx rfl (hb hby d1_86) ?_
    refine XS.icmpYes X1.here hx rfl (pc0 := 87) (pc' := 101) rfl (hb hby d1_87) rfl (feq (by decide : ¬ ((252 : Int32) = (1 : Int32)))).2 (by decide) (by decide) ?_
    show Steps p.tables e below (T1.setTop (mkF m 101 #[.val (.int (252 : Int32)), .val (.long q), .second, .val (.long u1), .second] [])) _
    refine XS.iloadN X1.here hx rfl (hb hby d1_101) rfl ?_
    refine XS.iconst X1.here hx rfl (hb hby d1_102) ?_
    refine XS.icmpYes X1.here hx rfl (pc0 := 103) (pc' := 117) rfl (hb hby d1_103) rfl (feq (by decide : ¬ ((252 : Int32) = (2 : Int32)))).2 (by decide) (by decide) ?_
    show Steps p.tables e below (T1.setTop (mkF m 117 #[.val (.int (252 : Int32)), .val (.long q), .second, .val (.long u1), .second] [])) _
    refine XS.iloadN X1.here hx rfl (hb hby d1_117) rfl ?_
    refine XS.iconst X1.here hx rfl (hb hby d1_118) ?_
    refine XS.icmpYes X1.here hx rfl (pc0 := 119) (pc' := 132) rfl (hb hby d1_119) rfl (feq (by decide : ¬ ((252 : Int32) = (3 : Int32)))).2 (by decide) (by decide) ?_
    show Steps p.tables e below (T1.setTop (mkF m 132 #[.val (.int (252 : Int32)), .val (.long q), .second, .val (.long u1), .second] [])) _
    refine XS.iloadN X1.here hx rfl (hb hby d1_132) rfl ?_
    refine XS.iconst X1.here hx rfl (hb hby d1_133) ?_
    refine XS.icmpYes X1.here hx rfl (pc0 := 134) (pc' := 147) rfl (hb hby d1_134) rfl (feq (by decide : ¬ ((252 : Int32) = (4 : Int32)))).2 (by decide) (by decide) ?_
    show Steps p.tables e below (T1.setTop (mkF m 147 #[.val (.int (252 : Int32)), .val (.long q), .second, .val (.long u1), .second] [])) _
    refine XS.iloadN X1.here hx rfl (hb hby d1_147) rfl ?_
    refine XS.iconst X1.here hx rfl (hb hby d1_148) ?_
    refine XS.icmpYes X1.here hx rfl (pc0 := 149) (pc' := 162) rfl (hb hby d1_149) rfl (feq (by decide : ¬ ((252 : Int32) = (5 : Int32)))).2 (by decide) (by decide) ?_
    show Steps p.tables e below (T1.setTop (mkF m 162 #[.val (.int (252 : Int32)), .val (.long q), .second, .val (.long u1), .second] [])) _
    refine XS.iloadN X1.here hx rfl (hb hby d1_162) rfl ?_
    refine XS.bipush X1.here hx rfl (hb hby d1_163) ?_
    refine XS.icmpYes X1.here hx rfl (pc0 := 165) (pc' := 178) rfl (hb hby d1_165) rfl (feq (by decide : ¬ ((252 : Int32) = (6 : Int32)))).2 (by decide) (by decide) ?_
    show Steps p.tables e below (T1.setTop (mkF m 178 #[.val (.int (252 : Int32)), .val (.long q), .second, .val (.long u1), .second] [])) _
    refine XS.iloadN X1.here hx rfl (hb hby d1_178) rfl ?_
    refine XS.sipush X1.here hx rfl (hb hby d1_179) ?_
    refine XS.icmpYes X1.here hx rfl (pc0 := 182) (pc' := 195) rfl (hb hby d1_182) rfl (feq (by decide : ¬ ((252 : Int32) = (249 : Int32)))).2 (by decide) (by decide) ?_
    show Steps p.tables e below (T1.setTop (mkF m 195 #[.val (.int (252 : Int32)), .val (.long q), .second, .val (.long u1), .second] [])) _
    refine XS.iloadN X1.here hx rfl (hb hby d1_195) rfl ?_
    refine XS.sipush X1.here hx rfl (hb hby d1_196) ?_
    refine XS.icmpYes X1.here hx rfl (pc0 := 199) (pc' := 212) rfl (hb hby d1_199) rfl (feq (by decide : ¬ ((252 : Int32) = (250 : Int32)))).2 (by decide) (by decide) ?_
    show Steps p.tables e below (T1.setTop (mkF m 212 #[.val (.int (252 : Int32)), .val (.long q), .second, .val (.long u1), .second] [])) _
    refine XS.iloadN X1.here hx rfl (hb hby d1_212) rfl ?_
    refine XS.sipush X1.here hx rfl (hb hby d1_213) ?_
    refine XS.icmpYes X1.here hx rfl (pc0 := 216) (pc' := 229) rfl (hb hby d1_216) rfl (feq (by decide : ¬ ((252 : Int32) = (251 : Int32)))).2 (by decide) (by decide) ?_
    show Steps p.tables e below (T1.setTop (mkF m 229 #[.val (.int (252 : Int32)), .val (.long q), .second, .val (.long u1), .second] [])) _
    refine XS.iloadN X1.here hx rfl (hb hby d1_229) rfl ?_
    refine XS.sipush X1.here hx rfl (hb hby d1_230) ?_
    refine XS.icmpNo X1.here hx rfl (hb hby d1_233) rfl (teq (by decide : (252 : Int32) = (252 : Int32))).2 ?_
    show Steps p.tables e below (T1.setTop (mkF m 236 #[.val (.int (252 : Int32)), .val (.long q), .second, .val (.long u1), .second] [])) _
    refine X1.ldc2Long hx hown (mvT hZ (hw _ (List.mem_of_getElem? (i := 37) rfl))) (g := (mkF m 236 #[.val (.int (252 : Int32)), .val (.long q), .second, .val (.long u1), .second] [])) rfl (hb hby d1_236) _ ?_
    show Steps p.tables e below (T1.setTop (mkF m 239 #[.val (.int (252 : Int32)), .val (.long q), .second, .val (.long u1), .second] [(.long (4311816608 : Int64))])) _
    refine XS.lloadN X1.here hx rfl (hb hby d1_239) rfl ?_
    refine XS.iconst X1.here hx rfl (hb hby d1_240) ?_
    show Steps p.tables e below (T1.setTop (mkF m 241 #[.val (.int (252 : Int32)), .val (.long q), .second, .val (.long u1), .second] [(.int (5 : Int32)), (.long q), (.long (4311816608 : Int64))])) _
    refine st2 _ ?_
    show Steps p.tables e below (T2.setTop (mkF m 244 #[.val (.int (252 : Int32)), .val (.long q), .second, .val (.long u1), .second] [(.long ((q.toUInt64 >>> (((8 : Int32) * ((7 : Int32) - (5 : Int32))) &&& 0x3f).toInt64.toUInt64).toInt64)), (.long (4311816608 : Int64))])) _
    refine XS.ladd X2.here hx rfl (hb hby d1_244) rfl ?_
    show Steps p.tables e below (T2.setTop (mkF m 245 #[.val (.int (252 : Int32)), .val (.long q), .second, .val (.long u1), .second] [(.long ((4311816608 : Int64) + ((q.toUInt64 >>> (((8 : Int32) * ((7 : Int32) - (5 : Int32))) &&& 0x3f).toInt64.toUInt64).toInt64)))])) _
    exact retOut X2 hx Bd.returns rfl (Or.inr (Or.inl ⟨rfl, rfl, _, rfl⟩)) (hb hby d1_245) hr
  · show own_Ql (own_val 252 q.toInt) h0 n0 _ T2.heap _
    rw [e2]
    exact ⟨((4311816608 : Int64) + ((q.toUInt64 >>> (((8 : Int32) * ((7 : Int32) - (5 : Int32))) &&& 0x3f).toInt64.toUInt64).toInt64)), rfl, N2, rfl, own_e_12 hq0 hq1⟩
theorem d1_246 : decode method_4_code 246 = .ok (.iload_n 0, 1) := by decide +kernel
theorem d1_247 : decode method_4_code 247 = .ok (.sipush 253, 3) := by decide +kernel
theorem d1_250 : decode method_4_code 250 = .ok (.if_icmp .ne 14, 3) := by decide +kernel
theorem d1_253 : decode method_4_code 253 = .ok (.ldc2_w 54, 3) := by decide +kernel
theorem d1_256 : decode method_4_code 256 = .ok (.lload_n 1, 1) := by decide +kernel
theorem d1_257 : decode method_4_code 257 = .ok (.bipush 6, 2) := by decide +kernel
theorem d1_259 : decode method_4_code 259 = .ok (.invokestatic 24, 3) := by decide +kernel
theorem d1_262 : decode method_4_code 262 = .ok (.ladd, 1) := by decide +kernel
theorem d1_263 : decode method_4_code 263 = .ok (.lreturn, 1) := by decide +kernel
theorem own_e_13 {q : Int64} (hq0 : 0 ≤ q.toInt) (hq1 : q.toInt < 72057594037927936) : (((1103823444384 : Int64) + ((q.toUInt64 >>> (((8 : Int32) * ((7 : Int32) - (6 : Int32))) &&& 0x3f).toInt64.toUInt64).toInt64))).toInt = own_val 253 q.toInt := by
  rw [own_val_13 (by decide) (by decide)]
  have v := own_follow (q := q) (6 : Int32) 8 (by decide) hq0
  generalize ((q.toUInt64 >>> (((8 : Int32) * ((7 : Int32) - (6 : Int32))) &&& 0x3f).toInt64.toUInt64).toInt64) = u at *
  have v1 : u.toInt = q.toInt / 256 := v
  have c0 : ((1103823444384 : Int64)).toInt = 1103823444384 := rfl
  rw [Jvm.Kit.i64_add (by omega) (by omega), c0, v1]
  omega
set_option maxRecDepth 65536 in
set_option maxHeartbeats 40000000 in
theorem r_exp_13 (l : Launch) (Z : State) (a0 : Array Value) (hw : ∀ d ∈ tables_1, d.before a0 Z = true) (ws : List Jvm.Cond) (s_R s_F s_E s_L : Addr) (cl_R cl_F cl_E : Cell) (k_L : ClassId) (h0 : Heap) (n0 : Nat) (O0 : Old Z n0 h0) (G : own_Ctx Z Z.heap s_R s_F s_E s_L cl_R cl_F cl_E k_L) (q : Int64)  (hq0 : 0 ≤ q.toInt) (hq1 : q.toInt < 72057594037927936) :
    MetFree l (⟨"com/example/rattan/rattan/storage/label/ComponentCodeDecodePinLaw", "expected", "(IJ)J"⟩ : MethodName) (head1 (Jvm.Cond.code (⟨"com/example/rattan/rattan/storage/label/ComponentCodeDecodePinLaw", "expected", "(IJ)J"⟩ : MethodName) method_4_code 5 (some .long) :: ws) ({ frames := 1, cells := 0, slots := 0, locals := 64 } : Room)) (fun a U => a = #[(.int (253 : Int32)), (.long q)] ∧ Z.Warmed39 U.vm ∧ U.heap = h0) (fun _ _ _ _ _ => True) (fun _ U o U' => ∃ v L, o = .returned v ∧ own_Ql (own_val 253 q.toInt) h0 n0 v U'.heap L ∧ FrameEnd U o U' L ({ frames := 1, cells := 0, slots := 0, locals := 64 } : Room).cells ({ frames := 1, cells := 0, slots := 0, locals := 64 } : Room).slots) := by
  have G0 := G
  obtain ⟨S_R, C_R, S_F, C_F, S_E, C_E, S_L, V_L, R_1, R_2, R_3, R_4, R_5, F_0, F_1, F_2, F_3, F_4, F_5, F_6, F_7, F_8, F_9, F_10, F_11, F_12, F_13, F_14, E_0, E_1, E_2, E_3, E_4, E_5, E_6, E_7, E_8, E_9, E_10, E_11, E_12, E_13, E_14⟩ := G
  refine MetFree.of_bodySF (plainFor_of_name pn_0) hisR ?_
  intro p e s m args below meth c s₁ Bd hml0 hP hK
  obtain ⟨rfl, hZ, hh⟩ := hP
  have hx := Bd.exec
  have hby := Bd.bytes
  have hml : c.maxLocals = 5 := hml0
  have hown : s.vm.findClass "com/example/rattan/rattan/storage/label/ComponentCodeDecodePinLaw" = some m.cls := findClass_of_methodNamed Bd.named
  have hnm := (name_of_methodNamed Bd.named Bd.method).1
  have X0 : Stand p l e ({ frames := 1, cells := 0, slots := 0, locals := 64 } : Room) s m #[(.int (253 : Int32)), (.long q)] below meth c s₁ [] 0 0 := Stand.of_body Bd
  have e0 : s₁.heap = h0 := by rw [← hh, Bd.state]; rfl
  have N0 := Fr.nil n0
  have pre0 : ∀ t, Steps p.tables e below (s₁.setTop (mkF m 0 #[.val (.int (253 : Int32)), .val (.long q), .second, .unset, .unset] [])) t → Steps p.tables e below (s₁.setTop (entryFrame m #[(.int (253 : Int32)), (.long q)] 5)) t := fun t k => castTop (ef_1_1 m (253 : Int32) q) k
  obtain ⟨_, _, ⟨T1, L1, k1, n1⟩, -, X1, ⟨Lc1, hQ1, l1, y1, z1⟩, st1⟩ := Jvm.LawKit.callS X0 hx (y := (⟨"com/example/rattan/rattan/storage/label/ComponentCodeDecodePinLaw", "follow", "(JI)J"⟩ : MethodName)) hown (mvT hZ (hw _ (List.mem_of_getElem? (i := 7) rfl))) (mvT hZ (hw _ (List.mem_of_getElem? (i := 8) rfl))) (mvT hZ (hw _ (List.mem_of_getElem? (i := 5) rfl))) (mvT hZ (hw _ (List.mem_of_getElem? (i := 9) rfl))) (by decide) (backOf (W := 0) (r_fol l Z a0 hw [] s_R s_F s_E s_L cl_R cl_F cl_E k_L h0 n0 O0 G0 q (1 : Int32)) hZ (hw _ (List.mem_of_getElem? (i := 9) rfl)) (hw _ (List.mem_of_getElem? (i := 5) rfl)) (by decide) (by decide)) (g := (mkF m 22 #[.val (.int (253 : Int32)), .val (.long q), .second, .unset, .unset] [(.int (1 : Int32)), (.long q)])) rfl (by rw [hml]; rfl) (argsL := [(.long q), (.int (1 : Int32))]) (rest := []) (lenOf pd_0 rfl) rfl (by show 2 * 0 + _ ≤ _; exact Nat.le_of_eq rfl) (hb hby d1_22) (fun _ _ => ⟨rfl, e0, (by decide : 0 + 0 ≤ _), (by decide : 0 + 0 ≤ _)⟩)
  dsimp only [Pt.U, Pt.locs, Pt.cells, Pt.slots] at X1 l1 y1 z1 st1 hQ1
  subst l1 y1 z1
  obtain ⟨rfl, N1q, e1⟩ := hQ1
  have N1 := Fr.app N0 N1q
  obtain ⟨u1, hu1⟩ : ∃ z : Int64, z = ((q.toUInt64 >>> (((8 : Int32) * ((7 : Int32) - (1 : Int32))) &&& 0x3f).toInt64.toUInt64).toInt64) := ⟨_, rfl⟩
  obtain ⟨_, _, ⟨T2, L2, k2, n2⟩, -, X2, ⟨Lc2, hQ2, l2, y2, z2⟩, st2⟩ := Jvm.LawKit.callS X1 hx (y := (⟨"com/example/rattan/rattan/storage/label/ComponentCodeDecodePinLaw", "follow", "(JI)J"⟩ : MethodName)) hown (mvT hZ (hw _ (List.mem_of_getElem? (i := 7) rfl))) (mvT hZ (hw _ (List.mem_of_getElem? (i := 8) rfl))) (mvT hZ (hw _ (List.mem_of_getElem? (i := 5) rfl))) (mvT hZ (hw _ (List.mem_of_getElem? (i := 9) rfl))) (by decide) (backOf (W := 2) (r_fol l Z a0 hw [] s_R s_F s_E s_L cl_R cl_F cl_E k_L h0 n0 O0 G0 q (6 : Int32)) hZ (hw _ (List.mem_of_getElem? (i := 9) rfl)) (hw _ (List.mem_of_getElem? (i := 5) rfl)) (by decide) (by decide)) (g := (mkF m 259 #[.val (.int (253 : Int32)), .val (.long q), .second, .val (.long u1), .second] [(.int (6 : Int32)), (.long q), (.long (1103823444384 : Int64))])) rfl (by rw [hml]; rfl) (argsL := [(.long q), (.int (6 : Int32))]) (rest := [(.long (1103823444384 : Int64))]) (lenOf pd_0 rfl) rfl (by show 2 * 0 + _ ≤ _; exact Nat.le_of_eq rfl) (hb hby d1_259) (fun _ _ => ⟨rfl, e1, (by decide : 0 + 0 ≤ _), (by decide : 0 + 0 ≤ _)⟩)
  dsimp only [Pt.U, Pt.locs, Pt.cells, Pt.slots] at X2 l2 y2 z2 st2 hQ2
  subst l2 y2 z2
  obtain ⟨rfl, N2q, e2⟩ := hQ2
  have N2 := Fr.app N1 N2q
  obtain ⟨fs, hr, hrun, hended, hW, hsame⟩ := X2.leave (v := some (.long ((1103823444384 : Int64) + ((q.toUInt64 >>> (((8 : Int32) * ((7 : Int32) - (6 : Int32))) &&& 0x3f).toInt64.toUInt64).toInt64)))) (fun h => by rw [Bd.returns] at h; cases h)
  refine ⟨_, _, pre0 _ ?_, hrun, hended, _, _, rfl, ?_, ⟨_, rfl⟩, hW, hsame.mono (by decide) (by decide)⟩
  · show Steps p.tables e below (s₁.setTop (mkF m 0 #[.val (.int (253 : Int32)), .val (.long q), .second, .unset, .unset] [])) _
    refine XS.iloadN X0.here hx rfl (hb hby d1_0) rfl ?_
    refine XS.bipush X0.here hx rfl (hb hby d1_1) ?_
    refine XS.icmpNo X0.here hx rfl (hb hby d1_3) rfl (flt (by decide : ¬ ((253 : Int32) < (32 : Int32)))).1 ?_
    show Steps p.tables e below (s₁.setTop (mkF m 6 #[.val (.int (253 : Int32)), .val (.long q), .second, .unset, .unset] [])) _
    refine XS.iloadN X0.here hx rfl (hb hby d1_6) rfl ?_
    refine XS.sipush X0.here hx rfl (hb hby d1_7) ?_
    refine XS.icmpYes X0.here hx rfl (pc0 := 10) (pc' := 20) rfl (hb hby d1_10) rfl (tlt (by decide : (223 : Int32) < (253 : Int32))).2.2.1 (by decide) (by decide) ?_
    show Steps p.tables e below (s₁.setTop (mkF m 20 #[.val (.int (253 : Int32)), .val (.long q), .second, .unset, .unset] [])) _
    refine XS.lloadN X0.here hx rfl (hb hby d1_20) rfl ?_
    refine XS.iconst X0.here hx rfl (hb hby d1_21) ?_
    show Steps p.tables e below (s₁.setTop (mkF m 22 #[.val (.int (253 : Int32)), .val (.long q), .second, .unset, .unset] [(.int (1 : Int32)), (.long q)])) _
    refine st1 _ ?_
    show Steps p.tables e below (T1.setTop (mkF m 25 #[.val (.int (253 : Int32)), .val (.long q), .second, .unset, .unset] [(.long ((q.toUInt64 >>> (((8 : Int32) * ((7 : Int32) - (1 : Int32))) &&& 0x3f).toInt64.toUInt64).toInt64))])) _
    rw [← hu1]
    show Steps p.tables e below (T1.setTop (mkF m 25 #[.val (.int (253 : Int32)), .val (.long q), .second, .unset, .unset] [(.long u1)])) _
    refine XS.lstoreN X1.here hx rfl (hb hby d1_25) rfl (l' := #[.val (.int (253 : Int32)), .val (.long q), .second, .val (.long u1), .second]) rfl ?_
    show Steps p.tables e below (T1.setTop (mkF m 26 #[.val (.int (253 : Int32)), .val (.long q), .second, .val (.long u1), .second] [])) _
    refine XS.iloadN X1.here hx rfl (hb hby d1_26) rfl ?_
    refine XS.bipush X1.here hx rfl (hb hby d1_27) ?_
    refine XS.icmpNo X1.here hx rfl (hb hby d1_29) rfl (flt (by decide : ¬ ((253 : Int32) < (7 : Int32)))).1 ?_
    show Steps p.tables e below (T1.setTop (mkF m 32 #[.val (.int (253 : Int32)), .val (.long q), .second, .val (.long u1), .second] [])) _
    refine XS.iloadN X1.here hx rfl (hb hby d1_32) rfl ?_
    refine XS.bipush X1.here hx rfl (hb hby d1_33) ?_
    refine XS.icmpYes X1.here hx rfl (pc0 := 35) (pc' := 54) rfl (hb hby d1_35) rfl (tlt (by decide : (31 : Int32) < (253 : Int32))).2.2.1 (by decide) (by decide) ?_
    show Steps p.tables e below (T1.setTop (mkF m 54 #[.val (.int (253 : Int32)), .val (.long q), .second, .val (.long u1), .second] [])) _
    refine XS.iloadN X1.here hx rfl (hb hby d1_54) rfl ?_
    refine XS.sipush X1.here hx rfl (hb hby d1_55) ?_
    refine XS.icmpNo X1.here hx rfl (hb hby d1_58) rfl (flt (by decide : ¬ ((253 : Int32) < (224 : Int32)))).1 ?_
    show Steps p.tables e below (T1.setTop (mkF m 61 #[.val (.int (253 : Int32)), .val (.long q), .second, .val (.long u1), .second] [])) _
    refine XS.iloadN X1.here hx rfl (hb hby d1_61) rfl ?_
    refine XS.sipush X1.here hx rfl (hb hby d1_62) ?_
    refine XS.icmpYes X1.here hx rfl (pc0 := 65) (pc' := 85) rfl (hb hby d1_65) rfl (tlt (by decide : (248 : Int32) < (253 : Int32))).2.2.1 (by decide) (by decide) ?_
    show Steps p.tables e below (T1.setTop (mkF m 85 #[.val (.int (253 : Int32)), .val (.long q), .second, .val (.long u1), .second] [])) _
    refine XS.iloadN X1.here hx rfl (hb hby d1_85) rfl ?_
    refine XS.iconst X1.here hx rfl (hb hby d1_86) ?_
    refine XS.icmpYes X1.here hx rfl (pc0 := 87) (pc' := 101) rfl (hb hby d1_87) rfl (feq (by decide : ¬ ((253 : Int32) = (1 : Int32)))).2 (by decide) (by decide) ?_
    show Steps p.tables e below (T1.setTop (mkF m 101 #[.val (.int (253 : Int32)), .val (.long q), .second, .val (.long u1), .second] [])) _
    refine XS.iloadN X1.here hx rfl (hb hby d1_101) rfl ?_
    refine XS.iconst X1.here hx rfl (hb hby d1_102) ?_
    refine XS.icmpYes X1.here hx rfl (pc0 := 103) (pc' := 117) rfl (hb hby d1_103) rfl (feq (by decide : ¬ ((253 : Int32) = (2 : Int32)))).2 (by decide) (by decide) ?_
    show Steps p.tables e below (T1.setTop (mkF m 117 #[.val (.int (253 : Int32)), .val (.long q), .second, .val (.long u1), .second] [])) _
    refine XS.iloadN X1.here hx rfl (hb hby d1_117) rfl ?_
    refine XS.iconst X1.here hx rfl (hb hby d1_118) ?_
    refine XS.icmpYes X1.here hx rfl (pc0 := 119) (pc' := 132) rfl (hb hby d1_119) rfl (feq (by decide : ¬ ((253 : Int32) = (3 : Int32)))).2 (by decide) (by decide) ?_
    show Steps p.tables e below (T1.setTop (mkF m 132 #[.val (.int (253 : Int32)), .val (.long q), .second, .val (.long u1), .second] [])) _
    refine XS.iloadN X1.here hx rfl (hb hby d1_132) rfl ?_
    refine XS.iconst X1.here hx rfl (hb hby d1_133) ?_
    refine XS.icmpYes X1.here hx rfl (pc0 := 134) (pc' := 147) rfl (hb hby d1_134) rfl (feq (by decide : ¬ ((253 : Int32) = (4 : Int32)))).2 (by decide) (by decide) ?_
    show Steps p.tables e below (T1.setTop (mkF m 147 #[.val (.int (253 : Int32)), .val (.long q), .second, .val (.long u1), .second] [])) _
    refine XS.iloadN X1.here hx rfl (hb hby d1_147) rfl ?_
    refine XS.iconst X1.here hx rfl (hb hby d1_148) ?_
    refine XS.icmpYes X1.here hx rfl (pc0 := 149) (pc' := 162) rfl (hb hby d1_149) rfl (feq (by decide : ¬ ((253 : Int32) = (5 : Int32)))).2 (by decide) (by decide) ?_
    show Steps p.tables e below (T1.setTop (mkF m 162 #[.val (.int (253 : Int32)), .val (.long q), .second, .val (.long u1), .second] [])) _
    refine XS.iloadN X1.here hx rfl (hb hby d1_162) rfl ?_
    refine XS.bipush X1.here hx rfl (hb hby d1_163) ?_
    refine XS.icmpYes X1.here hx rfl (pc0 := 165) (pc' := 178) rfl (hb hby d1_165) rfl (feq (by decide : ¬ ((253 : Int32) = (6 : Int32)))).2 (by decide) (by decide) ?_
    show Steps p.tables e below (T1.setTop (mkF m 178 #[.val (.int (253 : Int32)), .val (.long q), .second, .val (.long u1), .second] [])) _
    refine XS.iloadN X1.here hx rfl (hb hby d1_178) rfl ?_
    refine XS.sipush X1.here hx rfl (hb hby d1_179) ?_
    refine XS.icmpYes X1.here hx rfl (pc0 := 182) (pc' := 195) rfl (hb hby d1_182) rfl (feq (by decide : ¬ ((253 : Int32) = (249 : Int32)))).2 (by decide) (by decide) ?_
    show Steps p.tables e below (T1.setTop (mkF m 195 #[.val (.int (253 : Int32)), .val (.long q), .second, .val (.long u1), .second] [])) _
    refine XS.iloadN X1.here hx rfl (hb hby d1_195) rfl ?_
    refine XS.sipush X1.here hx rfl (hb hby d1_196) ?_
    refine XS.icmpYes X1.here hx rfl (pc0 := 199) (pc' := 212) rfl (hb hby d1_199) rfl (feq (by decide : ¬ ((253 : Int32) = (250 : Int32)))).2 (by decide) (by decide) ?_
    show Steps p.tables e below (T1.setTop (mkF m 212 #[.val (.int (253 : Int32)), .val (.long q), .second, .val (.long u1), .second] [])) _
    refine XS.iloadN X1.here hx rfl (hb hby d1_212) rfl ?_
    refine XS.sipush X1.here hx rfl (hb hby d1_213) ?_
    refine XS.icmpYes X1.here hx rfl (pc0 := 216) (pc' := 229) rfl (hb hby d1_216) rfl (feq (by decide : ¬ ((253 : Int32) = (251 : Int32)))).2 (by decide) (by decide) ?_
    show Steps p.tables e below (T1.setTop (mkF m 229 #[.val (.int (253 : Int32)), .val (.long q), .second, .val (.long u1), .second] [])) _
    refine XS.iloadN X1.here hx rfl (hb hby d1_229) rfl ?_
    refine XS.sipush X1.here hx rfl (hb hby d1_230) ?_
    refine XS.icmpYes X1.here hx rfl (pc0 := 233) (pc' := 246) rfl (hb hby d1_233) rfl (feq (by decide : ¬ ((253 : Int32) = (252 : Int32)))).2 (by decide) (by decide) ?_
    show Steps p.tables e below (T1.setTop (mkF m 246 #[.val (.int (253 : Int32)), .val (.long q), .second, .val (.long u1), .second] [])) _
    refine XS.iloadN X1.here hx rfl (hb hby d1_246) rfl ?_
    refine XS.sipush X1.here hx rfl (hb hby d1_247) ?_
    refine XS.icmpNo X1.here hx rfl (hb hby d1_250) rfl (teq (by decide : (253 : Int32) = (253 : Int32))).2 ?_
    show Steps p.tables e below (T1.setTop (mkF m 253 #[.val (.int (253 : Int32)), .val (.long q), .second, .val (.long u1), .second] [])) _
    refine X1.ldc2Long hx hown (mvT hZ (hw _ (List.mem_of_getElem? (i := 36) rfl))) (g := (mkF m 253 #[.val (.int (253 : Int32)), .val (.long q), .second, .val (.long u1), .second] [])) rfl (hb hby d1_253) _ ?_
    show Steps p.tables e below (T1.setTop (mkF m 256 #[.val (.int (253 : Int32)), .val (.long q), .second, .val (.long u1), .second] [(.long (1103823444384 : Int64))])) _
    refine XS.lloadN X1.here hx rfl (hb hby d1_256) rfl ?_
    refine XS.bipush X1.here hx rfl (hb hby d1_257) ?_
    show Steps p.tables e below (T1.setTop (mkF m 259 #[.val (.int (253 : Int32)), .val (.long q), .second, .val (.long u1), .second] [(.int (6 : Int32)), (.long q), (.long (1103823444384 : Int64))])) _
    refine st2 _ ?_
    show Steps p.tables e below (T2.setTop (mkF m 262 #[.val (.int (253 : Int32)), .val (.long q), .second, .val (.long u1), .second] [(.long ((q.toUInt64 >>> (((8 : Int32) * ((7 : Int32) - (6 : Int32))) &&& 0x3f).toInt64.toUInt64).toInt64)), (.long (1103823444384 : Int64))])) _
    refine XS.ladd X2.here hx rfl (hb hby d1_262) rfl ?_
    show Steps p.tables e below (T2.setTop (mkF m 263 #[.val (.int (253 : Int32)), .val (.long q), .second, .val (.long u1), .second] [(.long ((1103823444384 : Int64) + ((q.toUInt64 >>> (((8 : Int32) * ((7 : Int32) - (6 : Int32))) &&& 0x3f).toInt64.toUInt64).toInt64)))])) _
    exact retOut X2 hx Bd.returns rfl (Or.inr (Or.inl ⟨rfl, rfl, _, rfl⟩)) (hb hby d1_263) hr
  · show own_Ql (own_val 253 q.toInt) h0 n0 _ T2.heap _
    rw [e2]
    exact ⟨((1103823444384 : Int64) + ((q.toUInt64 >>> (((8 : Int32) * ((7 : Int32) - (6 : Int32))) &&& 0x3f).toInt64.toUInt64).toInt64)), rfl, N2, rfl, own_e_13 hq0 hq1⟩
theorem d1_264 : decode method_4_code 264 = .ok (.ldc2_w 56, 3) := by decide +kernel
theorem d1_267 : decode method_4_code 267 = .ok (.lload_n 1, 1) := by decide +kernel
theorem d1_268 : decode method_4_code 268 = .ok (.bipush 7, 2) := by decide +kernel
theorem d1_270 : decode method_4_code 270 = .ok (.invokestatic 24, 3) := by decide +kernel
theorem d1_273 : decode method_4_code 273 = .ok (.ladd, 1) := by decide +kernel
theorem d1_274 : decode method_4_code 274 = .ok (.lreturn, 1) := by decide +kernel
theorem own_e_14 {q : Int64} (hq0 : 0 ≤ q.toInt) (hq1 : q.toInt < 72057594037927936) : (((282578800155040 : Int64) + ((q.toUInt64 >>> (((8 : Int32) * ((7 : Int32) - (7 : Int32))) &&& 0x3f).toInt64.toUInt64).toInt64))).toInt = own_val 254 q.toInt := by
  rw [own_val_14 (by decide) (by decide)]
  have v := own_follow (q := q) (7 : Int32) 0 (by decide) hq0
  generalize ((q.toUInt64 >>> (((8 : Int32) * ((7 : Int32) - (7 : Int32))) &&& 0x3f).toInt64.toUInt64).toInt64) = u at *
  have v1 : u.toInt = q.toInt / 1 := v
  have c0 : ((282578800155040 : Int64)).toInt = 282578800155040 := rfl
  rw [Jvm.Kit.i64_add (by omega) (by omega), c0, v1]
  omega
set_option maxRecDepth 65536 in
set_option maxHeartbeats 40000000 in
theorem r_exp_14 (l : Launch) (Z : State) (a0 : Array Value) (hw : ∀ d ∈ tables_1, d.before a0 Z = true) (ws : List Jvm.Cond) (s_R s_F s_E s_L : Addr) (cl_R cl_F cl_E : Cell) (k_L : ClassId) (h0 : Heap) (n0 : Nat) (O0 : Old Z n0 h0) (G : own_Ctx Z Z.heap s_R s_F s_E s_L cl_R cl_F cl_E k_L) (q : Int64)  (hq0 : 0 ≤ q.toInt) (hq1 : q.toInt < 72057594037927936) :
    MetFree l (⟨"com/example/rattan/rattan/storage/label/ComponentCodeDecodePinLaw", "expected", "(IJ)J"⟩ : MethodName) (head1 (Jvm.Cond.code (⟨"com/example/rattan/rattan/storage/label/ComponentCodeDecodePinLaw", "expected", "(IJ)J"⟩ : MethodName) method_4_code 5 (some .long) :: ws) ({ frames := 1, cells := 0, slots := 0, locals := 64 } : Room)) (fun a U => a = #[(.int (254 : Int32)), (.long q)] ∧ Z.Warmed39 U.vm ∧ U.heap = h0) (fun _ _ _ _ _ => True) (fun _ U o U' => ∃ v L, o = .returned v ∧ own_Ql (own_val 254 q.toInt) h0 n0 v U'.heap L ∧ FrameEnd U o U' L ({ frames := 1, cells := 0, slots := 0, locals := 64 } : Room).cells ({ frames := 1, cells := 0, slots := 0, locals := 64 } : Room).slots) := by
  have G0 := G
  obtain ⟨S_R, C_R, S_F, C_F, S_E, C_E, S_L, V_L, R_1, R_2, R_3, R_4, R_5, F_0, F_1, F_2, F_3, F_4, F_5, F_6, F_7, F_8, F_9, F_10, F_11, F_12, F_13, F_14, E_0, E_1, E_2, E_3, E_4, E_5, E_6, E_7, E_8, E_9, E_10, E_11, E_12, E_13, E_14⟩ := G
  refine MetFree.of_bodySF (plainFor_of_name pn_0) hisR ?_
  intro p e s m args below meth c s₁ Bd hml0 hP hK
  obtain ⟨rfl, hZ, hh⟩ := hP
  have hx := Bd.exec
  have hby := Bd.bytes
  have hml : c.maxLocals = 5 := hml0
  have hown : s.vm.findClass "com/example/rattan/rattan/storage/label/ComponentCodeDecodePinLaw" = some m.cls := findClass_of_methodNamed Bd.named
  have hnm := (name_of_methodNamed Bd.named Bd.method).1
  have X0 : Stand p l e ({ frames := 1, cells := 0, slots := 0, locals := 64 } : Room) s m #[(.int (254 : Int32)), (.long q)] below meth c s₁ [] 0 0 := Stand.of_body Bd
  have e0 : s₁.heap = h0 := by rw [← hh, Bd.state]; rfl
  have N0 := Fr.nil n0
  have pre0 : ∀ t, Steps p.tables e below (s₁.setTop (mkF m 0 #[.val (.int (254 : Int32)), .val (.long q), .second, .unset, .unset] [])) t → Steps p.tables e below (s₁.setTop (entryFrame m #[(.int (254 : Int32)), (.long q)] 5)) t := fun t k => castTop (ef_1_1 m (254 : Int32) q) k
  obtain ⟨_, _, ⟨T1, L1, k1, n1⟩, -, X1, ⟨Lc1, hQ1, l1, y1, z1⟩, st1⟩ := Jvm.LawKit.callS X0 hx (y := (⟨"com/example/rattan/rattan/storage/label/ComponentCodeDecodePinLaw", "follow", "(JI)J"⟩ : MethodName)) hown (mvT hZ (hw _ (List.mem_of_getElem? (i := 7) rfl))) (mvT hZ (hw _ (List.mem_of_getElem? (i := 8) rfl))) (mvT hZ (hw _ (List.mem_of_getElem? (i := 5) rfl))) (mvT hZ (hw _ (List.mem_of_getElem? (i := 9) rfl))) (by decide) (backOf (W := 0) (r_fol l Z a0 hw [] s_R s_F s_E s_L cl_R cl_F cl_E k_L h0 n0 O0 G0 q (1 : Int32)) hZ (hw _ (List.mem_of_getElem? (i := 9) rfl)) (hw _ (List.mem_of_getElem? (i := 5) rfl)) (by decide) (by decide)) (g := (mkF m 22 #[.val (.int (254 : Int32)), .val (.long q), .second, .unset, .unset] [(.int (1 : Int32)), (.long q)])) rfl (by rw [hml]; rfl) (argsL := [(.long q), (.int (1 : Int32))]) (rest := []) (lenOf pd_0 rfl) rfl (by show 2 * 0 + _ ≤ _; exact Nat.le_of_eq rfl) (hb hby d1_22) (fun _ _ => ⟨rfl, e0, (by decide : 0 + 0 ≤ _), (by decide : 0 + 0 ≤ _)⟩)
  dsimp only [Pt.U, Pt.locs, Pt.cells, Pt.slots] at X1 l1 y1 z1 st1 hQ1
  subst l1 y1 z1
  obtain ⟨rfl, N1q, e1⟩ := hQ1
  have N1 := Fr.app N0 N1q
  obtain ⟨u1, hu1⟩ : ∃ z : Int64, z = ((q.toUInt64 >>> (((8 : Int32) * ((7 : Int32) - (1 : Int32))) &&& 0x3f).toInt64.toUInt64).toInt64) := ⟨_, rfl⟩
  obtain ⟨_, _, ⟨T2, L2, k2, n2⟩, -, X2, ⟨Lc2, hQ2, l2, y2, z2⟩, st2⟩ := Jvm.LawKit.callS X1 hx (y := (⟨"com/example/rattan/rattan/storage/label/ComponentCodeDecodePinLaw", "follow", "(JI)J"⟩ : MethodName)) hown (mvT hZ (hw _ (List.mem_of_getElem? (i := 7) rfl))) (mvT hZ (hw _ (List.mem_of_getElem? (i := 8) rfl))) (mvT hZ (hw _ (List.mem_of_getElem? (i := 5) rfl))) (mvT hZ (hw _ (List.mem_of_getElem? (i := 9) rfl))) (by decide) (backOf (W := 2) (r_fol l Z a0 hw [] s_R s_F s_E s_L cl_R cl_F cl_E k_L h0 n0 O0 G0 q (7 : Int32)) hZ (hw _ (List.mem_of_getElem? (i := 9) rfl)) (hw _ (List.mem_of_getElem? (i := 5) rfl)) (by decide) (by decide)) (g := (mkF m 270 #[.val (.int (254 : Int32)), .val (.long q), .second, .val (.long u1), .second] [(.int (7 : Int32)), (.long q), (.long (282578800155040 : Int64))])) rfl (by rw [hml]; rfl) (argsL := [(.long q), (.int (7 : Int32))]) (rest := [(.long (282578800155040 : Int64))]) (lenOf pd_0 rfl) rfl (by show 2 * 0 + _ ≤ _; exact Nat.le_of_eq rfl) (hb hby d1_270) (fun _ _ => ⟨rfl, e1, (by decide : 0 + 0 ≤ _), (by decide : 0 + 0 ≤ _)⟩)
  dsimp only [Pt.U, Pt.locs, Pt.cells, Pt.slots] at X2 l2 y2 z2 st2 hQ2
  subst l2 y2 z2
  obtain ⟨rfl, N2q, e2⟩ := hQ2
  have N2 := Fr.app N1 N2q
  obtain ⟨fs, hr, hrun, hended, hW, hsame⟩ := X2.leave (v := some (.long ((282578800155040 : Int64) + ((q.toUInt64 >>> (((8 : Int32) * ((7 : Int32) - (7 : Int32))) &&& 0x3f).toInt64.toUInt64).toInt64)))) (fun h => by rw [Bd.returns] at h; cases h)
  refine ⟨_, _, pre0 _ ?_, hrun, hended, _, _, rfl, ?_, ⟨_, rfl⟩, hW, hsame.mono (by decide) (by decide)⟩
  · show Steps p.tables e below (s₁.setTop (mkF m 0 #[.val (.int (254 : Int32)), .val (.long q), .second, .unset, .unset] [])) _
    refine XS.iloadN X0.here hx rfl (hb hby d1_0) rfl ?_
    refine XS.bipush X0.here hx rfl (hb hby d1_1) ?_
    refine XS.icmpNo X0.here hx rfl (hb hby d1_3) rfl (flt (by decide : ¬ ((254 : Int32) < (32 : Int32)))).1 ?_
    show Steps p.tables e below (s₁.setTop (mkF m 6 #[.val (.int (254 : Int32)), .val (.long q), .second, .unset, .unset] [])) _
    refine XS.iloadN X0.here hx rfl (hb hby d1_6) rfl ?_
    refine XS.sipush X0.here hx rfl (hb hby d1_7) ?_
    refine XS.icmpYes X0.here hx rfl (pc0 := 10) (pc' := 20) rfl (hb hby d1_10) rfl (tlt (by decide : (223 : Int32) < (254 : Int32))).2.2.1 (by decide) (by decide) ?_
    show Steps p.tables e below (s₁.setTop (mkF m 20 #[.val (.int (254 : Int32)), .val (.long q), .second, .unset, .unset] [])) _
    refine XS.lloadN X0.here hx rfl (hb hby d1_20) rfl ?_
    refine XS.iconst X0.here hx rfl (hb hby d1_21) ?_
    show Steps p.tables e below (s₁.setTop (mkF m 22 #[.val (.int (254 : Int32)), .val (.long q), .second, .unset, .unset] [(.int (1 : Int32)), (.long q)])) _
    refine st1 _ ?_
    show Steps p.tables e below (T1.setTop (mkF m 25 #[.val (.int (254 : Int32)), .val (.long q), .second, .unset, .unset] [(.long ((q.toUInt64 >>> (((8 : Int32) * ((7 : Int32) - (1 : Int32))) &&& 0x3f).toInt64.toUInt64).toInt64))])) _
    rw [← hu1]
    show Steps p.tables e below (T1.setTop (mkF m 25 #[.val (.int (254 : Int32)), .val (.long q), .second, .unset, .unset] [(.long u1)])) _
    refine XS.lstoreN X1.here hx rfl (hb hby d1_25) rfl (l' := #[.val (.int (254 : Int32)), .val (.long q), .second, .val (.long u1), .second]) rfl ?_
    show Steps p.tables e below (T1.setTop (mkF m 26 #[.val (.int (254 : Int32)), .val (.long q), .second, .val (.long u1), .second] [])) _
    refine XS.iloadN X1.here hx rfl (hb hby d1_26) rfl ?_
    refine XS.bipush X1.here hx rfl (hb hby d1_27) ?_
    refine XS.icmpNo X1.here hx rfl (hb hby d1_29) rfl (flt (by decide : ¬ ((254 : Int32) < (7 : Int32)))).1 ?_
    show Steps p.tables e below (T1.setTop (mkF m 32 #[.val (.int (254 : Int32)), .val (.long q), .second, .val (.long u1), .second] [])) _
    refine XS.iloadN X1.here hx rfl (hb hby d1_32) rfl ?_
    refine XS.bipush X1.here hx rfl (hb hby d1_33) ?_
    refine XS.icmpYes X1.here hx rfl (pc0 := 35) (pc' := 54) rfl (hb hby d1_35) rfl (tlt (by decide : (31 : Int32) < (254 : Int32))).2.2.1 (by decide) (by decide) ?_
    show Steps p.tables e below (T1.setTop (mkF m 54 #[.val (.int (254 : Int32)), .val (.long q), .second, .val (.long u1), .second] [])) _
    refine XS.iloadN X1.here hx rfl (hb hby d1_54) rfl ?_
    refine XS.sipush X1.here hx rfl (hb hby d1_55) ?_
    refine XS.icmpNo X1.here hx rfl (hb hby d1_58) rfl (flt (by decide : ¬ ((254 : Int32) < (224 : Int32)))).1 ?_
    show Steps p.tables e below (T1.setTop (mkF m 61 #[.val (.int (254 : Int32)), .val (.long q), .second, .val (.long u1), .second] [])) _
    refine XS.iloadN X1.here hx rfl (hb hby d1_61) rfl ?_
    refine XS.sipush X1.here hx rfl (hb hby d1_62) ?_
    refine XS.icmpYes X1.here hx rfl (pc0 := 65) (pc' := 85) rfl (hb hby d1_65) rfl (tlt (by decide : (248 : Int32) < (254 : Int32))).2.2.1 (by decide) (by decide) ?_
    show Steps p.tables e below (T1.setTop (mkF m 85 #[.val (.int (254 : Int32)), .val (.long q), .second, .val (.long u1), .second] [])) _
    refine XS.iloadN X1.here hx rfl (hb hby d1_85) rfl ?_
    refine XS.iconst X1.here hx rfl (hb hby d1_86) ?_
    refine XS.icmpYes X1.here hx rfl (pc0 := 87) (pc' := 101) rfl (hb hby d1_87) rfl (feq (by decide : ¬ ((254 : Int32) = (1 : Int32)))).2 (by decide) (by decide) ?_
    show Steps p.tables e below (T1.setTop (mkF m 101 #[.val (.int (254 : Int32)), .val (.long q), .second, .val (.long u1), .second] [])) _
    refine XS.iloadN X1.here hx rfl (hb hby d1_101) rfl ?_
    refine XS.iconst X1.here hx rfl (hb hby d1_102) ?_
    refine XS.icmpYes X1.here hx rfl (pc0 := 103) (pc' := 117) rfl (hb hby d1_103) rfl (feq (by decide : ¬ ((254 : Int32) = (2 : Int32)))).2 (by decide) (by decide) ?_
    show Steps p.tables e below (T1.setTop (mkF m 117 #[.val (.int (254 : Int32)), .val (.long q), .second, .val (.long u1), .second] [])) _
    refine XS.iloadN X1.here hx rfl (hb hby d1_117) rfl ?_
    refine XS.iconst X1.here hx rfl (hb hby d1_118) ?_
    refine XS.icmpYes X1.here hx rfl (pc0 := 119) (pc' := 132) rfl (hb hby d1_119) rfl (feq (by decide : ¬ ((254 : Int32) = (3 : Int32)))).2 (by decide) (by decide) ?_
    show Steps p.tables e below (T1.setTop (mkF m 132 #[.val (.int (254 : Int32)), .val (.long q), .second, .val (.long u1), .second] [])) _
    refine XS.iloadN X1.here hx rfl (hb hby d1_132) rfl ?_
    refine XS.iconst X1.here hx rfl (hb hby d1_133) ?_
    refine XS.icmpYes X1.here hx rfl (pc0 := 134) (pc' := 147) rfl (hb hby d1_134) rfl (feq (by decide : ¬ ((254 : Int32) = (4 : Int32)))).2 (by decide) (by decide) ?_
    show Steps p.tables e below (T1.setTop (mkF m 147 #[.val (.int (254 : Int32)), .val (.long q), .second, .val (.long u1), .second] [])) _
    refine XS.iloadN X1.here hx rfl (hb hby d1_147) rfl ?_
    refine XS.iconst X1.here hx rfl (hb hby d1_148) ?_
    refine XS.icmpYes X1.here hx rfl (pc0 := 149) (pc' := 162) rfl (hb hby d1_149) rfl (feq (by decide : ¬ ((254 : Int32) = (5 : Int32)))).2 (by decide) (by decide) ?_
    show Steps p.tables e below (T1.setTop (mkF m 162 #[.val (.int (254 : Int32)), .val (.long q), .second, .val (.long u1), .second] [])) _
    refine XS.iloadN X1.here hx rfl (hb hby d1_162) rfl ?_
    refine XS.bipush X1.here hx rfl (hb hby d1_163) ?_
    refine XS.icmpYes X1.here hx rfl (pc0 := 165) (pc' := 178) rfl (hb hby d1_165) rfl (feq (by decide : ¬ ((254 : Int32) = (6 : Int32)))).2 (by decide) (by decide) ?_
    show Steps p.tables e below (T1.setTop (mkF m 178 #[.val (.int (254 : Int32)), .val (.long q), .second, .val (.long u1), .second] [])) _
    refine XS.iloadN X1.here hx rfl (hb hby d1_178) rfl ?_
    refine XS.sipush X1.here hx rfl (hb hby d1_179) ?_
    refine XS.icmpYes X1.here hx rfl (pc0 := 182) (pc' := 195) rfl (hb hby d1_182) rfl (feq (by decide : ¬ ((254 : Int32) = (249 : Int32)))).2 (by decide) (by decide) ?_
    show Steps p.tables e below (T1.setTop (mkF m 195 #[.val (.int (254 : Int32)), .val (.long q), .second, .val (.long u1), .second] [])) _
    refine XS.iloadN X1.here hx rfl (hb hby d1_195) rfl ?_
    refine XS.sipush X1.here hx rfl (hb hby d1_196) ?_
    refine XS.icmpYes X1.here hx rfl (pc0 := 199) (pc' := 212) rfl (hb hby d1_199) rfl (feq (by decide : ¬ ((254 : Int32) = (250 : Int32)))).2 (by decide) (by decide) ?_
    show Steps p.tables e below (T1.setTop (mkF m 212 #[.val (.int (254 : Int32)), .val (.long q), .second, .val (.long u1), .second] [])) _
    refine XS.iloadN X1.here hx rfl (hb hby d1_212) rfl ?_
    refine XS.sipush X1.here hx rfl (hb hby d1_213) ?_
    refine XS.icmpYes X1.here hx rfl (pc0 := 216) (pc' := 229) rfl (hb hby d1_216) rfl (feq (by decide : ¬ ((254 : Int32) = (251 : Int32)))).2 (by decide) (by decide) ?_
    show Steps p.tables e below (T1.setTop (mkF m 229 #[.val (.int (254 : Int32)), .val (.long q), .second, .val (.long u1), .second] [])) _
    refine XS.iloadN X1.here hx rfl (hb hby d1_229) rfl ?_
    refine XS.sipush X1.here hx rfl (hb hby d1_230) ?_
    refine XS.icmpYes X1.here hx rfl (pc0 := 233) (pc' := 246) rfl (hb hby d1_233) rfl (feq (by decide : ¬ ((254 : Int32) = (252 : Int32)))).2 (by decide) (by decide) ?_
    show Steps p.tables e below (T1.setTop (mkF m 246 #[.val (.int (254 : Int32)), .val (.long q), .second, .val (.long u1), .second] [])) _
    refine XS.iloadN X1.here hx rfl (hb hby d1_246) rfl ?_
    refine XS.sipush X1.here hx rfl (hb hby d1_247) ?_
    refine XS.icmpYes X1.here hx rfl (pc0 := 250) (pc' := 264) rfl (hb hby d1_250) rfl (feq (by decide : ¬ ((254 : Int32) = (253 : Int32)))).2 (by decide) (by decide) ?_
    show Steps p.tables e below (T1.setTop (mkF m 264 #[.val (.int (254 : Int32)), .val (.long q), .second, .val (.long u1), .second] [])) _
    refine X1.ldc2Long hx hown (mvT hZ (hw _ (List.mem_of_getElem? (i := 31) rfl))) (g := (mkF m 264 #[.val (.int (254 : Int32)), .val (.long q), .second, .val (.long u1), .second] [])) rfl (hb hby d1_264) _ ?_
    show Steps p.tables e below (T1.setTop (mkF m 267 #[.val (.int (254 : Int32)), .val (.long q), .second, .val (.long u1), .second] [(.long (282578800155040 : Int64))])) _
    refine XS.lloadN X1.here hx rfl (hb hby d1_267) rfl ?_
    refine XS.bipush X1.here hx rfl (hb hby d1_268) ?_
    show Steps p.tables e below (T1.setTop (mkF m 270 #[.val (.int (254 : Int32)), .val (.long q), .second, .val (.long u1), .second] [(.int (7 : Int32)), (.long q), (.long (282578800155040 : Int64))])) _
    refine st2 _ ?_
    show Steps p.tables e below (T2.setTop (mkF m 273 #[.val (.int (254 : Int32)), .val (.long q), .second, .val (.long u1), .second] [(.long ((q.toUInt64 >>> (((8 : Int32) * ((7 : Int32) - (7 : Int32))) &&& 0x3f).toInt64.toUInt64).toInt64)), (.long (282578800155040 : Int64))])) _
    refine XS.ladd X2.here hx rfl (hb hby d1_273) rfl ?_
    show Steps p.tables e below (T2.setTop (mkF m 274 #[.val (.int (254 : Int32)), .val (.long q), .second, .val (.long u1), .second] [(.long ((282578800155040 : Int64) + ((q.toUInt64 >>> (((8 : Int32) * ((7 : Int32) - (7 : Int32))) &&& 0x3f).toInt64.toUInt64).toInt64)))])) _
    exact retOut X2 hx Bd.returns rfl (Or.inr (Or.inl ⟨rfl, rfl, _, rfl⟩)) (hb hby d1_274) hr
  · show own_Ql (own_val 254 q.toInt) h0 n0 _ T2.heap _
    rw [e2]
    exact ⟨((282578800155040 : Int64) + ((q.toUInt64 >>> (((8 : Int32) * ((7 : Int32) - (7 : Int32))) &&& 0x3f).toInt64.toUInt64).toInt64)), rfl, N2, rfl, own_e_14 hq0 hq1⟩
theorem own_cls {f : Int32} (h1 : 1 ≤ f.toInt) (h2 : f.toInt ≤ 254) : f = (1 : Int32) ∨ f = (2 : Int32) ∨ f = (3 : Int32) ∨ f = (4 : Int32) ∨ f = (5 : Int32) ∨ f = (6 : Int32) ∨ (7 ≤ f.toInt ∧ f.toInt ≤ 31) ∨ (32 ≤ f.toInt ∧ f.toInt ≤ 223) ∨ (224 ≤ f.toInt ∧ f.toInt ≤ 248) ∨ f = (249 : Int32) ∨ f = (250 : Int32) ∨ f = (251 : Int32) ∨ f = (252 : Int32) ∨ f = (253 : Int32) ∨ f = (254 : Int32) := by
  have key : f.toInt = 1 ∨ f.toInt = 2 ∨ f.toInt = 3 ∨ f.toInt = 4 ∨ f.toInt = 5 ∨ f.toInt = 6 ∨ (7 ≤ f.toInt ∧ f.toInt ≤ 31) ∨ (32 ≤ f.toInt ∧ f.toInt ≤ 223) ∨ (224 ≤ f.toInt ∧ f.toInt ≤ 248) ∨ f.toInt = 249 ∨ f.toInt = 250 ∨ f.toInt = 251 ∨ f.toInt = 252 ∨ f.toInt = 253 ∨ f.toInt = 254 := by omega
  rcases key with h | h | h | h | h | h | h | h | h | h | h | h | h | h | h
  · exact Or.inl (Int32.toInt_inj.mp (h.trans rfl))
  · exact Or.inr (Or.inl (Int32.toInt_inj.mp (h.trans rfl)))
  · exact Or.inr (Or.inr (Or.inl (Int32.toInt_inj.mp (h.trans rfl))))
  · exact Or.inr (Or.inr (Or.inr (Or.inl (Int32.toInt_inj.mp (h.trans rfl)))))
  · exact Or.inr (Or.inr (Or.inr (Or.inr (Or.inl (Int32.toInt_inj.mp (h.trans rfl))))))
  · exact Or.inr (Or.inr (Or.inr (Or.inr (Or.inr (Or.inl (Int32.toInt_inj.mp (h.trans rfl)))))))
  · exact Or.inr (Or.inr (Or.inr (Or.inr (Or.inr (Or.inr (Or.inl (h)))))))
  · exact Or.inr (Or.inr (Or.inr (Or.inr (Or.inr (Or.inr (Or.inr (Or.inl (h))))))))
  · exact Or.inr (Or.inr (Or.inr (Or.inr (Or.inr (Or.inr (Or.inr (Or.inr (Or.inl (h)))))))))
  · exact Or.inr (Or.inr (Or.inr (Or.inr (Or.inr (Or.inr (Or.inr (Or.inr (Or.inr (Or.inl (Int32.toInt_inj.mp (h.trans rfl)))))))))))
  · exact Or.inr (Or.inr (Or.inr (Or.inr (Or.inr (Or.inr (Or.inr (Or.inr (Or.inr (Or.inr (Or.inl (Int32.toInt_inj.mp (h.trans rfl))))))))))))
  · exact Or.inr (Or.inr (Or.inr (Or.inr (Or.inr (Or.inr (Or.inr (Or.inr (Or.inr (Or.inr (Or.inr (Or.inl (Int32.toInt_inj.mp (h.trans rfl)))))))))))))
  · exact Or.inr (Or.inr (Or.inr (Or.inr (Or.inr (Or.inr (Or.inr (Or.inr (Or.inr (Or.inr (Or.inr (Or.inr (Or.inl (Int32.toInt_inj.mp (h.trans rfl))))))))))))))
  · exact Or.inr (Or.inr (Or.inr (Or.inr (Or.inr (Or.inr (Or.inr (Or.inr (Or.inr (Or.inr (Or.inr (Or.inr (Or.inr (Or.inl (Int32.toInt_inj.mp (h.trans rfl)))))))))))))))
  · exact Or.inr (Or.inr (Or.inr (Or.inr (Or.inr (Or.inr (Or.inr (Or.inr (Or.inr (Or.inr (Or.inr (Or.inr (Or.inr (Or.inr ((Int32.toInt_inj.mp (h.trans rfl))))))))))))))))
theorem r_exp (l : Launch) (Z : State) (a0 : Array Value) (hw : ∀ d ∈ tables_1, d.before a0 Z = true) (ws : List Jvm.Cond) (s_R s_F s_E s_L : Addr) (cl_R cl_F cl_E : Cell) (k_L : ClassId) (h0 : Heap) (n0 : Nat) (O0 : Old Z n0 h0) (G : own_Ctx Z Z.heap s_R s_F s_E s_L cl_R cl_F cl_E k_L) (f : Int32) (q : Int64) (hf1 : 1 ≤ f.toInt) (hf2 : f.toInt ≤ 254) (hq0 : 0 ≤ q.toInt) (hq1 : q.toInt < 72057594037927936) :
    MetFree l (⟨"com/example/rattan/rattan/storage/label/ComponentCodeDecodePinLaw", "expected", "(IJ)J"⟩ : MethodName) (head1 (Jvm.Cond.code (⟨"com/example/rattan/rattan/storage/label/ComponentCodeDecodePinLaw", "expected", "(IJ)J"⟩ : MethodName) method_4_code 5 (some .long) :: ws) ({ frames := 1, cells := 0, slots := 0, locals := 64 } : Room)) (fun a U => a = #[(.int f), (.long q)] ∧ Z.Warmed39 U.vm ∧ U.heap = h0) (fun _ _ _ _ _ => True) (fun _ U o U' => ∃ v L, o = .returned v ∧ own_Ql (own_val f.toInt q.toInt) h0 n0 v U'.heap L ∧ FrameEnd U o U' L ({ frames := 1, cells := 0, slots := 0, locals := 64 } : Room).cells ({ frames := 1, cells := 0, slots := 0, locals := 64 } : Room).slots) := by
  rcases own_cls hf1 hf2 with rfl | rfl | rfl | rfl | rfl | rfl | ⟨g1, g2⟩ | ⟨g1, g2⟩ | ⟨g1, g2⟩ | rfl | rfl | rfl | rfl | rfl | rfl
  · exact r_exp_0 l Z a0 hw ws s_R s_F s_E s_L cl_R cl_F cl_E k_L h0 n0 O0 G q hq0 hq1
  · exact r_exp_1 l Z a0 hw ws s_R s_F s_E s_L cl_R cl_F cl_E k_L h0 n0 O0 G q hq0 hq1
  · exact r_exp_2 l Z a0 hw ws s_R s_F s_E s_L cl_R cl_F cl_E k_L h0 n0 O0 G q hq0 hq1
  · exact r_exp_3 l Z a0 hw ws s_R s_F s_E s_L cl_R cl_F cl_E k_L h0 n0 O0 G q hq0 hq1
  · exact r_exp_4 l Z a0 hw ws s_R s_F s_E s_L cl_R cl_F cl_E k_L h0 n0 O0 G q hq0 hq1
  · exact r_exp_5 l Z a0 hw ws s_R s_F s_E s_L cl_R cl_F cl_E k_L h0 n0 O0 G q hq0 hq1
  · exact r_exp_6 l Z a0 hw ws s_R s_F s_E s_L cl_R cl_F cl_E k_L h0 n0 O0 G f q g1 g2 hq0 hq1
  · exact r_exp_7 l Z a0 hw ws s_R s_F s_E s_L cl_R cl_F cl_E k_L h0 n0 O0 G f q g1 g2 hq0 hq1
  · exact r_exp_8 l Z a0 hw ws s_R s_F s_E s_L cl_R cl_F cl_E k_L h0 n0 O0 G f q g1 g2 hq0 hq1
  · exact r_exp_9 l Z a0 hw ws s_R s_F s_E s_L cl_R cl_F cl_E k_L h0 n0 O0 G q hq0 hq1
  · exact r_exp_10 l Z a0 hw ws s_R s_F s_E s_L cl_R cl_F cl_E k_L h0 n0 O0 G q hq0 hq1
  · exact r_exp_11 l Z a0 hw ws s_R s_F s_E s_L cl_R cl_F cl_E k_L h0 n0 O0 G q hq0 hq1
  · exact r_exp_12 l Z a0 hw ws s_R s_F s_E s_L cl_R cl_F cl_E k_L h0 n0 O0 G q hq0 hq1
  · exact r_exp_13 l Z a0 hw ws s_R s_F s_E s_L cl_R cl_F cl_E k_L h0 n0 O0 G q hq0 hq1
  · exact r_exp_14 l Z a0 hw ws s_R s_F s_E s_L cl_R cl_F cl_E k_L h0 n0 O0 G q hq0 hq1
theorem d3_27 : decode prog_41_method_4_code 27 = .ok (.iload 6, 2) := by decide +kernel
theorem d3_29 : decode prog_41_method_4_code 29 = .ok (.getstatic 33, 3) := by decide +kernel
theorem d3_32 : decode prog_41_method_4_code 32 = .ok (.iload_n 3, 1) := by decide +kernel
theorem d3_33 : decode prog_41_method_4_code 33 = .ok (.iaload, 1) := by decide +kernel
theorem d3_34 : decode prog_41_method_4_code 34 = .ok (.if_icmp .gt 28, 3) := by decide +kernel
theorem d3_37 : decode prog_41_method_4_code 37 = .ok (.lload 4, 2) := by decide +kernel
theorem d3_39 : decode prog_41_method_4_code 39 = .ok (.bipush 8, 2) := by decide +kernel
theorem d3_41 : decode prog_41_method_4_code 41 = .ok (.lshl, 1) := by decide +kernel
theorem d3_42 : decode prog_41_method_4_code 42 = .ok (.aload_n 0, 1) := by decide +kernel
theorem d3_43 : decode prog_41_method_4_code 43 = .ok (.iload_n 1, 1) := by decide +kernel
theorem d3_44 : decode prog_41_method_4_code 44 = .ok (.iload 6, 2) := by decide +kernel
theorem d3_46 : decode prog_41_method_4_code 46 = .ok (.iadd, 1) := by decide +kernel
theorem d3_47 : decode prog_41_method_4_code 47 = .ok (.baload, 1) := by decide +kernel
theorem d3_48 : decode prog_41_method_4_code 48 = .ok (.sipush 255, 3) := by decide +kernel
theorem d3_51 : decode prog_41_method_4_code 51 = .ok (.iand, 1) := by decide +kernel
theorem d3_52 : decode prog_41_method_4_code 52 = .ok (.i2l, 1) := by decide +kernel
theorem d3_53 : decode prog_41_method_4_code 53 = .ok (.lor, 1) := by decide +kernel
theorem d3_54 : decode prog_41_method_4_code 54 = .ok (.lstore 4, 2) := by decide +kernel
theorem d3_56 : decode prog_41_method_4_code 56 = .ok (.iinc 6 1, 3) := by decide +kernel
theorem d3_59 : decode prog_41_method_4_code 59 = .ok (.goto (-32), 3) := by decide +kernel
set_option maxRecDepth 65536 in
set_option maxHeartbeats 40000000 in
theorem t_dec {p : Program} {l : Launch} {e : Env} {R : Room} {s : State} {m : MethodId} {args : Array Value} {below : List Frame} {meth : Method} {c : Code} {T0 : State} {locs : List Loc} {cells slots : Nat} {Z : State} {a0 : Array Value} {h0 : Heap} {n0 : Nat} (s_R s_F s_E s_L : Addr) (cl_R cl_F cl_E : Cell) (k_L : ClassId) (ar : Addr) (kk : ClassId) (vs : List Value) (pp f r1 : Int32) (off : Int64) (ee x1 y : Int32)
    (X0 : Stand p l e R s m args below meth c T0 locs cells slots) (hx : p.tables.exec = Jvm.exec) (hZ : Z.Warmed39 s.vm) (hw : ∀ d ∈ tables_1, d.before a0 Z = true) (hby : c.code = prog_41_method_4_code) (hml : c.maxLocals = 7) (hown : s.vm.findClass "com/example/rattan/rattan/storage/label/ComponentCode" = some m.cls) (e0 : T0.heap = h0) (O0 : Old Z n0 h0) (G : own_Ctx Z Z.heap s_R s_F s_E s_L cl_R cl_F cl_E k_L) (Va : Arv Z h0 ar kk .byte (11 : Int32) vs (.int (0 : Int32))) (hr : ¬ (r1 < 0) ∧ r1 < (15 : Int32)) (hE : atv cl_E r1 = x1) (hx1 : ¬ (x1 < ee)) (hp : ¬ ((pp + ee) < 0) ∧ (pp + ee) < (11 : Int32)) (hv : vs.getD (pp + ee).toNatClampNeg (.int (0 : Int32)) = .int y) :
    ∃ T' : State, Stand p l e R s m args below meth c T' locs cells slots ∧ T'.heap = h0 ∧ ∀ target, Steps p.tables e below (T'.setTop (mkF m 27 #[.val (.ref ar), .val (.int pp), .val (.int f), .val (.int r1), .val (.long ((off <<< ((8 : Int32) &&& 0x3f).toInt64) ||| ((y &&& (255 : Int32)).toInt64))), .second, .val (.int (ee + (1 : Int32)))] [])) target → Steps p.tables e below (T0.setTop (mkF m 27 #[.val (.ref ar), .val (.int pp), .val (.int f), .val (.int r1), .val (.long off), .second, .val (.int ee)] [])) target := by
  have G0 := G
  obtain ⟨S_R, C_R, S_F, C_F, S_E, C_E, S_L, V_L, R_1, R_2, R_3, R_4, R_5, F_0, F_1, F_2, F_3, F_4, F_5, F_6, F_7, F_8, F_9, F_10, F_11, F_12, F_13, F_14, E_0, E_1, E_2, E_3, E_4, E_5, E_6, E_7, E_8, E_9, E_10, E_11, E_12, E_13, E_14⟩ := G
  obtain ⟨T1, X1, e1, st1⟩ := getS2 X0 hx hZ hown (host := "") (Or.inl (hw _ (List.mem_of_getElem? (i := 19) rfl))) Via.refl e0 (S_E.ext O0.2) (g := (mkF m 29 #[.val (.ref ar), .val (.int pp), .val (.int f), .val (.int r1), .val (.long off), .second, .val (.int ee)] [(.int ee)])) rfl (hb hby d3_29)
  have Sc2 := (C_E.ext O0.2)
  have hin2 : ¬ (r1 < 0 ∨ cl_E.slots.size ≤ (r1).toNatClampNeg) := inb_of Sc2.2.1 hr
  have vc3 := Va
  obtain ⟨cl3, Ar3, qk3, S3, Nn3, Hs3, Gf3⟩ := vc3
  have hin3 : ¬ ((pp + ee) < 0 ∨ cl3.slots.size ≤ ((pp + ee)).toNatClampNeg) := inb_of S3 hp
  have hat3 : cl3.slots[((pp + ee)).toNatClampNeg]? = some (.int y) := Has.at Hs3 hin3 hv
  refine ⟨T1, X1, e1, fun target kt => ?_⟩
  show Steps p.tables e below (T0.setTop (mkF m 27 #[.val (.ref ar), .val (.int pp), .val (.int f), .val (.int r1), .val (.long off), .second, .val (.int ee)] [])) _
  refine XS.iload X0.here hx rfl (hb hby d3_27) rfl ?_
  show Steps p.tables e below (T0.setTop (mkF m 29 #[.val (.ref ar), .val (.int pp), .val (.int f), .val (.int r1), .val (.long off), .second, .val (.int ee)] [(.int ee)])) _
  refine st1 _ ?_
  show Steps p.tables e below (T1.setTop (mkF m 32 #[.val (.ref ar), .val (.int pp), .val (.int f), .val (.int r1), .val (.long off), .second, .val (.int ee)] [(.ref s_E), (.int ee)])) _
  refine XS.iloadN X1.here hx rfl (hb hby d3_32) rfl ?_
  show Steps p.tables e below (T1.setTop (mkF m 33 #[.val (.ref ar), .val (.int pp), .val (.int f), .val (.int r1), .val (.long off), .second, .val (.int ee)] [(.int r1), (.ref s_E), (.int ee)])) _
  refine X1.iaload hx (j := r1) (v := (.int (atv cl_E r1))) (by rw [e1]; exact Sc2.1.1) (State.isArrayOf_alike hZ.alike Sc2.1.2.1) Sc2.1.2.2 hin2 (Sc2.2.2.2 _ hin2) (g := (mkF m 33 #[.val (.ref ar), .val (.int pp), .val (.int f), .val (.int r1), .val (.long off), .second, .val (.int ee)] [(.int r1), (.ref s_E), (.int ee)])) rfl rfl (hb hby d3_33) _ ?_
  show Steps p.tables e below (T1.setTop (mkF m 34 #[.val (.ref ar), .val (.int pp), .val (.int f), .val (.int r1), .val (.long off), .second, .val (.int ee)] [(.int (atv cl_E r1)), (.int ee)])) _
  rw [hE]
  show Steps p.tables e below (T1.setTop (mkF m 34 #[.val (.ref ar), .val (.int pp), .val (.int f), .val (.int r1), .val (.long off), .second, .val (.int ee)] [(.int x1), (.int ee)])) _
  refine XS.icmpNo X1.here hx rfl (hb hby d3_34) rfl (flt (hx1 : ¬ (x1 < ee))).2.2.1 ?_
  show Steps p.tables e below (T1.setTop (mkF m 37 #[.val (.ref ar), .val (.int pp), .val (.int f), .val (.int r1), .val (.long off), .second, .val (.int ee)] [])) _
  refine XS.lload X1.here hx rfl (hb hby d3_37) rfl ?_
  refine XS.bipush X1.here hx rfl (hb hby d3_39) ?_
  refine XS.lshl X1.here hx rfl (hb hby d3_41) rfl ?_
  show Steps p.tables e below (T1.setTop (mkF m 42 #[.val (.ref ar), .val (.int pp), .val (.int f), .val (.int r1), .val (.long off), .second, .val (.int ee)] [(.long (off <<< ((8 : Int32) &&& 0x3f).toInt64))])) _
  refine XS.aloadN X1.here hx rfl (hb hby d3_42) rfl rfl ?_
  refine XS.iloadN X1.here hx rfl (hb hby d3_43) rfl ?_
  refine XS.iload X1.here hx rfl (hb hby d3_44) rfl ?_
  refine XS.iadd X1.here hx rfl (hb hby d3_46) rfl ?_
  show Steps p.tables e below (T1.setTop (mkF m 47 #[.val (.ref ar), .val (.int pp), .val (.int f), .val (.int r1), .val (.long off), .second, .val (.int ee)] [(.int (pp + ee)), (.ref ar), (.long (off <<< ((8 : Int32) &&& 0x3f).toInt64))])) _
  refine X1.baloadBytes hx (j := (pp + ee)) (v := (.int y)) (by rw [e1]; exact Ar3.1) (State.isArrayOf_alike hZ.alike Ar3.2.1) Ar3.2.2 hin3 hat3 (g := (mkF m 47 #[.val (.ref ar), .val (.int pp), .val (.int f), .val (.int r1), .val (.long off), .second, .val (.int ee)] [(.int (pp + ee)), (.ref ar), (.long (off <<< ((8 : Int32) &&& 0x3f).toInt64))])) rfl rfl (hb hby d3_47) _ ?_
  show Steps p.tables e below (T1.setTop (mkF m 48 #[.val (.ref ar), .val (.int pp), .val (.int f), .val (.int r1), .val (.long off), .second, .val (.int ee)] [(.int y), (.long (off <<< ((8 : Int32) &&& 0x3f).toInt64))])) _
  refine XS.sipush X1.here hx rfl (hb hby d3_48) ?_
  refine XS.iand X1.here hx rfl (hb hby d3_51) rfl ?_
  refine XS.i2l X1.here hx rfl (hb hby d3_52) rfl ?_
  show Steps p.tables e below (T1.setTop (mkF m 53 #[.val (.ref ar), .val (.int pp), .val (.int f), .val (.int r1), .val (.long off), .second, .val (.int ee)] [(.long ((y &&& (255 : Int32)).toInt64)), (.long (off <<< ((8 : Int32) &&& 0x3f).toInt64))])) _
  refine XS.lor X1.here hx rfl (hb hby d3_53) rfl ?_
  show Steps p.tables e below (T1.setTop (mkF m 54 #[.val (.ref ar), .val (.int pp), .val (.int f), .val (.int r1), .val (.long off), .second, .val (.int ee)] [(.long ((off <<< ((8 : Int32) &&& 0x3f).toInt64) ||| ((y &&& (255 : Int32)).toInt64)))])) _
  refine XS.lstore X1.here hx rfl (hb hby d3_54) rfl (l' := #[.val (.ref ar), .val (.int pp), .val (.int f), .val (.int r1), .val (.long ((off <<< ((8 : Int32) &&& 0x3f).toInt64) ||| ((y &&& (255 : Int32)).toInt64))), .second, .val (.int ee)]) rfl ?_
  show Steps p.tables e below (T1.setTop (mkF m 56 #[.val (.ref ar), .val (.int pp), .val (.int f), .val (.int r1), .val (.long ((off <<< ((8 : Int32) &&& 0x3f).toInt64) ||| ((y &&& (255 : Int32)).toInt64))), .second, .val (.int ee)] [])) _
  refine XS.iinc X1.here hx rfl (hb hby d3_56) rfl (l' := #[.val (.ref ar), .val (.int pp), .val (.int f), .val (.int r1), .val (.long ((off <<< ((8 : Int32) &&& 0x3f).toInt64) ||| ((y &&& (255 : Int32)).toInt64))), .second, .val (.int (ee + (1 : Int32)))]) rfl ?_
  show Steps p.tables e below (T1.setTop (mkF m 59 #[.val (.ref ar), .val (.int pp), .val (.int f), .val (.int r1), .val (.long ((off <<< ((8 : Int32) &&& 0x3f).toInt64) ||| ((y &&& (255 : Int32)).toInt64))), .second, .val (.int (ee + (1 : Int32)))] [])) _
  refine XS.goto X1.here hx rfl (pc0 := 59) (pc' := 27) rfl (hb hby d3_59) (by decide) (by decide) ?_
  exact kt
theorem d3_0 : decode prog_41_method_4_code 0 = .ok (.aload_n 0, 1) := by decide +kernel
theorem d3_1 : decode prog_41_method_4_code 1 = .ok (.iload_n 1, 1) := by decide +kernel
theorem d3_2 : decode prog_41_method_4_code 2 = .ok (.baload, 1) := by decide +kernel
theorem d3_3 : decode prog_41_method_4_code 3 = .ok (.sipush 255, 3) := by decide +kernel
theorem d3_6 : decode prog_41_method_4_code 6 = .ok (.iand, 1) := by decide +kernel
theorem d3_7 : decode prog_41_method_4_code 7 = .ok (.istore_n 2, 1) := by decide +kernel
theorem d3_8 : decode prog_41_method_4_code 8 = .ok (.getstatic 40, 3) := by decide +kernel
theorem d3_11 : decode prog_41_method_4_code 11 = .ok (.iload_n 2, 1) := by decide +kernel
theorem d3_12 : decode prog_41_method_4_code 12 = .ok (.iaload, 1) := by decide +kernel
theorem d3_13 : decode prog_41_method_4_code 13 = .ok (.istore_n 3, 1) := by decide +kernel
theorem d3_14 : decode prog_41_method_4_code 14 = .ok (.iload_n 2, 1) := by decide +kernel
theorem d3_15 : decode prog_41_method_4_code 15 = .ok (.getstatic 37, 3) := by decide +kernel
theorem d3_18 : decode prog_41_method_4_code 18 = .ok (.iload_n 3, 1) := by decide +kernel
theorem d3_19 : decode prog_41_method_4_code 19 = .ok (.iaload, 1) := by decide +kernel
theorem d3_20 : decode prog_41_method_4_code 20 = .ok (.isub, 1) := by decide +kernel
theorem d3_21 : decode prog_41_method_4_code 21 = .ok (.i2l, 1) := by decide +kernel
theorem d3_22 : decode prog_41_method_4_code 22 = .ok (.lstore 4, 2) := by decide +kernel
theorem d3_24 : decode prog_41_method_4_code 24 = .ok (.iconst 1, 1) := by decide +kernel
theorem d3_25 : decode prog_41_method_4_code 25 = .ok (.istore 6, 2) := by decide +kernel
theorem d3_62 : decode prog_41_method_4_code 62 = .ok (.getstatic 25, 3) := by decide +kernel
theorem d3_65 : decode prog_41_method_4_code 65 = .ok (.iload_n 3, 1) := by decide +kernel
theorem d3_66 : decode prog_41_method_4_code 66 = .ok (.laload, 1) := by decide +kernel
theorem d3_67 : decode prog_41_method_4_code 67 = .ok (.lload 4, 2) := by decide +kernel
theorem d3_69 : decode prog_41_method_4_code 69 = .ok (.ladd, 1) := by decide +kernel
theorem d3_70 : decode prog_41_method_4_code 70 = .ok (.lreturn, 1) := by decide +kernel
theorem ef_3_2 (m : MethodId) (x0 : Addr) (x1 : Int32) : entryFrame m #[(.ref x0), (.int x1)] 7 = mkF m 0 #[.val (.ref x0), .val (.int x1), .unset, .unset, .unset, .unset, .unset] [] := by first | (simp [entryFrame, mkF, argsToLocals, Value.category]; done) | rfl
theorem pn_1 : plainName "com/example/rattan/rattan/storage/label/ComponentCode" = true := by first | (simp [plainName, overriddenIn]; done) | decide +kernel
theorem own_d_0 {o0 o1 o2 o3 o4 o5 o6 o7 : Int64} {y1 y2 y3 y4 y5 y6 y7 : Int32} {t : Int} (ht0 : 0 ≤ t) (ht1 : t < 72057594037927936) (ho0 : o0 = (((1 : Int32) - (1 : Int32)).toInt64)) (ho1 : o1 = ((o0 <<< ((8 : Int32) &&& 0x3f).toInt64) ||| ((y1 &&& (255 : Int32)).toInt64))) (ho2 : o2 = ((o1 <<< ((8 : Int32) &&& 0x3f).toInt64) ||| ((y2 &&& (255 : Int32)).toInt64))) (ho3 : o3 = ((o2 <<< ((8 : Int32) &&& 0x3f).toInt64) ||| ((y3 &&& (255 : Int32)).toInt64))) (ho4 : o4 = ((o3 <<< ((8 : Int32) &&& 0x3f).toInt64) ||| ((y4 &&& (255 : Int32)).toInt64))) (ho5 : o5 = ((o4 <<< ((8 : Int32) &&& 0x3f).toInt64) ||| ((y5 &&& (255 : Int32)).toInt64))) (ho6 : o6 = ((o5 <<< ((8 : Int32) &&& 0x3f).toInt64) ||| ((y6 &&& (255 : Int32)).toInt64))) (ho7 : o7 = ((o6 <<< ((8 : Int32) &&& 0x3f).toInt64) ||| ((y7 &&& (255 : Int32)).toInt64))) (hy1 : y1.toInt % 256 = (t / 281474976710656) % 256) (hy2 : y2.toInt % 256 = (t / 1099511627776) % 256) (hy3 : y3.toInt % 256 = (t / 4294967296) % 256) (hy4 : y4.toInt % 256 = (t / 16777216) % 256) (hy5 : y5.toInt % 256 = (t / 65536) % 256) (hy6 : y6.toInt % 256 = (t / 256) % 256) (hy7 : y7.toInt % 256 = (t / 1) % 256) : ((-72340172838082848 : Int64) + o7).toInt = own_val 1 t := by
  rw [own_val_0 (by decide) (by decide)]
  have cL : ((-72340172838082848 : Int64)).toInt = -72340172838082848 := rfl
  have x0 : o0.toInt = 0 := by rw [ho0]; rfl
  have x1 : o1.toInt = (t / 281474976710656) := by
    rw [ho1, own_step (X := (t / 72057594037927936)) (by omega) (by omega) (by omega), hy1]; omega
  have x2 : o2.toInt = (t / 1099511627776) := by
    rw [ho2, own_step (X := (t / 281474976710656)) (by omega) (by omega) (by omega), hy2]; omega
  have x3 : o3.toInt = (t / 4294967296) := by
    rw [ho3, own_step (X := (t / 1099511627776)) (by omega) (by omega) (by omega), hy3]; omega
  have x4 : o4.toInt = (t / 16777216) := by
    rw [ho4, own_step (X := (t / 4294967296)) (by omega) (by omega) (by omega), hy4]; omega
  have x5 : o5.toInt = (t / 65536) := by
    rw [ho5, own_step (X := (t / 16777216)) (by omega) (by omega) (by omega), hy5]; omega
  have x6 : o6.toInt = (t / 256) := by
    rw [ho6, own_step (X := (t / 65536)) (by omega) (by omega) (by omega), hy6]; omega
  have x7 : o7.toInt = (t / 1) := by
    rw [ho7, own_step (X := (t / 256)) (by omega) (by omega) (by omega), hy7]; omega
  rw [Jvm.Kit.i64_add (by omega) (by omega), cL, x7]
  omega
set_option maxRecDepth 65536 in
set_option maxHeartbeats 40000000 in
theorem r_dec_0 (l : Launch) (Z : State) (a0 : Array Value) (hw : ∀ d ∈ tables_1, d.before a0 Z = true) (ws : List Jvm.Cond) (s_R s_F s_E s_L : Addr) (cl_R cl_F cl_E : Cell) (k_L : ClassId) (h0 : Heap) (n0 : Nat) (O0 : Old Z n0 h0) (G : own_Ctx Z Z.heap s_R s_F s_E s_L cl_R cl_F cl_E k_L) (ar : Addr) (kk : ClassId) (vs : List Value) (pp : Int32) (y0 y1 y2 y3 y4 y5 y6 y7 : Int32) (t : Int) (Va : Arv Z h0 ar kk .byte (11 : Int32) vs (.int (0 : Int32))) (hg : y0 &&& (255 : Int32) = (1 : Int32)) (ht0 : 0 ≤ t) (ht1 : t < 72057594037927936) (hp0 : ¬ (pp < 0) ∧ pp < (11 : Int32)) (hv0 : vs.getD (pp).toNatClampNeg (.int (0 : Int32)) = .int y0) (hp1 : ¬ ((pp + (1 : Int32)) < 0) ∧ (pp + (1 : Int32)) < (11 : Int32)) (hv1 : vs.getD ((pp + (1 : Int32))).toNatClampNeg (.int (0 : Int32)) = .int y1) (hp2 : ¬ ((pp + ((1 : Int32) + (1 : Int32))) < 0) ∧ (pp + ((1 : Int32) + (1 : Int32))) < (11 : Int32)) (hv2 : vs.getD ((pp + ((1 : Int32) + (1 : Int32)))).toNatClampNeg (.int (0 : Int32)) = .int y2) (hp3 : ¬ ((pp + (((1 : Int32) + (1 : Int32)) + (1 : Int32))) < 0) ∧ (pp + (((1 : Int32) + (1 : Int32)) + (1 : Int32))) < (11 : Int32)) (hv3 : vs.getD ((pp + (((1 : Int32) + (1 : Int32)) + (1 : Int32)))).toNatClampNeg (.int (0 : Int32)) = .int y3) (hp4 : ¬ ((pp + ((((1 : Int32) + (1 : Int32)) + (1 : Int32)) + (1 : Int32))) < 0) ∧ (pp + ((((1 : Int32) + (1 : Int32)) + (1 : Int32)) + (1 : Int32))) < (11 : Int32)) (hv4 : vs.getD ((pp + ((((1 : Int32) + (1 : Int32)) + (1 : Int32)) + (1 : Int32)))).toNatClampNeg (.int (0 : Int32)) = .int y4) (hp5 : ¬ ((pp + (((((1 : Int32) + (1 : Int32)) + (1 : Int32)) + (1 : Int32)) + (1 : Int32))) < 0) ∧ (pp + (((((1 : Int32) + (1 : Int32)) + (1 : Int32)) + (1 : Int32)) + (1 : Int32))) < (11 : Int32)) (hv5 : vs.getD ((pp + (((((1 : Int32) + (1 : Int32)) + (1 : Int32)) + (1 : Int32)) + (1 : Int32)))).toNatClampNeg (.int (0 : Int32)) = .int y5) (hp6 : ¬ ((pp + ((((((1 : Int32) + (1 : Int32)) + (1 : Int32)) + (1 : Int32)) + (1 : Int32)) + (1 : Int32))) < 0) ∧ (pp + ((((((1 : Int32) + (1 : Int32)) + (1 : Int32)) + (1 : Int32)) + (1 : Int32)) + (1 : Int32))) < (11 : Int32)) (hv6 : vs.getD ((pp + ((((((1 : Int32) + (1 : Int32)) + (1 : Int32)) + (1 : Int32)) + (1 : Int32)) + (1 : Int32)))).toNatClampNeg (.int (0 : Int32)) = .int y6) (hp7 : ¬ ((pp + (((((((1 : Int32) + (1 : Int32)) + (1 : Int32)) + (1 : Int32)) + (1 : Int32)) + (1 : Int32)) + (1 : Int32))) < 0) ∧ (pp + (((((((1 : Int32) + (1 : Int32)) + (1 : Int32)) + (1 : Int32)) + (1 : Int32)) + (1 : Int32)) + (1 : Int32))) < (11 : Int32)) (hv7 : vs.getD ((pp + (((((((1 : Int32) + (1 : Int32)) + (1 : Int32)) + (1 : Int32)) + (1 : Int32)) + (1 : Int32)) + (1 : Int32)))).toNatClampNeg (.int (0 : Int32)) = .int y7) (hy1 : y1.toInt % 256 = (t / 281474976710656) % 256) (hy2 : y2.toInt % 256 = (t / 1099511627776) % 256) (hy3 : y3.toInt % 256 = (t / 4294967296) % 256) (hy4 : y4.toInt % 256 = (t / 16777216) % 256) (hy5 : y5.toInt % 256 = (t / 65536) % 256) (hy6 : y6.toInt % 256 = (t / 256) % 256) (hy7 : y7.toInt % 256 = (t / 1) % 256) (hR : atv cl_R (1 : Int32) = (0 : Int32)) :
    MetFree l (⟨"com/example/rattan/rattan/storage/label/ComponentCode", "decode", "([BI)J"⟩ : MethodName) (head1 (Jvm.Cond.code (⟨"com/example/rattan/rattan/storage/label/ComponentCode", "decode", "([BI)J"⟩ : MethodName) prog_41_method_4_code 7 (some .long) :: ws) ({ frames := 0, cells := 0, slots := 0, locals := 0 } : Room)) (fun a U => a = #[(.ref ar), (.int pp)] ∧ Z.Warmed39 U.vm ∧ U.heap = h0) (fun _ _ _ _ _ => True) (fun _ U o U' => ∃ v L, o = .returned v ∧ own_Ql (own_val 1 t) h0 n0 v U'.heap L ∧ FrameEnd U o U' L ({ frames := 0, cells := 0, slots := 0, locals := 0 } : Room).cells ({ frames := 0, cells := 0, slots := 0, locals := 0 } : Room).slots) := by
  have G0 := G
  obtain ⟨S_R, C_R, S_F, C_F, S_E, C_E, S_L, V_L, R_1, R_2, R_3, R_4, R_5, F_0, F_1, F_2, F_3, F_4, F_5, F_6, F_7, F_8, F_9, F_10, F_11, F_12, F_13, F_14, E_0, E_1, E_2, E_3, E_4, E_5, E_6, E_7, E_8, E_9, E_10, E_11, E_12, E_13, E_14⟩ := G
  refine MetFree.of_bodySF (plainFor_of_name pn_1) hisR ?_
  intro p e s m args below meth c s₁ Bd hml0 hP hK
  obtain ⟨rfl, hZ, hh⟩ := hP
  have hx := Bd.exec
  have hby := Bd.bytes
  have hml : c.maxLocals = 7 := hml0
  have hown : s.vm.findClass "com/example/rattan/rattan/storage/label/ComponentCode" = some m.cls := findClass_of_methodNamed Bd.named
  have hnm := (name_of_methodNamed Bd.named Bd.method).1
  have X0 : Stand p l e ({ frames := 0, cells := 0, slots := 0, locals := 0 } : Room) s m #[(.ref ar), (.int pp)] below meth c s₁ [] 0 0 := Stand.of_body Bd
  have e0 : s₁.heap = h0 := by rw [← hh, Bd.state]; rfl
  have N0 := Fr.nil n0
  have pre0 : ∀ t, Steps p.tables e below (s₁.setTop (mkF m 0 #[.val (.ref ar), .val (.int pp), .unset, .unset, .unset, .unset, .unset] [])) t → Steps p.tables e below (s₁.setTop (entryFrame m #[(.ref ar), (.int pp)] 7)) t := fun t k => castTop (ef_3_2 m ar pp) k
  have vc1 := Va
  obtain ⟨cl1, Ar1, qk1, S1, Nn1, Hs1, Gf1⟩ := vc1
  have hin1 : ¬ (pp < 0 ∨ cl1.slots.size ≤ (pp).toNatClampNeg) := inb_of S1 hp0
  have hat1 : cl1.slots[(pp).toNatClampNeg]? = some (.int y0) := Has.at Hs1 hin1 hv0
  obtain ⟨T2, X2, e2, st2⟩ := getS2 X0 hx hZ hown (host := "") (Or.inl (hw _ (List.mem_of_getElem? (i := 15) rfl))) Via.refl e0 (S_R.ext O0.2) (g := (mkF m 8 #[.val (.ref ar), .val (.int pp), .val (.int (1 : Int32)), .unset, .unset, .unset, .unset] [])) rfl (hb hby d3_8)
  have Sc3 := (C_R.ext O0.2)
  have hin3 : ¬ ((1 : Int32) < 0 ∨ cl_R.slots.size ≤ ((1 : Int32)).toNatClampNeg) := inb_of Sc3.2.1 ⟨by decide, by decide⟩
  obtain ⟨T4, X4, e4, st4⟩ := getS2 X2 hx hZ hown (host := "") (Or.inl (hw _ (List.mem_of_getElem? (i := 17) rfl))) Via.refl e2 (S_F.ext O0.2) (g := (mkF m 15 #[.val (.ref ar), .val (.int pp), .val (.int (1 : Int32)), .val (.int (0 : Int32)), .unset, .unset, .unset] [(.int (1 : Int32))])) rfl (hb hby d3_15)
  have Sc5 := (C_F.ext O0.2)
  have hin5 : ¬ ((0 : Int32) < 0 ∨ cl_F.slots.size ≤ ((0 : Int32)).toNatClampNeg) := inb_of Sc5.2.1 ⟨by decide, by decide⟩
  obtain ⟨o0, ho0⟩ : ∃ z : Int64, z = (((1 : Int32) - (1 : Int32)).toInt64) := ⟨_, rfl⟩
  obtain ⟨T6, X6, e6, st6⟩ := t_dec s_R s_F s_E s_L cl_R cl_F cl_E k_L ar kk vs pp (1 : Int32) (0 : Int32) o0 (1 : Int32) (7 : Int32) y1 X4 hx hZ hw hby hml hown e4 O0 G0 Va ⟨by decide, by decide⟩ E_0 (by decide) hp1 hv1
  obtain ⟨o1, ho1⟩ : ∃ z : Int64, z = ((o0 <<< ((8 : Int32) &&& 0x3f).toInt64) ||| ((y1 &&& (255 : Int32)).toInt64)) := ⟨_, rfl⟩
  obtain ⟨T7, X7, e7, st7⟩ := t_dec s_R s_F s_E s_L cl_R cl_F cl_E k_L ar kk vs pp (1 : Int32) (0 : Int32) o1 ((1 : Int32) + (1 : Int32)) (7 : Int32) y2 X6 hx hZ hw hby hml hown e6 O0 G0 Va ⟨by decide, by decide⟩ E_0 (by decide) hp2 hv2
  obtain ⟨o2, ho2⟩ : ∃ z : Int64, z = ((o1 <<< ((8 : Int32) &&& 0x3f).toInt64) ||| ((y2 &&& (255 : Int32)).toInt64)) := ⟨_, rfl⟩
  obtain ⟨T8, X8, e8, st8⟩ := t_dec s_R s_F s_E s_L cl_R cl_F cl_E k_L ar kk vs pp (1 : Int32) (0 : Int32) o2 (((1 : Int32) + (1 : Int32)) + (1 : Int32)) (7 : Int32) y3 X7 hx hZ hw hby hml hown e7 O0 G0 Va ⟨by decide, by decide⟩ E_0 (by decide) hp3 hv3
  obtain ⟨o3, ho3⟩ : ∃ z : Int64, z = ((o2 <<< ((8 : Int32) &&& 0x3f).toInt64) ||| ((y3 &&& (255 : Int32)).toInt64)) := ⟨_, rfl⟩
  obtain ⟨T9, X9, e9, st9⟩ := t_dec s_R s_F s_E s_L cl_R cl_F cl_E k_L ar kk vs pp (1 : Int32) (0 : Int32) o3 ((((1 : Int32) + (1 : Int32)) + (1 : Int32)) + (1 : Int32)) (7 : Int32) y4 X8 hx hZ hw hby hml hown e8 O0 G0 Va ⟨by decide, by decide⟩ E_0 (by decide) hp4 hv4
  obtain ⟨o4, ho4⟩ : ∃ z : Int64, z = ((o3 <<< ((8 : Int32) &&& 0x3f).toInt64) ||| ((y4 &&& (255 : Int32)).toInt64)) := ⟨_, rfl⟩
  obtain ⟨T10, X10, e10, st10⟩ := t_dec s_R s_F s_E s_L cl_R cl_F cl_E k_L ar kk vs pp (1 : Int32) (0 : Int32) o4 (((((1 : Int32) + (1 : Int32)) + (1 : Int32)) + (1 : Int32)) + (1 : Int32)) (7 : Int32) y5 X9 hx hZ hw hby hml hown e9 O0 G0 Va ⟨by decide, by decide⟩ E_0 (by decide) hp5 hv5
  obtain ⟨o5, ho5⟩ : ∃ z : Int64, z = ((o4 <<< ((8 : Int32) &&& 0x3f).toInt64) ||| ((y5 &&& (255 : Int32)).toInt64)) := ⟨_, rfl⟩
  obtain ⟨T11, X11, e11, st11⟩ := t_dec s_R s_F s_E s_L cl_R cl_F cl_E k_L ar kk vs pp (1 : Int32) (0 : Int32) o5 ((((((1 : Int32) + (1 : Int32)) + (1 : Int32)) + (1 : Int32)) + (1 : Int32)) + (1 : Int32)) (7 : Int32) y6 X10 hx hZ hw hby hml hown e10 O0 G0 Va ⟨by decide, by decide⟩ E_0 (by decide) hp6 hv6
  obtain ⟨o6, ho6⟩ : ∃ z : Int64, z = ((o5 <<< ((8 : Int32) &&& 0x3f).toInt64) ||| ((y6 &&& (255 : Int32)).toInt64)) := ⟨_, rfl⟩
  obtain ⟨T12, X12, e12, st12⟩ := t_dec s_R s_F s_E s_L cl_R cl_F cl_E k_L ar kk vs pp (1 : Int32) (0 : Int32) o6 (((((((1 : Int32) + (1 : Int32)) + (1 : Int32)) + (1 : Int32)) + (1 : Int32)) + (1 : Int32)) + (1 : Int32)) (7 : Int32) y7 X11 hx hZ hw hby hml hown e11 O0 G0 Va ⟨by decide, by decide⟩ E_0 (by decide) hp7 hv7
  obtain ⟨o7, ho7⟩ : ∃ z : Int64, z = ((o6 <<< ((8 : Int32) &&& 0x3f).toInt64) ||| ((y7 &&& (255 : Int32)).toInt64)) := ⟨_, rfl⟩
  obtain ⟨T13, X13, e13, st13⟩ := getS2 X12 hx hZ hown (host := "") (Or.inl (hw _ (List.mem_of_getElem? (i := 19) rfl))) Via.refl e12 (S_E.ext O0.2) (g := (mkF m 29 #[.val (.ref ar), .val (.int pp), .val (.int (1 : Int32)), .val (.int (0 : Int32)), .val (.long o7), .second, .val (.int ((((((((1 : Int32) + (1 : Int32)) + (1 : Int32)) + (1 : Int32)) + (1 : Int32)) + (1 : Int32)) + (1 : Int32)) + (1 : Int32)))] [(.int ((((((((1 : Int32) + (1 : Int32)) + (1 : Int32)) + (1 : Int32)) + (1 : Int32)) + (1 : Int32)) + (1 : Int32)) + (1 : Int32)))])) rfl (hb hby d3_29)
  have Sc14 := (C_E.ext O0.2)
  have hin14 : ¬ ((0 : Int32) < 0 ∨ cl_E.slots.size ≤ ((0 : Int32)).toNatClampNeg) := inb_of Sc14.2.1 ⟨by decide, by decide⟩
  obtain ⟨T15, X15, e15, st15⟩ := getS2 X13 hx hZ hown (host := "") (Or.inl (hw _ (List.mem_of_getElem? (i := 21) rfl))) Via.refl e13 (S_L.ext O0.2) (g := (mkF m 62 #[.val (.ref ar), .val (.int pp), .val (.int (1 : Int32)), .val (.int (0 : Int32)), .val (.long o7), .second, .val (.int ((((((((1 : Int32) + (1 : Int32)) + (1 : Int32)) + (1 : Int32)) + (1 : Int32)) + (1 : Int32)) + (1 : Int32)) + (1 : Int32)))] [])) rfl (hb hby d3_62)
  have vc16 := (V_L.ext O0.2)
  obtain ⟨cl16, Ar16, qk16, S16, Nn16, Hs16, Gf16⟩ := vc16
  have hin16 : ¬ ((0 : Int32) < 0 ∨ cl16.slots.size ≤ ((0 : Int32)).toNatClampNeg) := inb_of S16 ⟨by decide, by decide⟩
  have hat16 : cl16.slots[((0 : Int32)).toNatClampNeg]? = some (.long (-72340172838082848 : Int64)) := Has.at Hs16 hin16 rfl
  obtain ⟨fs, hr, hrun, hended, hW, hsame⟩ := X15.leave (v := some (.long ((-72340172838082848 : Int64) + o7))) (fun h => by rw [Bd.returns] at h; cases h)
  refine ⟨_, _, pre0 _ ?_, hrun, hended, _, _, rfl, ?_, ⟨_, rfl⟩, hW, hsame.mono (by decide) (by decide)⟩
  · show Steps p.tables e below (s₁.setTop (mkF m 0 #[.val (.ref ar), .val (.int pp), .unset, .unset, .unset, .unset, .unset] [])) _
    refine XS.aloadN X0.here hx rfl (hb hby d3_0) rfl rfl ?_
    refine XS.iloadN X0.here hx rfl (hb hby d3_1) rfl ?_
    show Steps p.tables e below (s₁.setTop (mkF m 2 #[.val (.ref ar), .val (.int pp), .unset, .unset, .unset, .unset, .unset] [(.int pp), (.ref ar)])) _
    refine X0.baloadBytes hx (j := pp) (v := (.int y0)) (by rw [e0]; exact Ar1.1) (State.isArrayOf_alike hZ.alike Ar1.2.1) Ar1.2.2 hin1 hat1 (g := (mkF m 2 #[.val (.ref ar), .val (.int pp), .unset, .unset, .unset, .unset, .unset] [(.int pp), (.ref ar)])) rfl rfl (hb hby d3_2) _ ?_
    show Steps p.tables e below (s₁.setTop (mkF m 3 #[.val (.ref ar), .val (.int pp), .unset, .unset, .unset, .unset, .unset] [(.int y0)])) _
    refine XS.sipush X0.here hx rfl (hb hby d3_3) ?_
    refine XS.iand X0.here hx rfl (hb hby d3_6) rfl ?_
    show Steps p.tables e below (s₁.setTop (mkF m 7 #[.val (.ref ar), .val (.int pp), .unset, .unset, .unset, .unset, .unset] [(.int (y0 &&& (255 : Int32)))])) _
    rw [hg]
    refine XS.istoreN X0.here hx rfl (hb hby d3_7) rfl (l' := #[.val (.ref ar), .val (.int pp), .val (.int (1 : Int32)), .unset, .unset, .unset, .unset]) rfl ?_
    show Steps p.tables e below (s₁.setTop (mkF m 8 #[.val (.ref ar), .val (.int pp), .val (.int (1 : Int32)), .unset, .unset, .unset, .unset] [])) _
    refine st2 _ ?_
    show Steps p.tables e below (T2.setTop (mkF m 11 #[.val (.ref ar), .val (.int pp), .val (.int (1 : Int32)), .unset, .unset, .unset, .unset] [(.ref s_R)])) _
    refine XS.iloadN X2.here hx rfl (hb hby d3_11) rfl ?_
    show Steps p.tables e below (T2.setTop (mkF m 12 #[.val (.ref ar), .val (.int pp), .val (.int (1 : Int32)), .unset, .unset, .unset, .unset] [(.int (1 : Int32)), (.ref s_R)])) _
    refine X2.iaload hx (j := (1 : Int32)) (v := (.int (atv cl_R (1 : Int32)))) (by rw [e2]; exact Sc3.1.1) (State.isArrayOf_alike hZ.alike Sc3.1.2.1) Sc3.1.2.2 hin3 (Sc3.2.2.2 _ hin3) (g := (mkF m 12 #[.val (.ref ar), .val (.int pp), .val (.int (1 : Int32)), .unset, .unset, .unset, .unset] [(.int (1 : Int32)), (.ref s_R)])) rfl rfl (hb hby d3_12) _ ?_
    show Steps p.tables e below (T2.setTop (mkF m 13 #[.val (.ref ar), .val (.int pp), .val (.int (1 : Int32)), .unset, .unset, .unset, .unset] [(.int (atv cl_R (1 : Int32)))])) _
    rw [hR]
    show Steps p.tables e below (T2.setTop (mkF m 13 #[.val (.ref ar), .val (.int pp), .val (.int (1 : Int32)), .unset, .unset, .unset, .unset] [(.int (0 : Int32))])) _
    refine XS.istoreN X2.here hx rfl (hb hby d3_13) rfl (l' := #[.val (.ref ar), .val (.int pp), .val (.int (1 : Int32)), .val (.int (0 : Int32)), .unset, .unset, .unset]) rfl ?_
    show Steps p.tables e below (T2.setTop (mkF m 14 #[.val (.ref ar), .val (.int pp), .val (.int (1 : Int32)), .val (.int (0 : Int32)), .unset, .unset, .unset] [])) _
    refine XS.iloadN X2.here hx rfl (hb hby d3_14) rfl ?_
    show Steps p.tables e below (T2.setTop (mkF m 15 #[.val (.ref ar), .val (.int pp), .val (.int (1 : Int32)), .val (.int (0 : Int32)), .unset, .unset, .unset] [(.int (1 : Int32))])) _
    refine st4 _ ?_
    show Steps p.tables e below (T4.setTop (mkF m 18 #[.val (.ref ar), .val (.int pp), .val (.int (1 : Int32)), .val (.int (0 : Int32)), .unset, .unset, .unset] [(.ref s_F), (.int (1 : Int32))])) _
    refine XS.iloadN X4.here hx rfl (hb hby d3_18) rfl ?_
    show Steps p.tables e below (T4.setTop (mkF m 19 #[.val (.ref ar), .val (.int pp), .val (.int (1 : Int32)), .val (.int (0 : Int32)), .unset, .unset, .unset] [(.int (0 : Int32)), (.ref s_F), (.int (1 : Int32))])) _
    refine X4.iaload hx (j := (0 : Int32)) (v := (.int (atv cl_F (0 : Int32)))) (by rw [e4]; exact Sc5.1.1) (State.isArrayOf_alike hZ.alike Sc5.1.2.1) Sc5.1.2.2 hin5 (Sc5.2.2.2 _ hin5) (g := (mkF m 19 #[.val (.ref ar), .val (.int pp), .val (.int (1 : Int32)), .val (.int (0 : Int32)), .unset, .unset, .unset] [(.int (0 : Int32)), (.ref s_F), (.int (1 : Int32))])) rfl rfl (hb hby d3_19) _ ?_
    show Steps p.tables e below (T4.setTop (mkF m 20 #[.val (.ref ar), .val (.int pp), .val (.int (1 : Int32)), .val (.int (0 : Int32)), .unset, .unset, .unset] [(.int (atv cl_F (0 : Int32))), (.int (1 : Int32))])) _
    rw [F_0]
    show Steps p.tables e below (T4.setTop (mkF m 20 #[.val (.ref ar), .val (.int pp), .val (.int (1 : Int32)), .val (.int (0 : Int32)), .unset, .unset, .unset] [(.int (1 : Int32)), (.int (1 : Int32))])) _
    refine XS.isub X4.here hx rfl (hb hby d3_20) rfl ?_
    show Steps p.tables e below (T4.setTop (mkF m 21 #[.val (.ref ar), .val (.int pp), .val (.int (1 : Int32)), .val (.int (0 : Int32)), .unset, .unset, .unset] [(.int ((1 : Int32) - (1 : Int32)))])) _
    refine XS.i2l X4.here hx rfl (hb hby d3_21) rfl ?_
    show Steps p.tables e below (T4.setTop (mkF m 22 #[.val (.ref ar), .val (.int pp), .val (.int (1 : Int32)), .val (.int (0 : Int32)), .unset, .unset, .unset] [(.long (((1 : Int32) - (1 : Int32)).toInt64))])) _
    refine XS.lstore X4.here hx rfl (hb hby d3_22) rfl (l' := #[.val (.ref ar), .val (.int pp), .val (.int (1 : Int32)), .val (.int (0 : Int32)), .val (.long (((1 : Int32) - (1 : Int32)).toInt64)), .second, .unset]) rfl ?_
    show Steps p.tables e below (T4.setTop (mkF m 24 #[.val (.ref ar), .val (.int pp), .val (.int (1 : Int32)), .val (.int (0 : Int32)), .val (.long (((1 : Int32) - (1 : Int32)).toInt64)), .second, .unset] [])) _
    refine XS.iconst X4.here hx rfl (hb hby d3_24) ?_
    refine XS.istore X4.here hx rfl (hb hby d3_25) rfl (l' := #[.val (.ref ar), .val (.int pp), .val (.int (1 : Int32)), .val (.int (0 : Int32)), .val (.long (((1 : Int32) - (1 : Int32)).toInt64)), .second, .val (.int (1 : Int32))]) rfl ?_
    show Steps p.tables e below (T4.setTop (mkF m 27 #[.val (.ref ar), .val (.int pp), .val (.int (1 : Int32)), .val (.int (0 : Int32)), .val (.long (((1 : Int32) - (1 : Int32)).toInt64)), .second, .val (.int (1 : Int32))] [])) _
    rw [← ho0]
    show Steps p.tables e below (T4.setTop (mkF m 27 #[.val (.ref ar), .val (.int pp), .val (.int (1 : Int32)), .val (.int (0 : Int32)), .val (.long o0), .second, .val (.int (1 : Int32))] [])) _
    refine st6 _ ?_
    show Steps p.tables e below (T6.setTop (mkF m 27 #[.val (.ref ar), .val (.int pp), .val (.int (1 : Int32)), .val (.int (0 : Int32)), .val (.long ((o0 <<< ((8 : Int32) &&& 0x3f).toInt64) ||| ((y1 &&& (255 : Int32)).toInt64))), .second, .val (.int ((1 : Int32) + (1 : Int32)))] [])) _
    rw [← ho1]
    show Steps p.tables e below (T6.setTop (mkF m 27 #[.val (.ref ar), .val (.int pp), .val (.int (1 : Int32)), .val (.int (0 : Int32)), .val (.long o1), .second, .val (.int ((1 : Int32) + (1 : Int32)))] [])) _
    refine st7 _ ?_
    show Steps p.tables e below (T7.setTop (mkF m 27 #[.val (.ref ar), .val (.int pp), .val (.int (1 : Int32)), .val (.int (0 : Int32)), .val (.long ((o1 <<< ((8 : Int32) &&& 0x3f).toInt64) ||| ((y2 &&& (255 : Int32)).toInt64))), .second, .val (.int (((1 : Int32) + (1 : Int32)) + (1 : Int32)))] [])) _
    rw [← ho2]
    show Steps p.tables e below (T7.setTop (mkF m 27 #[.val (.ref ar), .val (.int pp), .val (.int (1 : Int32)), .val (.int (0 : Int32)), .val (.long o2), .second, .val (.int (((1 : Int32) + (1 : Int32)) + (1 : Int32)))] [])) _
    refine st8 _ ?_
    show Steps p.tables e below (T8.setTop (mkF m 27 #[.val (.ref ar), .val (.int pp), .val (.int (1 : Int32)), .val (.int (0 : Int32)), .val (.long ((o2 <<< ((8 : Int32) &&& 0x3f).toInt64) ||| ((y3 &&& (255 : Int32)).toInt64))), .second, .val (.int ((((1 : Int32) + (1 : Int32)) + (1 : Int32)) + (1 : Int32)))] [])) _
    rw [← ho3]
    show Steps p.tables e below (T8.setTop (mkF m 27 #[.val (.ref ar), .val (.int pp), .val (.int (1 : Int32)), .val (.int (0 : Int32)), .val (.long o3), .second, .val (.int ((((1 : Int32) + (1 : Int32)) + (1 : Int32)) + (1 : Int32)))] [])) _
    refine st9 _ ?_
    show Steps p.tables e below (T9.setTop (mkF m 27 #[.val (.ref ar), .val (.int pp), .val (.int (1 : Int32)), .val (.int (0 : Int32)), .val (.long ((o3 <<< ((8 : Int32) &&& 0x3f).toInt64) ||| ((y4 &&& (255 : Int32)).toInt64))), .second, .val (.int (((((1 : Int32) + (1 : Int32)) + (1 : Int32)) + (1 : Int32)) + (1 : Int32)))] [])) _
    rw [← ho4]
    show Steps p.tables e below (T9.setTop (mkF m 27 #[.val (.ref ar), .val (.int pp), .val (.int (1 : Int32)), .val (.int (0 : Int32)), .val (.long o4), .second, .val (.int (((((1 : Int32) + (1 : Int32)) + (1 : Int32)) + (1 : Int32)) + (1 : Int32)))] [])) _
    refine st10 _ ?_
    show Steps p.tables e below (T10.setTop (mkF m 27 #[.val (.ref ar), .val (.int pp), .val (.int (1 : Int32)), .val (.int (0 : Int32)), .val (.long ((o4 <<< ((8 : Int32) &&& 0x3f).toInt64) ||| ((y5 &&& (255 : Int32)).toInt64))), .second, .val (.int ((((((1 : Int32) + (1 : Int32)) + (1 : Int32)) + (1 : Int32)) + (1 : Int32)) + (1 : Int32)))] [])) _
    rw [← ho5]
    show Steps p.tables e below (T10.setTop (mkF m 27 #[.val (.ref ar), .val (.int pp), .val (.int (1 : Int32)), .val (.int (0 : Int32)), .val (.long o5), .second, .val (.int ((((((1 : Int32) + (1 : Int32)) + (1 : Int32)) + (1 : Int32)) + (1 : Int32)) + (1 : Int32)))] [])) _
    refine st11 _ ?_
    show Steps p.tables e below (T11.setTop (mkF m 27 #[.val (.ref ar), .val (.int pp), .val (.int (1 : Int32)), .val (.int (0 : Int32)), .val (.long ((o5 <<< ((8 : Int32) &&& 0x3f).toInt64) ||| ((y6 &&& (255 : Int32)).toInt64))), .second, .val (.int (((((((1 : Int32) + (1 : Int32)) + (1 : Int32)) + (1 : Int32)) + (1 : Int32)) + (1 : Int32)) + (1 : Int32)))] [])) _
    rw [← ho6]
    show Steps p.tables e below (T11.setTop (mkF m 27 #[.val (.ref ar), .val (.int pp), .val (.int (1 : Int32)), .val (.int (0 : Int32)), .val (.long o6), .second, .val (.int (((((((1 : Int32) + (1 : Int32)) + (1 : Int32)) + (1 : Int32)) + (1 : Int32)) + (1 : Int32)) + (1 : Int32)))] [])) _
    refine st12 _ ?_
    show Steps p.tables e below (T12.setTop (mkF m 27 #[.val (.ref ar), .val (.int pp), .val (.int (1 : Int32)), .val (.int (0 : Int32)), .val (.long ((o6 <<< ((8 : Int32) &&& 0x3f).toInt64) ||| ((y7 &&& (255 : Int32)).toInt64))), .second, .val (.int ((((((((1 : Int32) + (1 : Int32)) + (1 : Int32)) + (1 : Int32)) + (1 : Int32)) + (1 : Int32)) + (1 : Int32)) + (1 : Int32)))] [])) _
    rw [← ho7]
    show Steps p.tables e below (T12.setTop (mkF m 27 #[.val (.ref ar), .val (.int pp), .val (.int (1 : Int32)), .val (.int (0 : Int32)), .val (.long o7), .second, .val (.int ((((((((1 : Int32) + (1 : Int32)) + (1 : Int32)) + (1 : Int32)) + (1 : Int32)) + (1 : Int32)) + (1 : Int32)) + (1 : Int32)))] [])) _
    refine XS.iload X12.here hx rfl (hb hby d3_27) rfl ?_
    show Steps p.tables e below (T12.setTop (mkF m 29 #[.val (.ref ar), .val (.int pp), .val (.int (1 : Int32)), .val (.int (0 : Int32)), .val (.long o7), .second, .val (.int ((((((((1 : Int32) + (1 : Int32)) + (1 : Int32)) + (1 : Int32)) + (1 : Int32)) + (1 : Int32)) + (1 : Int32)) + (1 : Int32)))] [(.int ((((((((1 : Int32) + (1 : Int32)) + (1 : Int32)) + (1 : Int32)) + (1 : Int32)) + (1 : Int32)) + (1 : Int32)) + (1 : Int32)))])) _
    refine st13 _ ?_
    show Steps p.tables e below (T13.setTop (mkF m 32 #[.val (.ref ar), .val (.int pp), .val (.int (1 : Int32)), .val (.int (0 : Int32)), .val (.long o7), .second, .val (.int ((((((((1 : Int32) + (1 : Int32)) + (1 : Int32)) + (1 : Int32)) + (1 : Int32)) + (1 : Int32)) + (1 : Int32)) + (1 : Int32)))] [(.ref s_E), (.int ((((((((1 : Int32) + (1 : Int32)) + (1 : Int32)) + (1 : Int32)) + (1 : Int32)) + (1 : Int32)) + (1 : Int32)) + (1 : Int32)))])) _
    refine XS.iloadN X13.here hx rfl (hb hby d3_32) rfl ?_
    show Steps p.tables e below (T13.setTop (mkF m 33 #[.val (.ref ar), .val (.int pp), .val (.int (1 : Int32)), .val (.int (0 : Int32)), .val (.long o7), .second, .val (.int ((((((((1 : Int32) + (1 : Int32)) + (1 : Int32)) + (1 : Int32)) + (1 : Int32)) + (1 : Int32)) + (1 : Int32)) + (1 : Int32)))] [(.int (0 : Int32)), (.ref s_E), (.int ((((((((1 : Int32) + (1 : Int32)) + (1 : Int32)) + (1 : Int32)) + (1 : Int32)) + (1 : Int32)) + (1 : Int32)) + (1 : Int32)))])) _
    refine X13.iaload hx (j := (0 : Int32)) (v := (.int (atv cl_E (0 : Int32)))) (by rw [e13]; exact Sc14.1.1) (State.isArrayOf_alike hZ.alike Sc14.1.2.1) Sc14.1.2.2 hin14 (Sc14.2.2.2 _ hin14) (g := (mkF m 33 #[.val (.ref ar), .val (.int pp), .val (.int (1 : Int32)), .val (.int (0 : Int32)), .val (.long o7), .second, .val (.int ((((((((1 : Int32) + (1 : Int32)) + (1 : Int32)) + (1 : Int32)) + (1 : Int32)) + (1 : Int32)) + (1 : Int32)) + (1 : Int32)))] [(.int (0 : Int32)), (.ref s_E), (.int ((((((((1 : Int32) + (1 : Int32)) + (1 : Int32)) + (1 : Int32)) + (1 : Int32)) + (1 : Int32)) + (1 : Int32)) + (1 : Int32)))])) rfl rfl (hb hby d3_33) _ ?_
    show Steps p.tables e below (T13.setTop (mkF m 34 #[.val (.ref ar), .val (.int pp), .val (.int (1 : Int32)), .val (.int (0 : Int32)), .val (.long o7), .second, .val (.int ((((((((1 : Int32) + (1 : Int32)) + (1 : Int32)) + (1 : Int32)) + (1 : Int32)) + (1 : Int32)) + (1 : Int32)) + (1 : Int32)))] [(.int (atv cl_E (0 : Int32))), (.int ((((((((1 : Int32) + (1 : Int32)) + (1 : Int32)) + (1 : Int32)) + (1 : Int32)) + (1 : Int32)) + (1 : Int32)) + (1 : Int32)))])) _
    rw [E_0]
    show Steps p.tables e below (T13.setTop (mkF m 34 #[.val (.ref ar), .val (.int pp), .val (.int (1 : Int32)), .val (.int (0 : Int32)), .val (.long o7), .second, .val (.int ((((((((1 : Int32) + (1 : Int32)) + (1 : Int32)) + (1 : Int32)) + (1 : Int32)) + (1 : Int32)) + (1 : Int32)) + (1 : Int32)))] [(.int (7 : Int32)), (.int ((((((((1 : Int32) + (1 : Int32)) + (1 : Int32)) + (1 : Int32)) + (1 : Int32)) + (1 : Int32)) + (1 : Int32)) + (1 : Int32)))])) _
    refine XS.icmpYes X13.here hx rfl (pc0 := 34) (pc' := 62) rfl (hb hby d3_34) rfl (tlt (by decide : (7 : Int32) < ((((((((1 : Int32) + (1 : Int32)) + (1 : Int32)) + (1 : Int32)) + (1 : Int32)) + (1 : Int32)) + (1 : Int32)) + (1 : Int32)))).2.2.1 (by decide) (by decide) ?_
    show Steps p.tables e below (T13.setTop (mkF m 62 #[.val (.ref ar), .val (.int pp), .val (.int (1 : Int32)), .val (.int (0 : Int32)), .val (.long o7), .second, .val (.int ((((((((1 : Int32) + (1 : Int32)) + (1 : Int32)) + (1 : Int32)) + (1 : Int32)) + (1 : Int32)) + (1 : Int32)) + (1 : Int32)))] [])) _
    refine st15 _ ?_
    show Steps p.tables e below (T15.setTop (mkF m 65 #[.val (.ref ar), .val (.int pp), .val (.int (1 : Int32)), .val (.int (0 : Int32)), .val (.long o7), .second, .val (.int ((((((((1 : Int32) + (1 : Int32)) + (1 : Int32)) + (1 : Int32)) + (1 : Int32)) + (1 : Int32)) + (1 : Int32)) + (1 : Int32)))] [(.ref s_L)])) _
    refine XS.iloadN X15.here hx rfl (hb hby d3_65) rfl ?_
    show Steps p.tables e below (T15.setTop (mkF m 66 #[.val (.ref ar), .val (.int pp), .val (.int (1 : Int32)), .val (.int (0 : Int32)), .val (.long o7), .second, .val (.int ((((((((1 : Int32) + (1 : Int32)) + (1 : Int32)) + (1 : Int32)) + (1 : Int32)) + (1 : Int32)) + (1 : Int32)) + (1 : Int32)))] [(.int (0 : Int32)), (.ref s_L)])) _
    refine X15.laload hx (j := (0 : Int32)) (v := (.long (-72340172838082848 : Int64))) (by rw [e15]; exact Ar16.1) (State.isArrayOf_alike hZ.alike Ar16.2.1) Ar16.2.2 hin16 hat16 (g := (mkF m 66 #[.val (.ref ar), .val (.int pp), .val (.int (1 : Int32)), .val (.int (0 : Int32)), .val (.long o7), .second, .val (.int ((((((((1 : Int32) + (1 : Int32)) + (1 : Int32)) + (1 : Int32)) + (1 : Int32)) + (1 : Int32)) + (1 : Int32)) + (1 : Int32)))] [(.int (0 : Int32)), (.ref s_L)])) rfl rfl (hb hby d3_66) _ ?_
    show Steps p.tables e below (T15.setTop (mkF m 67 #[.val (.ref ar), .val (.int pp), .val (.int (1 : Int32)), .val (.int (0 : Int32)), .val (.long o7), .second, .val (.int ((((((((1 : Int32) + (1 : Int32)) + (1 : Int32)) + (1 : Int32)) + (1 : Int32)) + (1 : Int32)) + (1 : Int32)) + (1 : Int32)))] [(.long (-72340172838082848 : Int64))])) _
    refine XS.lload X15.here hx rfl (hb hby d3_67) rfl ?_
    refine XS.ladd X15.here hx rfl (hb hby d3_69) rfl ?_
    show Steps p.tables e below (T15.setTop (mkF m 70 #[.val (.ref ar), .val (.int pp), .val (.int (1 : Int32)), .val (.int (0 : Int32)), .val (.long o7), .second, .val (.int ((((((((1 : Int32) + (1 : Int32)) + (1 : Int32)) + (1 : Int32)) + (1 : Int32)) + (1 : Int32)) + (1 : Int32)) + (1 : Int32)))] [(.long ((-72340172838082848 : Int64) + o7))])) _
    exact retOut X15 hx Bd.returns rfl (Or.inr (Or.inl ⟨rfl, rfl, _, rfl⟩)) (hb hby d3_70) hr
  · show own_Ql (own_val 1 t) h0 n0 _ T15.heap _
    rw [e15]
    exact ⟨_, rfl, N0, rfl, own_d_0 ht0 ht1 ho0 ho1 ho2 ho3 ho4 ho5 ho6 ho7 hy1 hy2 hy3 hy4 hy5 hy6 hy7⟩
theorem own_d_1 {o0 o1 o2 o3 o4 o5 o6 : Int64} {y1 y2 y3 y4 y5 y6 : Int32} {t : Int} (ht0 : 0 ≤ t) (ht1 : t < 72057594037927936) (ho0 : o0 = (((2 : Int32) - (2 : Int32)).toInt64)) (ho1 : o1 = ((o0 <<< ((8 : Int32) &&& 0x3f).toInt64) ||| ((y1 &&& (255 : Int32)).toInt64))) (ho2 : o2 = ((o1 <<< ((8 : Int32) &&& 0x3f).toInt64) ||| ((y2 &&& (255 : Int32)).toInt64))) (ho3 : o3 = ((o2 <<< ((8 : Int32) &&& 0x3f).toInt64) ||| ((y3 &&& (255 : Int32)).toInt64))) (ho4 : o4 = ((o3 <<< ((8 : Int32) &&& 0x3f).toInt64) ||| ((y4 &&& (255 : Int32)).toInt64))) (ho5 : o5 = ((o4 <<< ((8 : Int32) &&& 0x3f).toInt64) ||| ((y5 &&& (255 : Int32)).toInt64))) (ho6 : o6 = ((o5 <<< ((8 : Int32) &&& 0x3f).toInt64) ||| ((y6 &&& (255 : Int32)).toInt64))) (hy1 : y1.toInt % 256 = (t / 281474976710656) % 256) (hy2 : y2.toInt % 256 = (t / 1099511627776) % 256) (hy3 : y3.toInt % 256 = (t / 4294967296) % 256) (hy4 : y4.toInt % 256 = (t / 16777216) % 256) (hy5 : y5.toInt % 256 = (t / 65536) % 256) (hy6 : y6.toInt % 256 = (t / 256) % 256) : ((-282578800154912 : Int64) + o6).toInt = own_val 2 t := by
  rw [own_val_1 (by decide) (by decide)]
  have cL : ((-282578800154912 : Int64)).toInt = -282578800154912 := rfl
  have x0 : o0.toInt = 0 := by rw [ho0]; rfl
  have x1 : o1.toInt = (t / 281474976710656) := by
    rw [ho1, own_step (X := (t / 72057594037927936)) (by omega) (by omega) (by omega), hy1]; omega
  have x2 : o2.toInt = (t / 1099511627776) := by
    rw [ho2, own_step (X := (t / 281474976710656)) (by omega) (by omega) (by omega), hy2]; omega
  have x3 : o3.toInt = (t / 4294967296) := by
    rw [ho3, own_step (X := (t / 1099511627776)) (by omega) (by omega) (by omega), hy3]; omega
  have x4 : o4.toInt = (t / 16777216) := by
    rw [ho4, own_step (X := (t / 4294967296)) (by omega) (by omega) (by omega), hy4]; omega
  have x5 : o5.toInt = (t / 65536) := by
    rw [ho5, own_step (X := (t / 16777216)) (by omega) (by omega) (by omega), hy5]; omega
  have x6 : o6.toInt = (t / 256) := by
    rw [ho6, own_step (X := (t / 65536)) (by omega) (by omega) (by omega), hy6]; omega
  rw [Jvm.Kit.i64_add (by omega) (by omega), cL, x6]
  omega
set_option maxRecDepth 65536 in
set_option maxHeartbeats 40000000 in
theorem r_dec_1 (l : Launch) (Z : State) (a0 : Array Value) (hw : ∀ d ∈ tables_1, d.before a0 Z = true) (ws : List Jvm.Cond) (s_R s_F s_E s_L : Addr) (cl_R cl_F cl_E : Cell) (k_L : ClassId) (h0 : Heap) (n0 : Nat) (O0 : Old Z n0 h0) (G : own_Ctx Z Z.heap s_R s_F s_E s_L cl_R cl_F cl_E k_L) (ar : Addr) (kk : ClassId) (vs : List Value) (pp : Int32) (y0 y1 y2 y3 y4 y5 y6 y7 : Int32) (t : Int) (Va : Arv Z h0 ar kk .byte (11 : Int32) vs (.int (0 : Int32))) (hg : y0 &&& (255 : Int32) = (2 : Int32)) (ht0 : 0 ≤ t) (ht1 : t < 72057594037927936) (hp0 : ¬ (pp < 0) ∧ pp < (11 : Int32)) (hv0 : vs.getD (pp).toNatClampNeg (.int (0 : Int32)) = .int y0) (hp1 : ¬ ((pp + (1 : Int32)) < 0) ∧ (pp + (1 : Int32)) < (11 : Int32)) (hv1 : vs.getD ((pp + (1 : Int32))).toNatClampNeg (.int (0 : Int32)) = .int y1) (hp2 : ¬ ((pp + ((1 : Int32) + (1 : Int32))) < 0) ∧ (pp + ((1 : Int32) + (1 : Int32))) < (11 : Int32)) (hv2 : vs.getD ((pp + ((1 : Int32) + (1 : Int32)))).toNatClampNeg (.int (0 : Int32)) = .int y2) (hp3 : ¬ ((pp + (((1 : Int32) + (1 : Int32)) + (1 : Int32))) < 0) ∧ (pp + (((1 : Int32) + (1 : Int32)) + (1 : Int32))) < (11 : Int32)) (hv3 : vs.getD ((pp + (((1 : Int32) + (1 : Int32)) + (1 : Int32)))).toNatClampNeg (.int (0 : Int32)) = .int y3) (hp4 : ¬ ((pp + ((((1 : Int32) + (1 : Int32)) + (1 : Int32)) + (1 : Int32))) < 0) ∧ (pp + ((((1 : Int32) + (1 : Int32)) + (1 : Int32)) + (1 : Int32))) < (11 : Int32)) (hv4 : vs.getD ((pp + ((((1 : Int32) + (1 : Int32)) + (1 : Int32)) + (1 : Int32)))).toNatClampNeg (.int (0 : Int32)) = .int y4) (hp5 : ¬ ((pp + (((((1 : Int32) + (1 : Int32)) + (1 : Int32)) + (1 : Int32)) + (1 : Int32))) < 0) ∧ (pp + (((((1 : Int32) + (1 : Int32)) + (1 : Int32)) + (1 : Int32)) + (1 : Int32))) < (11 : Int32)) (hv5 : vs.getD ((pp + (((((1 : Int32) + (1 : Int32)) + (1 : Int32)) + (1 : Int32)) + (1 : Int32)))).toNatClampNeg (.int (0 : Int32)) = .int y5) (hp6 : ¬ ((pp + ((((((1 : Int32) + (1 : Int32)) + (1 : Int32)) + (1 : Int32)) + (1 : Int32)) + (1 : Int32))) < 0) ∧ (pp + ((((((1 : Int32) + (1 : Int32)) + (1 : Int32)) + (1 : Int32)) + (1 : Int32)) + (1 : Int32))) < (11 : Int32)) (hv6 : vs.getD ((pp + ((((((1 : Int32) + (1 : Int32)) + (1 : Int32)) + (1 : Int32)) + (1 : Int32)) + (1 : Int32)))).toNatClampNeg (.int (0 : Int32)) = .int y6) (hy1 : y1.toInt % 256 = (t / 281474976710656) % 256) (hy2 : y2.toInt % 256 = (t / 1099511627776) % 256) (hy3 : y3.toInt % 256 = (t / 4294967296) % 256) (hy4 : y4.toInt % 256 = (t / 16777216) % 256) (hy5 : y5.toInt % 256 = (t / 65536) % 256) (hy6 : y6.toInt % 256 = (t / 256) % 256) (hR : atv cl_R (2 : Int32) = (1 : Int32)) :
    MetFree l (⟨"com/example/rattan/rattan/storage/label/ComponentCode", "decode", "([BI)J"⟩ : MethodName) (head1 (Jvm.Cond.code (⟨"com/example/rattan/rattan/storage/label/ComponentCode", "decode", "([BI)J"⟩ : MethodName) prog_41_method_4_code 7 (some .long) :: ws) ({ frames := 0, cells := 0, slots := 0, locals := 0 } : Room)) (fun a U => a = #[(.ref ar), (.int pp)] ∧ Z.Warmed39 U.vm ∧ U.heap = h0) (fun _ _ _ _ _ => True) (fun _ U o U' => ∃ v L, o = .returned v ∧ own_Ql (own_val 2 t) h0 n0 v U'.heap L ∧ FrameEnd U o U' L ({ frames := 0, cells := 0, slots := 0, locals := 0 } : Room).cells ({ frames := 0, cells := 0, slots := 0, locals := 0 } : Room).slots) := by
  have G0 := G
  obtain ⟨S_R, C_R, S_F, C_F, S_E, C_E, S_L, V_L, R_1, R_2, R_3, R_4, R_5, F_0, F_1, F_2, F_3, F_4, F_5, F_6, F_7, F_8, F_9, F_10, F_11, F_12, F_13, F_14, E_0, E_1, E_2, E_3, E_4, E_5, E_6, E_7, E_8, E_9, E_10, E_11, E_12, E_13, E_14⟩ := G
  refine MetFree.of_bodySF (plainFor_of_name pn_1) hisR ?_
  intro p e s m args below meth c s₁ Bd hml0 hP hK
  obtain ⟨rfl, hZ, hh⟩ := hP
  have hx := Bd.exec
  have hby := Bd.bytes
  have hml : c.maxLocals = 7 := hml0
  have hown : s.vm.findClass "com/example/rattan/rattan/storage/label/ComponentCode" = some m.cls := findClass_of_methodNamed Bd.named
  have hnm := (name_of_methodNamed Bd.named Bd.method).1
  have X0 : Stand p l e ({ frames := 0, cells := 0, slots := 0, locals := 0 } : Room) s m #[(.ref ar), (.int pp)] below meth c s₁ [] 0 0 := Stand.of_body Bd
  have e0 : s₁.heap = h0 := by rw [← hh, Bd.state]; rfl
  have N0 := Fr.nil n0
  have pre0 : ∀ t, Steps p.tables e below (s₁.setTop (mkF m 0 #[.val (.ref ar), .val (.int pp), .unset, .unset, .unset, .unset, .unset] [])) t → Steps p.tables e below (s₁.setTop (entryFrame m #[(.ref ar), (.int pp)] 7)) t := fun t k => castTop (ef_3_2 m ar pp) k
  have vc1 := Va
  obtain ⟨cl1, Ar1, qk1, S1, Nn1, Hs1, Gf1⟩ := vc1
  have hin1 : ¬ (pp < 0 ∨ cl1.slots.size ≤ (pp).toNatClampNeg) := inb_of S1 hp0
  have hat1 : cl1.slots[(pp).toNatClampNeg]? = some (.int y0) := Has.at Hs1 hin1 hv0
  obtain ⟨T2, X2, e2, st2⟩ := getS2 X0 hx hZ hown (host := "") (Or.inl (hw _ (List.mem_of_getElem? (i := 15) rfl))) Via.refl e0 (S_R.ext O0.2) (g := (mkF m 8 #[.val (.ref ar), .val (.int pp), .val (.int (2 : Int32)), .unset, .unset, .unset, .unset] [])) rfl (hb hby d3_8)
  have Sc3 := (C_R.ext O0.2)
  have hin3 : ¬ ((2 : Int32) < 0 ∨ cl_R.slots.size ≤ ((2 : Int32)).toNatClampNeg) := inb_of Sc3.2.1 ⟨by decide, by decide⟩
  obtain ⟨T4, X4, e4, st4⟩ := getS2 X2 hx hZ hown (host := "") (Or.inl (hw _ (List.mem_of_getElem? (i := 17) rfl))) Via.refl e2 (S_F.ext O0.2) (g := (mkF m 15 #[.val (.ref ar), .val (.int pp), .val (.int (2 : Int32)), .val (.int (1 : Int32)), .unset, .unset, .unset] [(.int (2 : Int32))])) rfl (hb hby d3_15)
  have Sc5 := (C_F.ext O0.2)
  have hin5 : ¬ ((1 : Int32) < 0 ∨ cl_F.slots.size ≤ ((1 : Int32)).toNatClampNeg) := inb_of Sc5.2.1 ⟨by decide, by decide⟩
  obtain ⟨o0, ho0⟩ : ∃ z : Int64, z = (((2 : Int32) - (2 : Int32)).toInt64) := ⟨_, rfl⟩
  obtain ⟨T6, X6, e6, st6⟩ := t_dec s_R s_F s_E s_L cl_R cl_F cl_E k_L ar kk vs pp (2 : Int32) (1 : Int32) o0 (1 : Int32) (6 : Int32) y1 X4 hx hZ hw hby hml hown e4 O0 G0 Va ⟨by decide, by decide⟩ E_1 (by decide) hp1 hv1
  obtain ⟨o1, ho1⟩ : ∃ z : Int64, z = ((o0 <<< ((8 : Int32) &&& 0x3f).toInt64) ||| ((y1 &&& (255 : Int32)).toInt64)) := ⟨_, rfl⟩
  obtain ⟨T7, X7, e7, st7⟩ := t_dec s_R s_F s_E s_L cl_R cl_F cl_E k_L ar kk vs pp (2 : Int32) (1 : Int32) o1 ((1 : Int32) + (1 : Int32)) (6 : Int32) y2 X6 hx hZ hw hby hml hown e6 O0 G0 Va ⟨by decide, by decide⟩ E_1 (by decide) hp2 hv2
  obtain ⟨o2, ho2⟩ : ∃ z : Int64, z = ((o1 <<< ((8 : Int32) &&& 0x3f).toInt64) ||| ((y2 &&& (255 : Int32)).toInt64)) := ⟨_, rfl⟩
  obtain ⟨T8, X8, e8, st8⟩ := t_dec s_R s_F s_E s_L cl_R cl_F cl_E k_L ar kk vs pp (2 : Int32) (1 : Int32) o2 (((1 : Int32) + (1 : Int32)) + (1 : Int32)) (6 : Int32) y3 X7 hx hZ hw hby hml hown e7 O0 G0 Va ⟨by decide, by decide⟩ E_1 (by decide) hp3 hv3
  obtain ⟨o3, ho3⟩ : ∃ z : Int64, z = ((o2 <<< ((8 : Int32) &&& 0x3f).toInt64) ||| ((y3 &&& (255 : Int32)).toInt64)) := ⟨_, rfl⟩
  obtain ⟨T9, X9, e9, st9⟩ := t_dec s_R s_F s_E s_L cl_R cl_F cl_E k_L ar kk vs pp (2 : Int32) (1 : Int32) o3 ((((1 : Int32) + (1 : Int32)) + (1 : Int32)) + (1 : Int32)) (6 : Int32) y4 X8 hx hZ hw hby hml hown e8 O0 G0 Va ⟨by decide, by decide⟩ E_1 (by decide) hp4 hv4
  obtain ⟨o4, ho4⟩ : ∃ z : Int64, z = ((o3 <<< ((8 : Int32) &&& 0x3f).toInt64) ||| ((y4 &&& (255 : Int32)).toInt64)) := ⟨_, rfl⟩
  obtain ⟨T10, X10, e10, st10⟩ := t_dec s_R s_F s_E s_L cl_R cl_F cl_E k_L ar kk vs pp (2 : Int32) (1 : Int32) o4 (((((1 : Int32) + (1 : Int32)) + (1 : Int32)) + (1 : Int32)) + (1 : Int32)) (6 : Int32) y5 X9 hx hZ hw hby hml hown e9 O0 G0 Va ⟨by decide, by decide⟩ E_1 (by decide) hp5 hv5
  obtain ⟨o5, ho5⟩ : ∃ z : Int64, z = ((o4 <<< ((8 : Int32) &&& 0x3f).toInt64) ||| ((y5 &&& (255 : Int32)).toInt64)) := ⟨_, rfl⟩
  obtain ⟨T11, X11, e11, st11⟩ := t_dec s_R s_F s_E s_L cl_R cl_F cl_E k_L ar kk vs pp (2 : Int32) (1 : Int32) o5 ((((((1 : Int32) + (1 : Int32)) + (1 : Int32)) + (1 : Int32)) + (1 : Int32)) + (1 : Int32)) (6 : Int32) y6 X10 hx hZ hw hby hml hown e10 O0 G0 Va ⟨by decide, by decide⟩ E_1 (by decide) hp6 hv6
  obtain ⟨o6, ho6⟩ : ∃ z : Int64, z = ((o5 <<< ((8 : Int32) &&& 0x3f).toInt64) ||| ((y6 &&& (255 : Int32)).toInt64)) := ⟨_, rfl⟩
  obtain ⟨T12, X12, e12, st12⟩ := getS2 X11 hx hZ hown (host := "") (Or.inl (hw _ (List.mem_of_getElem? (i := 19) rfl))) Via.refl e11 (S_E.ext O0.2) (g := (mkF m 29 #[.val (.ref ar), .val (.int pp), .val (.int (2 : Int32)), .val (.int (1 : Int32)), .val (.long o6), .second, .val (.int (((((((1 : Int32) + (1 : Int32)) + (1 : Int32)) + (1 : Int32)) + (1 : Int32)) + (1 : Int32)) + (1 : Int32)))] [(.int (((((((1 : Int32) + (1 : Int32)) + (1 : Int32)) + (1 : Int32)) + (1 : Int32)) + (1 : Int32)) + (1 : Int32)))])) rfl (hb hby d3_29)
  have Sc13 := (C_E.ext O0.2)
  have hin13 : ¬ ((1 : Int32) < 0 ∨ cl_E.slots.size ≤ ((1 : Int32)).toNatClampNeg) := inb_of Sc13.2.1 ⟨by decide, by decide⟩
  obtain ⟨T14, X14, e14, st14⟩ := getS2 X12 hx hZ hown (host := "") (Or.inl (hw _ (List.mem_of_getElem? (i := 21) rfl))) Via.refl e12 (S_L.ext O0.2) (g := (mkF m 62 #[.val (.ref ar), .val (.int pp), .val (.int (2 : Int32)), .val (.int (1 : Int32)), .val (.long o6), .second, .val (.int (((((((1 : Int32) + (1 : Int32)) + (1 : Int32)) + (1 : Int32)) + (1 : Int32)) + (1 : Int32)) + (1 : Int32)))] [])) rfl (hb hby d3_62)
  have vc15 := (V_L.ext O0.2)
  obtain ⟨cl15, Ar15, qk15, S15, Nn15, Hs15, Gf15⟩ := vc15
  have hin15 : ¬ ((1 : Int32) < 0 ∨ cl15.slots.size ≤ ((1 : Int32)).toNatClampNeg) := inb_of S15 ⟨by decide, by decide⟩
  have hat15 : cl15.slots[((1 : Int32)).toNatClampNeg]? = some (.long (-282578800154912 : Int64)) := Has.at Hs15 hin15 rfl
  obtain ⟨fs, hr, hrun, hended, hW, hsame⟩ := X14.leave (v := some (.long ((-282578800154912 : Int64) + o6))) (fun h => by rw [Bd.returns] at h; cases h)
  refine ⟨_, _, pre0 _ ?_, hrun, hended, _, _, rfl, ?_, ⟨_, rfl⟩, hW, hsame.mono (by decide) (by decide)⟩
  · show Steps p.tables e below (s₁.setTop (mkF m 0 #[.val (.ref ar), .val (.int pp), .unset, .unset, .unset, .unset, .unset] [])) _
    refine XS.aloadN X0.here hx rfl (hb hby d3_0) rfl rfl ?_
    refine XS.iloadN X0.here hx rfl (hb hby d3_1) rfl ?_
    show Steps p.tables e below (s₁.setTop (mkF m 2 #[.val (.ref ar), .val (.int pp), .unset, .unset, .unset, .unset, .unset] [(.int pp), (.ref ar)])) _
    refine X0.baloadBytes hx (j := pp) (v := (.int y0)) (by rw [e0]; exact Ar1.1) (State.isArrayOf_alike hZ.alike Ar1.2.1) Ar1.2.2 hin1 hat1 (g := (mkF m 2 #[.val (.ref ar), .val (.int pp), .unset, .unset, .unset, .unset, .unset] [(.int pp), (.ref ar)])) rfl rfl (hb hby d3_2) _ ?_
    show Steps p.tables e below (s₁.setTop (mkF m 3 #[.val (.ref ar), .val (.int pp), .unset, .unset, .unset, .unset, .unset] [(.int y0)])) _
    refine XS.sipush X0.here hx rfl (hb hby d3_3) ?_
    refine XS.iand X0.here hx rfl (hb hby d3_6) rfl ?_
    show Steps p.tables e below (s₁.setTop (mkF m 7 #[.val (.ref ar), .val (.int pp), .unset, .unset, .unset, .unset, .unset] [(.int (y0 &&& (255 : Int32)))])) _
    rw [hg]
    refine XS.istoreN X0.here hx rfl (hb hby d3_7) rfl (l' := #[.val (.ref ar), .val (.int pp), .val (.int (2 : Int32)), .unset, .unset, .unset, .unset]) rfl ?_
    show Steps p.tables e below (s₁.setTop (mkF m 8 #[.val (.ref ar), .val (.int pp), .val (.int (2 : Int32)), .unset, .unset, .unset, .unset] [])) _
    refine st2 _ ?_
    show Steps p.tables e below (T2.setTop (mkF m 11 #[.val (.ref ar), .val (.int pp), .val (.int (2 : Int32)), .unset, .unset, .unset, .unset] [(.ref s_R)])) _
    refine XS.iloadN X2.here hx rfl (hb hby d3_11) rfl ?_
    show Steps p.tables e below (T2.setTop (mkF m 12 #[.val (.ref ar), .val (.int pp), .val (.int (2 : Int32)), .unset, .unset, .unset, .unset] [(.int (2 : Int32)), (.ref s_R)])) _
    refine X2.iaload hx (j := (2 : Int32)) (v := (.int (atv cl_R (2 : Int32)))) (by rw [e2]; exact Sc3.1.1) (State.isArrayOf_alike hZ.alike Sc3.1.2.1) Sc3.1.2.2 hin3 (Sc3.2.2.2 _ hin3) (g := (mkF m 12 #[.val (.ref ar), .val (.int pp), .val (.int (2 : Int32)), .unset, .unset, .unset, .unset] [(.int (2 : Int32)), (.ref s_R)])) rfl rfl (hb hby d3_12) _ ?_
    show Steps p.tables e below (T2.setTop (mkF m 13 #[.val (.ref ar), .val (.int pp), .val (.int (2 : Int32)), .unset, .unset, .unset, .unset] [(.int (atv cl_R (2 : Int32)))])) _
    rw [hR]
    show Steps p.tables e below (T2.setTop (mkF m 13 #[.val (.ref ar), .val (.int pp), .val (.int (2 : Int32)), .unset, .unset, .unset, .unset] [(.int (1 : Int32))])) _
    refine XS.istoreN X2.here hx rfl (hb hby d3_13) rfl (l' := #[.val (.ref ar), .val (.int pp), .val (.int (2 : Int32)), .val (.int (1 : Int32)), .unset, .unset, .unset]) rfl ?_
    show Steps p.tables e below (T2.setTop (mkF m 14 #[.val (.ref ar), .val (.int pp), .val (.int (2 : Int32)), .val (.int (1 : Int32)), .unset, .unset, .unset] [])) _
    refine XS.iloadN X2.here hx rfl (hb hby d3_14) rfl ?_
    show Steps p.tables e below (T2.setTop (mkF m 15 #[.val (.ref ar), .val (.int pp), .val (.int (2 : Int32)), .val (.int (1 : Int32)), .unset, .unset, .unset] [(.int (2 : Int32))])) _
    refine st4 _ ?_
    show Steps p.tables e below (T4.setTop (mkF m 18 #[.val (.ref ar), .val (.int pp), .val (.int (2 : Int32)), .val (.int (1 : Int32)), .unset, .unset, .unset] [(.ref s_F), (.int (2 : Int32))])) _
    refine XS.iloadN X4.here hx rfl (hb hby d3_18) rfl ?_
    show Steps p.tables e below (T4.setTop (mkF m 19 #[.val (.ref ar), .val (.int pp), .val (.int (2 : Int32)), .val (.int (1 : Int32)), .unset, .unset, .unset] [(.int (1 : Int32)), (.ref s_F), (.int (2 : Int32))])) _
    refine X4.iaload hx (j := (1 : Int32)) (v := (.int (atv cl_F (1 : Int32)))) (by rw [e4]; exact Sc5.1.1) (State.isArrayOf_alike hZ.alike Sc5.1.2.1) Sc5.1.2.2 hin5 (Sc5.2.2.2 _ hin5) (g := (mkF m 19 #[.val (.ref ar), .val (.int pp), .val (.int (2 : Int32)), .val (.int (1 : Int32)), .unset, .unset, .unset] [(.int (1 : Int32)), (.ref s_F), (.int (2 : Int32))])) rfl rfl (hb hby d3_19) _ ?_
    show Steps p.tables e below (T4.setTop (mkF m 20 #[.val (.ref ar), .val (.int pp), .val (.int (2 : Int32)), .val (.int (1 : Int32)), .unset, .unset, .unset] [(.int (atv cl_F (1 : Int32))), (.int (2 : Int32))])) _
    rw [F_1]
    show Steps p.tables e below (T4.setTop (mkF m 20 #[.val (.ref ar), .val (.int pp), .val (.int (2 : Int32)), .val (.int (1 : Int32)), .unset, .unset, .unset] [(.int (2 : Int32)), (.int (2 : Int32))])) _
    refine XS.isub X4.here hx rfl (hb hby d3_20) rfl ?_
    show Steps p.tables e below (T4.setTop (mkF m 21 #[.val (.ref ar), .val (.int pp), .val (.int (2 : Int32)), .val (.int (1 : Int32)), .unset, .unset, .unset] [(.int ((2 : Int32) - (2 : Int32)))])) _
    refine XS.i2l X4.here hx rfl (hb hby d3_21) rfl ?_
    show Steps p.tables e below (T4.setTop (mkF m 22 #[.val (.ref ar), .val (.int pp), .val (.int (2 : Int32)), .val (.int (1 : Int32)), .unset, .unset, .unset] [(.long (((2 : Int32) - (2 : Int32)).toInt64))])) _
    refine XS.lstore X4.here hx rfl (hb hby d3_22) rfl (l' := #[.val (.ref ar), .val (.int pp), .val (.int (2 : Int32)), .val (.int (1 : Int32)), .val (.long (((2 : Int32) - (2 : Int32)).toInt64)), .second, .unset]) rfl ?_
    show Steps p.tables e below (T4.setTop (mkF m 24 #[.val (.ref ar), .val (.int pp), .val (.int (2 : Int32)), .val (.int (1 : Int32)), .val (.long (((2 : Int32) - (2 : Int32)).toInt64)), .second, .unset] [])) _
    refine XS.iconst X4.here hx rfl (hb hby d3_24) ?_
    refine XS.istore X4.here hx rfl (hb hby d3_25) rfl (l' := #[.val (.ref ar), .val (.int pp), .val (.int (2 : Int32)), .val (.int (1 : Int32)), .val (.long (((2 : Int32) - (2 : Int32)).toInt64)), .second, .val (.int (1 : Int32))]) rfl ?_
    show Steps p.tables e below (T4.setTop (mkF m 27 #[.val (.ref ar), .val (.int pp), .val (.int (2 : Int32)), .val (.int (1 : Int32)), .val (.long (((2 : Int32) - (2 : Int32)).toInt64)), .second, .val (.int (1 : Int32))] [])) _
    rw [← ho0]
    show Steps p.tables e below (T4.setTop (mkF m 27 #[.val (.ref ar), .val (.int pp), .val (.int (2 : Int32)), .val (.int (1 : Int32)), .val (.long o0), .second, .val (.int (1 : Int32))] [])) _
    refine st6 _ ?_
    show Steps p.tables e below (T6.setTop (mkF m 27 #[.val (.ref ar), .val (.int pp), .val (.int (2 : Int32)), .val (.int (1 : Int32)), .val (.long ((o0 <<< ((8 : Int32) &&& 0x3f).toInt64) ||| ((y1 &&& (255 : Int32)).toInt64))), .second, .val (.int ((1 : Int32) + (1 : Int32)))] [])) _
    rw [← ho1]
    show Steps p.tables e below (T6.setTop (mkF m 27 #[.val (.ref ar), .val (.int pp), .val (.int (2 : Int32)), .val (.int (1 : Int32)), .val (.long o1), .second, .val (.int ((1 : Int32) + (1 : Int32)))] [])) _
    refine st7 _ ?_
    show Steps p.tables e below (T7.setTop (mkF m 27 #[.val (.ref ar), .val (.int pp), .val (.int (2 : Int32)), .val (.int (1 : Int32)), .val (.long ((o1 <<< ((8 : Int32) &&& 0x3f).toInt64) ||| ((y2 &&& (255 : Int32)).toInt64))), .second, .val (.int (((1 : Int32) + (1 : Int32)) + (1 : Int32)))] [])) _
    rw [← ho2]
    show Steps p.tables e below (T7.setTop (mkF m 27 #[.val (.ref ar), .val (.int pp), .val (.int (2 : Int32)), .val (.int (1 : Int32)), .val (.long o2), .second, .val (.int (((1 : Int32) + (1 : Int32)) + (1 : Int32)))] [])) _
    refine st8 _ ?_
    show Steps p.tables e below (T8.setTop (mkF m 27 #[.val (.ref ar), .val (.int pp), .val (.int (2 : Int32)), .val (.int (1 : Int32)), .val (.long ((o2 <<< ((8 : Int32) &&& 0x3f).toInt64) ||| ((y3 &&& (255 : Int32)).toInt64))), .second, .val (.int ((((1 : Int32) + (1 : Int32)) + (1 : Int32)) + (1 : Int32)))] [])) _
    rw [← ho3]
    show Steps p.tables e below (T8.setTop (mkF m 27 #[.val (.ref ar), .val (.int pp), .val (.int (2 : Int32)), .val (.int (1 : Int32)), .val (.long o3), .second, .val (.int ((((1 : Int32) + (1 : Int32)) + (1 : Int32)) + (1 : Int32)))] [])) _
    refine st9 _ ?_
    show Steps p.tables e below (T9.setTop (mkF m 27 #[.val (.ref ar), .val (.int pp), .val (.int (2 : Int32)), .val (.int (1 : Int32)), .val (.long ((o3 <<< ((8 : Int32) &&& 0x3f).toInt64) ||| ((y4 &&& (255 : Int32)).toInt64))), .second, .val (.int (((((1 : Int32) + (1 : Int32)) + (1 : Int32)) + (1 : Int32)) + (1 : Int32)))] [])) _
    rw [← ho4]
    show Steps p.tables e below (T9.setTop (mkF m 27 #[.val (.ref ar), .val (.int pp), .val (.int (2 : Int32)), .val (.int (1 : Int32)), .val (.long o4), .second, .val (.int (((((1 : Int32) + (1 : Int32)) + (1 : Int32)) + (1 : Int32)) + (1 : Int32)))] [])) _
    refine st10 _ ?_
    show Steps p.tables e below (T10.setTop (mkF m 27 #[.val (.ref ar), .val (.int pp), .val (.int (2 : Int32)), .val (.int (1 : Int32)), .val (.long ((o4 <<< ((8 : Int32) &&& 0x3f).toInt64) ||| ((y5 &&& (255 : Int32)).toInt64))), .second, .val (.int ((((((1 : Int32) + (1 : Int32)) + (1 : Int32)) + (1 : Int32)) + (1 : Int32)) + (1 : Int32)))] [])) _
    rw [← ho5]
    show Steps p.tables e below (T10.setTop (mkF m 27 #[.val (.ref ar), .val (.int pp), .val (.int (2 : Int32)), .val (.int (1 : Int32)), .val (.long o5), .second, .val (.int ((((((1 : Int32) + (1 : Int32)) + (1 : Int32)) + (1 : Int32)) + (1 : Int32)) + (1 : Int32)))] [])) _
    refine st11 _ ?_
    show Steps p.tables e below (T11.setTop (mkF m 27 #[.val (.ref ar), .val (.int pp), .val (.int (2 : Int32)), .val (.int (1 : Int32)), .val (.long ((o5 <<< ((8 : Int32) &&& 0x3f).toInt64) ||| ((y6 &&& (255 : Int32)).toInt64))), .second, .val (.int (((((((1 : Int32) + (1 : Int32)) + (1 : Int32)) + (1 : Int32)) + (1 : Int32)) + (1 : Int32)) + (1 : Int32)))] [])) _
    rw [← ho6]
    show Steps p.tables e below (T11.setTop (mkF m 27 #[.val (.ref ar), .val (.int pp), .val (.int (2 : Int32)), .val (.int (1 : Int32)), .val (.long o6), .second, .val (.int (((((((1 : Int32) + (1 : Int32)) + (1 : Int32)) + (1 : Int32)) + (1 : Int32)) + (1 : Int32)) + (1 : Int32)))] [])) _
    refine XS.iload X11.here hx rfl (hb hby d3_27) rfl ?_
    show Steps p.tables e below (T11.setTop (mkF m 29 #[.val (.ref ar), .val (.int pp), .val (.int (2 : Int32)), .val (.int (1 : Int32)), .val (.long o6), .second, .val (.int (((((((1 : Int32) + (1 : Int32)) + (1 : Int32)) + (1 : Int32)) + (1 : Int32)) + (1 : Int32)) + (1 : Int32)))] [(.int (((((((1 : Int32) + (1 : Int32)) + (1 : Int32)) + (1 : Int32)) + (1 : Int32)) + (1 : Int32)) + (1 : Int32)))])) _
    refine st12 _ ?_
    show Steps p.tables e below (T12.setTop (mkF m 32 #[.val (.ref ar), .val (.int pp), .val (.int (2 : Int32)), .val (.int (1 : Int32)), .val (.long o6), .second, .val (.int (((((((1 : Int32) + (1 : Int32)) + (1 : Int32)) + (1 : Int32)) + (1 : Int32)) + (1 : Int32)) + (1 : Int32)))] [(.ref s_E), (.int (((((((1 : Int32) + (1 : Int32)) + (1 : Int32)) + (1 : Int32)) + (1 : Int32)) + (1 : Int32)) + (1 : Int32)))])) _
    refine XS.iloadN X12.here hx rfl (hb hby d3_32) rfl ?_
    show Steps p.tables e below (T12.setTop (mkF m 33 #[.val (.ref ar), .val (.int pp), .val (.int (2 : Int32)), .val (.int (1 : Int32)), .val (.long o6), .second, .val (.int (((((((1 : Int32) + (1 : Int32)) + (1 : Int32)) + (1 : Int32)) + (1 : Int32)) + (1 : Int32)) + (1 : Int32)))] [(.int (1 : Int32)), (.ref s_E), (.int (((((((1 : Int32) + (1 : Int32)) + (1 : Int32)) + (1 : Int32)) + (1 : Int32)) + (1 : Int32)) + (1 : Int32)))])) _
    refine X12.iaload hx (j := (1 : Int32)) (v := (.int (atv cl_E (1 : Int32)))) (by rw [e12]; exact Sc13.1.1) (State.isArrayOf_alike hZ.alike Sc13.1.2.1) Sc13.1.2.2 hin13 (Sc13.2.2.2 _ hin13) (g := (mkF m 33 #[.val (.ref ar), .val (.int pp), .val (.int (2 : Int32)), .val (.int (1 : Int32)), .val (.long o6), .second, .val (.int (((((((1 : Int32) + (1 : Int32)) + (1 : Int32)) + (1 : Int32)) + (1 : Int32)) + (1 : Int32)) + (1 : Int32)))] [(.int (1 : Int32)), (.ref s_E), (.int (((((((1 : Int32) + (1 : Int32)) + (1 : Int32)) + (1 : Int32)) + (1 : Int32)) + (1 : Int32)) + (1 : Int32)))])) rfl rfl (hb hby d3_33) _ ?_
    show Steps p.tables e below (T12.setTop (mkF m 34 #[.val (.ref ar), .val (.int pp), .val (.int (2 : Int32)), .val (.int (1 : Int32)), .val (.long o6), .second, .val (.int (((((((1 : Int32) + (1 : Int32)) + (1 : Int32)) + (1 : Int32)) + (1 : Int32)) + (1 : Int32)) + (1 : Int32)))] [(.int (atv cl_E (1 : Int32))), (.int (((((((1 : Int32) + (1 : Int32)) + (1 : Int32)) + (1 : Int32)) + (1 : Int32)) + (1 : Int32)) + (1 : Int32)))])) _
    rw [E_1]
    show Steps p.tables e below (T12.setTop (mkF m 34 #[.val (.ref ar), .val (.int pp), .val (.int (2 : Int32)), .val (.int (1 : Int32)), .val (.long o6), .second, .val (.int (((((((1 : Int32) + (1 : Int32)) + (1 : Int32)) + (1 : Int32)) + (1 : Int32)) + (1 : Int32)) + (1 : Int32)))] [(.int (6 : Int32)), (.int (((((((1 : Int32) + (1 : Int32)) + (1 : Int32)) + (1 : Int32)) + (1 : Int32)) + (1 : Int32)) + (1 : Int32)))])) _
    refine XS.icmpYes X12.here hx rfl (pc0 := 34) (pc' := 62) rfl (hb hby d3_34) rfl (tlt (by decide : (6 : Int32) < (((((((1 : Int32) + (1 : Int32)) + (1 : Int32)) + (1 : Int32)) + (1 : Int32)) + (1 : Int32)) + (1 : Int32)))).2.2.1 (by decide) (by decide) ?_
    show Steps p.tables e below (T12.setTop (mkF m 62 #[.val (.ref ar), .val (.int pp), .val (.int (2 : Int32)), .val (.int (1 : Int32)), .val (.long o6), .second, .val (.int (((((((1 : Int32) + (1 : Int32)) + (1 : Int32)) + (1 : Int32)) + (1 : Int32)) + (1 : Int32)) + (1 : Int32)))] [])) _
    refine st14 _ ?_
    show Steps p.tables e below (T14.setTop (mkF m 65 #[.val (.ref ar), .val (.int pp), .val (.int (2 : Int32)), .val (.int (1 : Int32)), .val (.long o6), .second, .val (.int (((((((1 : Int32) + (1 : Int32)) + (1 : Int32)) + (1 : Int32)) + (1 : Int32)) + (1 : Int32)) + (1 : Int32)))] [(.ref s_L)])) _
    refine XS.iloadN X14.here hx rfl (hb hby d3_65) rfl ?_
    show Steps p.tables e below (T14.setTop (mkF m 66 #[.val (.ref ar), .val (.int pp), .val (.int (2 : Int32)), .val (.int (1 : Int32)), .val (.long o6), .second, .val (.int (((((((1 : Int32) + (1 : Int32)) + (1 : Int32)) + (1 : Int32)) + (1 : Int32)) + (1 : Int32)) + (1 : Int32)))] [(.int (1 : Int32)), (.ref s_L)])) _
    refine X14.laload hx (j := (1 : Int32)) (v := (.long (-282578800154912 : Int64))) (by rw [e14]; exact Ar15.1) (State.isArrayOf_alike hZ.alike Ar15.2.1) Ar15.2.2 hin15 hat15 (g := (mkF m 66 #[.val (.ref ar), .val (.int pp), .val (.int (2 : Int32)), .val (.int (1 : Int32)), .val (.long o6), .second, .val (.int (((((((1 : Int32) + (1 : Int32)) + (1 : Int32)) + (1 : Int32)) + (1 : Int32)) + (1 : Int32)) + (1 : Int32)))] [(.int (1 : Int32)), (.ref s_L)])) rfl rfl (hb hby d3_66) _ ?_
    show Steps p.tables e below (T14.setTop (mkF m 67 #[.val (.ref ar), .val (.int pp), .val (.int (2 : Int32)), .val (.int (1 : Int32)), .val (.long o6), .second, .val (.int (((((((1 : Int32) + (1 : Int32)) + (1 : Int32)) + (1 : Int32)) + (1 : Int32)) + (1 : Int32)) + (1 : Int32)))] [(.long (-282578800154912 : Int64))])) _
    refine XS.lload X14.here hx rfl (hb hby d3_67) rfl ?_
    refine XS.ladd X14.here hx rfl (hb hby d3_69) rfl ?_
    show Steps p.tables e below (T14.setTop (mkF m 70 #[.val (.ref ar), .val (.int pp), .val (.int (2 : Int32)), .val (.int (1 : Int32)), .val (.long o6), .second, .val (.int (((((((1 : Int32) + (1 : Int32)) + (1 : Int32)) + (1 : Int32)) + (1 : Int32)) + (1 : Int32)) + (1 : Int32)))] [(.long ((-282578800154912 : Int64) + o6))])) _
    exact retOut X14 hx Bd.returns rfl (Or.inr (Or.inl ⟨rfl, rfl, _, rfl⟩)) (hb hby d3_70) hr
  · show own_Ql (own_val 2 t) h0 n0 _ T14.heap _
    rw [e14]
    exact ⟨_, rfl, N0, rfl, own_d_1 ht0 ht1 ho0 ho1 ho2 ho3 ho4 ho5 ho6 hy1 hy2 hy3 hy4 hy5 hy6⟩
theorem own_d_2 {o0 o1 o2 o3 o4 o5 : Int64} {y1 y2 y3 y4 y5 : Int32} {t : Int} (ht0 : 0 ≤ t) (ht1 : t < 72057594037927936) (ho0 : o0 = (((3 : Int32) - (3 : Int32)).toInt64)) (ho1 : o1 = ((o0 <<< ((8 : Int32) &&& 0x3f).toInt64) ||| ((y1 &&& (255 : Int32)).toInt64))) (ho2 : o2 = ((o1 <<< ((8 : Int32) &&& 0x3f).toInt64) ||| ((y2 &&& (255 : Int32)).toInt64))) (ho3 : o3 = ((o2 <<< ((8 : Int32) &&& 0x3f).toInt64) ||| ((y3 &&& (255 : Int32)).toInt64))) (ho4 : o4 = ((o3 <<< ((8 : Int32) &&& 0x3f).toInt64) ||| ((y4 &&& (255 : Int32)).toInt64))) (ho5 : o5 = ((o4 <<< ((8 : Int32) &&& 0x3f).toInt64) ||| ((y5 &&& (255 : Int32)).toInt64))) (hy1 : y1.toInt % 256 = (t / 281474976710656) % 256) (hy2 : y2.toInt % 256 = (t / 1099511627776) % 256) (hy3 : y3.toInt % 256 = (t / 4294967296) % 256) (hy4 : y4.toInt % 256 = (t / 16777216) % 256) (hy5 : y5.toInt % 256 = (t / 65536) % 256) : ((-1103823444256 : Int64) + o5).toInt = own_val 3 t := by
  rw [own_val_2 (by decide) (by decide)]
  have cL : ((-1103823444256 : Int64)).toInt = -1103823444256 := rfl
  have x0 : o0.toInt = 0 := by rw [ho0]; rfl
  have x1 : o1.toInt = (t / 281474976710656) := by
    rw [ho1, own_step (X := (t / 72057594037927936)) (by omega) (by omega) (by omega), hy1]; omega
  have x2 : o2.toInt = (t / 1099511627776) := by
    rw [ho2, own_step (X := (t / 281474976710656)) (by omega) (by omega) (by omega), hy2]; omega
  have x3 : o3.toInt = (t / 4294967296) := by
    rw [ho3, own_step (X := (t / 1099511627776)) (by omega) (by omega) (by omega), hy3]; omega
  have x4 : o4.toInt = (t / 16777216) := by
    rw [ho4, own_step (X := (t / 4294967296)) (by omega) (by omega) (by omega), hy4]; omega
  have x5 : o5.toInt = (t / 65536) := by
    rw [ho5, own_step (X := (t / 16777216)) (by omega) (by omega) (by omega), hy5]; omega
  rw [Jvm.Kit.i64_add (by omega) (by omega), cL, x5]
  omega
set_option maxRecDepth 65536 in
set_option maxHeartbeats 40000000 in
theorem r_dec_2 (l : Launch) (Z : State) (a0 : Array Value) (hw : ∀ d ∈ tables_1, d.before a0 Z = true) (ws : List Jvm.Cond) (s_R s_F s_E s_L : Addr) (cl_R cl_F cl_E : Cell) (k_L : ClassId) (h0 : Heap) (n0 : Nat) (O0 : Old Z n0 h0) (G : own_Ctx Z Z.heap s_R s_F s_E s_L cl_R cl_F cl_E k_L) (ar : Addr) (kk : ClassId) (vs : List Value) (pp : Int32) (y0 y1 y2 y3 y4 y5 y6 y7 : Int32) (t : Int) (Va : Arv Z h0 ar kk .byte (11 : Int32) vs (.int (0 : Int32))) (hg : y0 &&& (255 : Int32) = (3 : Int32)) (ht0 : 0 ≤ t) (ht1 : t < 72057594037927936) (hp0 : ¬ (pp < 0) ∧ pp < (11 : Int32)) (hv0 : vs.getD (pp).toNatClampNeg (.int (0 : Int32)) = .int y0) (hp1 : ¬ ((pp + (1 : Int32)) < 0) ∧ (pp + (1 : Int32)) < (11 : Int32)) (hv1 : vs.getD ((pp + (1 : Int32))).toNatClampNeg (.int (0 : Int32)) = .int y1) (hp2 : ¬ ((pp + ((1 : Int32) + (1 : Int32))) < 0) ∧ (pp + ((1 : Int32) + (1 : Int32))) < (11 : Int32)) (hv2 : vs.getD ((pp + ((1 : Int32) + (1 : Int32)))).toNatClampNeg (.int (0 : Int32)) = .int y2) (hp3 : ¬ ((pp + (((1 : Int32) + (1 : Int32)) + (1 : Int32))) < 0) ∧ (pp + (((1 : Int32) + (1 : Int32)) + (1 : Int32))) < (11 : Int32)) (hv3 : vs.getD ((pp + (((1 : Int32) + (1 : Int32)) + (1 : Int32)))).toNatClampNeg (.int (0 : Int32)) = .int y3) (hp4 : ¬ ((pp + ((((1 : Int32) + (1 : Int32)) + (1 : Int32)) + (1 : Int32))) < 0) ∧ (pp + ((((1 : Int32) + (1 : Int32)) + (1 : Int32)) + (1 : Int32))) < (11 : Int32)) (hv4 : vs.getD ((pp + ((((1 : Int32) + (1 : Int32)) + (1 : Int32)) + (1 : Int32)))).toNatClampNeg (.int (0 : Int32)) = .int y4) (hp5 : ¬ ((pp + (((((1 : Int32) + (1 : Int32)) + (1 : Int32)) + (1 : Int32)) + (1 : Int32))) < 0) ∧ (pp + (((((1 : Int32) + (1 : Int32)) + (1 : Int32)) + (1 : Int32)) + (1 : Int32))) < (11 : Int32)) (hv5 : vs.getD ((pp + (((((1 : Int32) + (1 : Int32)) + (1 : Int32)) + (1 : Int32)) + (1 : Int32)))).toNatClampNeg (.int (0 : Int32)) = .int y5) (hy1 : y1.toInt % 256 = (t / 281474976710656) % 256) (hy2 : y2.toInt % 256 = (t / 1099511627776) % 256) (hy3 : y3.toInt % 256 = (t / 4294967296) % 256) (hy4 : y4.toInt % 256 = (t / 16777216) % 256) (hy5 : y5.toInt % 256 = (t / 65536) % 256) (hR : atv cl_R (3 : Int32) = (2 : Int32)) :
    MetFree l (⟨"com/example/rattan/rattan/storage/label/ComponentCode", "decode", "([BI)J"⟩ : MethodName) (head1 (Jvm.Cond.code (⟨"com/example/rattan/rattan/storage/label/ComponentCode", "decode", "([BI)J"⟩ : MethodName) prog_41_method_4_code 7 (some .long) :: ws) ({ frames := 0, cells := 0, slots := 0, locals := 0 } : Room)) (fun a U => a = #[(.ref ar), (.int pp)] ∧ Z.Warmed39 U.vm ∧ U.heap = h0) (fun _ _ _ _ _ => True) (fun _ U o U' => ∃ v L, o = .returned v ∧ own_Ql (own_val 3 t) h0 n0 v U'.heap L ∧ FrameEnd U o U' L ({ frames := 0, cells := 0, slots := 0, locals := 0 } : Room).cells ({ frames := 0, cells := 0, slots := 0, locals := 0 } : Room).slots) := by
  have G0 := G
  obtain ⟨S_R, C_R, S_F, C_F, S_E, C_E, S_L, V_L, R_1, R_2, R_3, R_4, R_5, F_0, F_1, F_2, F_3, F_4, F_5, F_6, F_7, F_8, F_9, F_10, F_11, F_12, F_13, F_14, E_0, E_1, E_2, E_3, E_4, E_5, E_6, E_7, E_8, E_9, E_10, E_11, E_12, E_13, E_14⟩ := G
  refine MetFree.of_bodySF (plainFor_of_name pn_1) hisR ?_
  intro p e s m args below meth c s₁ Bd hml0 hP hK
  obtain ⟨rfl, hZ, hh⟩ := hP
  have hx := Bd.exec
  have hby := Bd.bytes
  have hml : c.maxLocals = 7 := hml0
  have hown : s.vm.findClass "com/example/rattan/rattan/storage/label/ComponentCode" = some m.cls := findClass_of_methodNamed Bd.named
  have hnm := (name_of_methodNamed Bd.named Bd.method).1
  have X0 : Stand p l e ({ frames := 0, cells := 0, slots := 0, locals := 0 } : Room) s m #[(.ref ar), (.int pp)] below meth c s₁ [] 0 0 := Stand.of_body Bd
  have e0 : s₁.heap = h0 := by rw [← hh, Bd.state]; rfl
  have N0 := Fr.nil n0
  have pre0 : ∀ t, Steps p.tables e below (s₁.setTop (mkF m 0 #[.val (.ref ar), .val (.int pp), .unset, .unset, .unset, .unset, .unset] [])) t → Steps p.tables e below (s₁.setTop (entryFrame m #[(.ref ar), (.int pp)] 7)) t := fun t k => castTop (ef_3_2 m ar pp) k
  have vc1 := Va
  obtain ⟨cl1, Ar1, qk1, S1, Nn1, Hs1, Gf1⟩ := vc1
  have hin1 : ¬ (pp < 0 ∨ cl1.slots.size ≤ (pp).toNatClampNeg) := inb_of S1 hp0
  have hat1 : cl1.slots[(pp).toNatClampNeg]? = some (.int y0) := Has.at Hs1 hin1 hv0
  obtain ⟨T2, X2, e2, st2⟩ := getS2 X0 hx hZ hown (host := "") (Or.inl (hw _ (List.mem_of_getElem? (i := 15) rfl))) Via.refl e0 (S_R.ext O0.2) (g := (mkF m 8 #[.val (.ref ar), .val (.int pp), .val (.int (3 : Int32)), .unset, .unset, .unset, .unset] [])) rfl (hb hby d3_8)
  have Sc3 := (C_R.ext O0.2)
  have hin3 : ¬ ((3 : Int32) < 0 ∨ cl_R.slots.size ≤ ((3 : Int32)).toNatClampNeg) := inb_of Sc3.2.1 ⟨by decide, by decide⟩
  obtain ⟨T4, X4, e4, st4⟩ := getS2 X2 hx hZ hown (host := "") (Or.inl (hw _ (List.mem_of_getElem? (i := 17) rfl))) Via.refl e2 (S_F.ext O0.2) (g := (mkF m 15 #[.val (.ref ar), .val (.int pp), .val (.int (3 : Int32)), .val (.int (2 : Int32)), .unset, .unset, .unset] [(.int (3 : Int32))])) rfl (hb hby d3_15)
  have Sc5 := (C_F.ext O0.2)
  have hin5 : ¬ ((2 : Int32) < 0 ∨ cl_F.slots.size ≤ ((2 : Int32)).toNatClampNeg) := inb_of Sc5.2.1 ⟨by decide, by decide⟩
  obtain ⟨o0, ho0⟩ : ∃ z : Int64, z = (((3 : Int32) - (3 : Int32)).toInt64) := ⟨_, rfl⟩
  obtain ⟨T6, X6, e6, st6⟩ := t_dec s_R s_F s_E s_L cl_R cl_F cl_E k_L ar kk vs pp (3 : Int32) (2 : Int32) o0 (1 : Int32) (5 : Int32) y1 X4 hx hZ hw hby hml hown e4 O0 G0 Va ⟨by decide, by decide⟩ E_2 (by decide) hp1 hv1
  obtain ⟨o1, ho1⟩ : ∃ z : Int64, z = ((o0 <<< ((8 : Int32) &&& 0x3f).toInt64) ||| ((y1 &&& (255 : Int32)).toInt64)) := ⟨_, rfl⟩
  obtain ⟨T7, X7, e7, st7⟩ := t_dec s_R s_F s_E s_L cl_R cl_F cl_E k_L ar kk vs pp (3 : Int32) (2 : Int32) o1 ((1 : Int32) + (1 : Int32)) (5 : Int32) y2 X6 hx hZ hw hby hml hown e6 O0 G0 Va ⟨by decide, by decide⟩ E_2 (by decide) hp2 hv2
  obtain ⟨o2, ho2⟩ : ∃ z : Int64, z = ((o1 <<< ((8 : Int32) &&& 0x3f).toInt64) ||| ((y2 &&& (255 : Int32)).toInt64)) := ⟨_, rfl⟩
  obtain ⟨T8, X8, e8, st8⟩ := t_dec s_R s_F s_E s_L cl_R cl_F cl_E k_L ar kk vs pp (3 : Int32) (2 : Int32) o2 (((1 : Int32) + (1 : Int32)) + (1 : Int32)) (5 : Int32) y3 X7 hx hZ hw hby hml hown e7 O0 G0 Va ⟨by decide, by decide⟩ E_2 (by decide) hp3 hv3
  obtain ⟨o3, ho3⟩ : ∃ z : Int64, z = ((o2 <<< ((8 : Int32) &&& 0x3f).toInt64) ||| ((y3 &&& (255 : Int32)).toInt64)) := ⟨_, rfl⟩
  obtain ⟨T9, X9, e9, st9⟩ := t_dec s_R s_F s_E s_L cl_R cl_F cl_E k_L ar kk vs pp (3 : Int32) (2 : Int32) o3 ((((1 : Int32) + (1 : Int32)) + (1 : Int32)) + (1 : Int32)) (5 : Int32) y4 X8 hx hZ hw hby hml hown e8 O0 G0 Va ⟨by decide, by decide⟩ E_2 (by decide) hp4 hv4
  obtain ⟨o4, ho4⟩ : ∃ z : Int64, z = ((o3 <<< ((8 : Int32) &&& 0x3f).toInt64) ||| ((y4 &&& (255 : Int32)).toInt64)) := ⟨_, rfl⟩
  obtain ⟨T10, X10, e10, st10⟩ := t_dec s_R s_F s_E s_L cl_R cl_F cl_E k_L ar kk vs pp (3 : Int32) (2 : Int32) o4 (((((1 : Int32) + (1 : Int32)) + (1 : Int32)) + (1 : Int32)) + (1 : Int32)) (5 : Int32) y5 X9 hx hZ hw hby hml hown e9 O0 G0 Va ⟨by decide, by decide⟩ E_2 (by decide) hp5 hv5
  obtain ⟨o5, ho5⟩ : ∃ z : Int64, z = ((o4 <<< ((8 : Int32) &&& 0x3f).toInt64) ||| ((y5 &&& (255 : Int32)).toInt64)) := ⟨_, rfl⟩
  obtain ⟨T11, X11, e11, st11⟩ := getS2 X10 hx hZ hown (host := "") (Or.inl (hw _ (List.mem_of_getElem? (i := 19) rfl))) Via.refl e10 (S_E.ext O0.2) (g := (mkF m 29 #[.val (.ref ar), .val (.int pp), .val (.int (3 : Int32)), .val (.int (2 : Int32)), .val (.long o5), .second, .val (.int ((((((1 : Int32) + (1 : Int32)) + (1 : Int32)) + (1 : Int32)) + (1 : Int32)) + (1 : Int32)))] [(.int ((((((1 : Int32) + (1 : Int32)) + (1 : Int32)) + (1 : Int32)) + (1 : Int32)) + (1 : Int32)))])) rfl (hb hby d3_29)
  have Sc12 := (C_E.ext O0.2)
  have hin12 : ¬ ((2 : Int32) < 0 ∨ cl_E.slots.size ≤ ((2 : Int32)).toNatClampNeg) := inb_of Sc12.2.1 ⟨by decide, by decide⟩
  obtain ⟨T13, X13, e13, st13⟩ := getS2 X11 hx hZ hown (host := "") (Or.inl (hw _ (List.mem_of_getElem? (i := 21) rfl))) Via.refl e11 (S_L.ext O0.2) (g := (mkF m 62 #[.val (.ref ar), .val (.int pp), .val (.int (3 : Int32)), .val (.int (2 : Int32)), .val (.long o5), .second, .val (.int ((((((1 : Int32) + (1 : Int32)) + (1 : Int32)) + (1 : Int32)) + (1 : Int32)) + (1 : Int32)))] [])) rfl (hb hby d3_62)
  have vc14 := (V_L.ext O0.2)
  obtain ⟨cl14, Ar14, qk14, S14, Nn14, Hs14, Gf14⟩ := vc14
  have hin14 : ¬ ((2 : Int32) < 0 ∨ cl14.slots.size ≤ ((2 : Int32)).toNatClampNeg) := inb_of S14 ⟨by decide, by decide⟩
  have hat14 : cl14.slots[((2 : Int32)).toNatClampNeg]? = some (.long (-1103823444256 : Int64)) := Has.at Hs14 hin14 rfl
  obtain ⟨fs, hr, hrun, hended, hW, hsame⟩ := X13.leave (v := some (.long ((-1103823444256 : Int64) + o5))) (fun h => by rw [Bd.returns] at h; cases h)
  refine ⟨_, _, pre0 _ ?_, hrun, hended, _, _, rfl, ?_, ⟨_, rfl⟩, hW, hsame.mono (by decide) (by decide)⟩
  · show Steps p.tables e below (s₁.setTop (mkF m 0 #[.val (.ref ar), .val (.int pp), .unset, .unset, .unset, .unset, .unset] [])) _
    refine XS.aloadN X0.here hx rfl (hb hby d3_0) rfl rfl ?_
    refine XS.iloadN X0.here hx rfl (hb hby d3_1) rfl ?_
    show Steps p.tables e below (s₁.setTop (mkF m 2 #[.val (.ref ar), .val (.int pp), .unset, .unset, .unset, .unset, .unset] [(.int pp), (.ref ar)])) _
    refine X0.baloadBytes hx (j := pp) (v := (.int y0)) (by rw [e0]; exact Ar1.1) (State.isArrayOf_alike hZ.alike Ar1.2.1) Ar1.2.2 hin1 hat1 (g := (mkF m 2 #[.val (.ref ar), .val (.int pp), .unset, .unset, .unset, .unset, .unset] [(.int pp), (.ref ar)])) rfl rfl (hb hby d3_2) _ ?_
    show Steps p.tables e below (s₁.setTop (mkF m 3 #[.val (.ref ar), .val (.int pp), .unset, .unset, .unset, .unset, .unset] [(.int y0)])) _
    refine XS.sipush X0.here hx rfl (hb hby d3_3) ?_
    refine XS.iand X0.here hx rfl (hb hby d3_6) rfl ?_
    show Steps p.tables e below (s₁.setTop (mkF m 7 #[.val (.ref ar), .val (.int pp), .unset, .unset, .unset, .unset, .unset] [(.int (y0 &&& (255 : Int32)))])) _
    rw [hg]
    refine XS.istoreN X0.here hx rfl (hb hby d3_7) rfl (l' := #[.val (.ref ar), .val (.int pp), .val (.int (3 : Int32)), .unset, .unset, .unset, .unset]) rfl ?_
    show Steps p.tables e below (s₁.setTop (mkF m 8 #[.val (.ref ar), .val (.int pp), .val (.int (3 : Int32)), .unset, .unset, .unset, .unset] [])) _
    refine st2 _ ?_
    show Steps p.tables e below (T2.setTop (mkF m 11 #[.val (.ref ar), .val (.int pp), .val (.int (3 : Int32)), .unset, .unset, .unset, .unset] [(.ref s_R)])) _
    refine XS.iloadN X2.here hx rfl (hb hby d3_11) rfl ?_
    show Steps p.tables e below (T2.setTop (mkF m 12 #[.val (.ref ar), .val (.int pp), .val (.int (3 : Int32)), .unset, .unset, .unset, .unset] [(.int (3 : Int32)), (.ref s_R)])) _
    refine X2.iaload hx (j := (3 : Int32)) (v := (.int (atv cl_R (3 : Int32)))) (by rw [e2]; exact Sc3.1.1) (State.isArrayOf_alike hZ.alike Sc3.1.2.1) Sc3.1.2.2 hin3 (Sc3.2.2.2 _ hin3) (g := (mkF m 12 #[.val (.ref ar), .val (.int pp), .val (.int (3 : Int32)), .unset, .unset, .unset, .unset] [(.int (3 : Int32)), (.ref s_R)])) rfl rfl (hb hby d3_12) _ ?_
    show Steps p.tables e below (T2.setTop (mkF m 13 #[.val (.ref ar), .val (.int pp), .val (.int (3 : Int32)), .unset, .unset, .unset, .unset] [(.int (atv cl_R (3 : Int32)))])) _
    rw [hR]
    show Steps p.tables e below (T2.setTop (mkF m 13 #[.val (.ref ar), .val (.int pp), .val (.int (3 : Int32)), .unset, .unset, .unset, .unset] [(.int (2 : Int32))])) _
    refine XS.istoreN X2.here hx rfl (hb hby d3_13) rfl (l' := #[.val (.ref ar), .val (.int pp), .val (.int (3 : Int32)), .val (.int (2 : Int32)), .unset, .unset, .unset]) rfl ?_
    show Steps p.tables e below (T2.setTop (mkF m 14 #[.val (.ref ar), .val (.int pp), .val (.int (3 : Int32)), .val (.int (2 : Int32)), .unset, .unset, .unset] [])) _
    refine XS.iloadN X2.here hx rfl (hb hby d3_14) rfl ?_
    show Steps p.tables e below (T2.setTop (mkF m 15 #[.val (.ref ar), .val (.int pp), .val (.int (3 : Int32)), .val (.int (2 : Int32)), .unset, .unset, .unset] [(.int (3 : Int32))])) _
    refine st4 _ ?_
    show Steps p.tables e below (T4.setTop (mkF m 18 #[.val (.ref ar), .val (.int pp), .val (.int (3 : Int32)), .val (.int (2 : Int32)), .unset, .unset, .unset] [(.ref s_F), (.int (3 : Int32))])) _
    refine XS.iloadN X4.here hx rfl (hb hby d3_18) rfl ?_
    show Steps p.tables e below (T4.setTop (mkF m 19 #[.val (.ref ar), .val (.int pp), .val (.int (3 : Int32)), .val (.int (2 : Int32)), .unset, .unset, .unset] [(.int (2 : Int32)), (.ref s_F), (.int (3 : Int32))])) _
    refine X4.iaload hx (j := (2 : Int32)) (v := (.int (atv cl_F (2 : Int32)))) (by rw [e4]; exact Sc5.1.1) (State.isArrayOf_alike hZ.alike Sc5.1.2.1) Sc5.1.2.2 hin5 (Sc5.2.2.2 _ hin5) (g := (mkF m 19 #[.val (.ref ar), .val (.int pp), .val (.int (3 : Int32)), .val (.int (2 : Int32)), .unset, .unset, .unset] [(.int (2 : Int32)), (.ref s_F), (.int (3 : Int32))])) rfl rfl (hb hby d3_19) _ ?_
    show Steps p.tables e below (T4.setTop (mkF m 20 #[.val (.ref ar), .val (.int pp), .val (.int (3 : Int32)), .val (.int (2 : Int32)), .unset, .unset, .unset] [(.int (atv cl_F (2 : Int32))), (.int (3 : Int32))])) _
    rw [F_2]
    show Steps p.tables e below (T4.setTop (mkF m 20 #[.val (.ref ar), .val (.int pp), .val (.int (3 : Int32)), .val (.int (2 : Int32)), .unset, .unset, .unset] [(.int (3 : Int32)), (.int (3 : Int32))])) _
    refine XS.isub X4.here hx rfl (hb hby d3_20) rfl ?_
    show Steps p.tables e below (T4.setTop (mkF m 21 #[.val (.ref ar), .val (.int pp), .val (.int (3 : Int32)), .val (.int (2 : Int32)), .unset, .unset, .unset] [(.int ((3 : Int32) - (3 : Int32)))])) _
    refine XS.i2l X4.here hx rfl (hb hby d3_21) rfl ?_
    show Steps p.tables e below (T4.setTop (mkF m 22 #[.val (.ref ar), .val (.int pp), .val (.int (3 : Int32)), .val (.int (2 : Int32)), .unset, .unset, .unset] [(.long (((3 : Int32) - (3 : Int32)).toInt64))])) _
    refine XS.lstore X4.here hx rfl (hb hby d3_22) rfl (l' := #[.val (.ref ar), .val (.int pp), .val (.int (3 : Int32)), .val (.int (2 : Int32)), .val (.long (((3 : Int32) - (3 : Int32)).toInt64)), .second, .unset]) rfl ?_
    show Steps p.tables e below (T4.setTop (mkF m 24 #[.val (.ref ar), .val (.int pp), .val (.int (3 : Int32)), .val (.int (2 : Int32)), .val (.long (((3 : Int32) - (3 : Int32)).toInt64)), .second, .unset] [])) _
    refine XS.iconst X4.here hx rfl (hb hby d3_24) ?_
    refine XS.istore X4.here hx rfl (hb hby d3_25) rfl (l' := #[.val (.ref ar), .val (.int pp), .val (.int (3 : Int32)), .val (.int (2 : Int32)), .val (.long (((3 : Int32) - (3 : Int32)).toInt64)), .second, .val (.int (1 : Int32))]) rfl ?_
    show Steps p.tables e below (T4.setTop (mkF m 27 #[.val (.ref ar), .val (.int pp), .val (.int (3 : Int32)), .val (.int (2 : Int32)), .val (.long (((3 : Int32) - (3 : Int32)).toInt64)), .second, .val (.int (1 : Int32))] [])) _
    rw [← ho0]
    show Steps p.tables e below (T4.setTop (mkF m 27 #[.val (.ref ar), .val (.int pp), .val (.int (3 : Int32)), .val (.int (2 : Int32)), .val (.long o0), .second, .val (.int (1 : Int32))] [])) _
    refine st6 _ ?_
    show Steps p.tables e below (T6.setTop (mkF m 27 #[.val (.ref ar), .val (.int pp), .val (.int (3 : Int32)), .val (.int (2 : Int32)), .val (.long ((o0 <<< ((8 : Int32) &&& 0x3f).toInt64) ||| ((y1 &&& (255 : Int32)).toInt64))), .second, .val (.int ((1 : Int32) + (1 : Int32)))] [])) _
    rw [← ho1]
    show Steps p.tables e below (T6.setTop (mkF m 27 #[.val (.ref ar), .val (.int pp), .val (.int (3 : Int32)), .val (.int (2 : Int32)), .val (.long o1), .second, .val (.int ((1 : Int32) + (1 : Int32)))] [])) _
    refine st7 _ ?_
    show Steps p.tables e below (T7.setTop (mkF m 27 #[.val (.ref ar), .val (.int pp), .val (.int (3 : Int32)), .val (.int (2 : Int32)), .val (.long ((o1 <<< ((8 : Int32) &&& 0x3f).toInt64) ||| ((y2 &&& (255 : Int32)).toInt64))), .second, .val (.int (((1 : Int32) + (1 : Int32)) + (1 : Int32)))] [])) _
    rw [← ho2]
    show Steps p.tables e below (T7.setTop (mkF m 27 #[.val (.ref ar), .val (.int pp), .val (.int (3 : Int32)), .val (.int (2 : Int32)), .val (.long o2), .second, .val (.int (((1 : Int32) + (1 : Int32)) + (1 : Int32)))] [])) _
    refine st8 _ ?_
    show Steps p.tables e below (T8.setTop (mkF m 27 #[.val (.ref ar), .val (.int pp), .val (.int (3 : Int32)), .val (.int (2 : Int32)), .val (.long ((o2 <<< ((8 : Int32) &&& 0x3f).toInt64) ||| ((y3 &&& (255 : Int32)).toInt64))), .second, .val (.int ((((1 : Int32) + (1 : Int32)) + (1 : Int32)) + (1 : Int32)))] [])) _
    rw [← ho3]
    show Steps p.tables e below (T8.setTop (mkF m 27 #[.val (.ref ar), .val (.int pp), .val (.int (3 : Int32)), .val (.int (2 : Int32)), .val (.long o3), .second, .val (.int ((((1 : Int32) + (1 : Int32)) + (1 : Int32)) + (1 : Int32)))] [])) _
    refine st9 _ ?_
    show Steps p.tables e below (T9.setTop (mkF m 27 #[.val (.ref ar), .val (.int pp), .val (.int (3 : Int32)), .val (.int (2 : Int32)), .val (.long ((o3 <<< ((8 : Int32) &&& 0x3f).toInt64) ||| ((y4 &&& (255 : Int32)).toInt64))), .second, .val (.int (((((1 : Int32) + (1 : Int32)) + (1 : Int32)) + (1 : Int32)) + (1 : Int32)))] [])) _
    rw [← ho4]
    show Steps p.tables e below (T9.setTop (mkF m 27 #[.val (.ref ar), .val (.int pp), .val (.int (3 : Int32)), .val (.int (2 : Int32)), .val (.long o4), .second, .val (.int (((((1 : Int32) + (1 : Int32)) + (1 : Int32)) + (1 : Int32)) + (1 : Int32)))] [])) _
    refine st10 _ ?_
    show Steps p.tables e below (T10.setTop (mkF m 27 #[.val (.ref ar), .val (.int pp), .val (.int (3 : Int32)), .val (.int (2 : Int32)), .val (.long ((o4 <<< ((8 : Int32) &&& 0x3f).toInt64) ||| ((y5 &&& (255 : Int32)).toInt64))), .second, .val (.int ((((((1 : Int32) + (1 : Int32)) + (1 : Int32)) + (1 : Int32)) + (1 : Int32)) + (1 : Int32)))] [])) _
    rw [← ho5]
    show Steps p.tables e below (T10.setTop (mkF m 27 #[.val (.ref ar), .val (.int pp), .val (.int (3 : Int32)), .val (.int (2 : Int32)), .val (.long o5), .second, .val (.int ((((((1 : Int32) + (1 : Int32)) + (1 : Int32)) + (1 : Int32)) + (1 : Int32)) + (1 : Int32)))] [])) _
    refine XS.iload X10.here hx rfl (hb hby d3_27) rfl ?_
    show Steps p.tables e below (T10.setTop (mkF m 29 #[.val (.ref ar), .val (.int pp), .val (.int (3 : Int32)), .val (.int (2 : Int32)), .val (.long o5), .second, .val (.int ((((((1 : Int32) + (1 : Int32)) + (1 : Int32)) + (1 : Int32)) + (1 : Int32)) + (1 : Int32)))] [(.int ((((((1 : Int32) + (1 : Int32)) + (1 : Int32)) + (1 : Int32)) + (1 : Int32)) + (1 : Int32)))])) _
    refine st11 _ ?_
    show Steps p.tables e below (T11.setTop (mkF m 32 #[.val (.ref ar), .val (.int pp), .val (.int (3 : Int32)), .val (.int (2 : Int32)), .val (.long o5), .second, .val (.int ((((((1 : Int32) + (1 : Int32)) + (1 : Int32)) + (1 : Int32)) + (1 : Int32)) + (1 : Int32)))] [(.ref s_E), (.int ((((((1 : Int32) + (1 : Int32)) + (1 : Int32)) + (1 : Int32)) + (1 : Int32)) + (1 : Int32)))])) _
    refine XS.iloadN X11.here hx rfl (hb hby d3_32) rfl ?_
    show Steps p.tables e below (T11.setTop (mkF m 33 #[.val (.ref ar), .val (.int pp), .val (.int (3 : Int32)), .val (.int (2 : Int32)), .val (.long o5), .second, .val (.int ((((((1 : Int32) + (1 : Int32)) + (1 : Int32)) + (1 : Int32)) + (1 : Int32)) + (1 : Int32)))] [(.int (2 : Int32)), (.ref s_E), (.int ((((((1 : Int32) + (1 : Int32)) + (1 : Int32)) + (1 : Int32)) + (1 : Int32)) + (1 : Int32)))])) _
    refine X11.iaload hx (j := (2 : Int32)) (v := (.int (atv cl_E (2 : Int32)))) (by rw [e11]; exact Sc12.1.1) (State.isArrayOf_alike hZ.alike Sc12.1.2.1) Sc12.1.2.2 hin12 (Sc12.2.2.2 _ hin12) (g := (mkF m 33 #[.val (.ref ar), .val (.int pp), .val (.int (3 : Int32)), .val (.int (2 : Int32)), .val (.long o5), .second, .val (.int ((((((1 : Int32) + (1 : Int32)) + (1 : Int32)) + (1 : Int32)) + (1 : Int32)) + (1 : Int32)))] [(.int (2 : Int32)), (.ref s_E), (.int ((((((1 : Int32) + (1 : Int32)) + (1 : Int32)) + (1 : Int32)) + (1 : Int32)) + (1 : Int32)))])) rfl rfl (hb hby d3_33) _ ?_
    show Steps p.tables e below (T11.setTop (mkF m 34 #[.val (.ref ar), .val (.int pp), .val (.int (3 : Int32)), .val (.int (2 : Int32)), .val (.long o5), .second, .val (.int ((((((1 : Int32) + (1 : Int32)) + (1 : Int32)) + (1 : Int32)) + (1 : Int32)) + (1 : Int32)))] [(.int (atv cl_E (2 : Int32))), (.int ((((((1 : Int32) + (1 : Int32)) + (1 : Int32)) + (1 : Int32)) + (1 : Int32)) + (1 : Int32)))])) _
    rw [E_2]
    show Steps p.tables e below (T11.setTop (mkF m 34 #[.val (.ref ar), .val (.int pp), .val (.int (3 : Int32)), .val (.int (2 : Int32)), .val (.long o5), .second, .val (.int ((((((1 : Int32) + (1 : Int32)) + (1 : Int32)) + (1 : Int32)) + (1 : Int32)) + (1 : Int32)))] [(.int (5 : Int32)), (.int ((((((1 : Int32) + (1 : Int32)) + (1 : Int32)) + (1 : Int32)) + (1 : Int32)) + (1 : Int32)))])) _
    refine XS.icmpYes X11.here hx rfl (pc0 := 34) (pc' := 62) rfl (hb hby d3_34) rfl (tlt (by decide : (5 : Int32) < ((((((1 : Int32) + (1 : Int32)) + (1 : Int32)) + (1 : Int32)) + (1 : Int32)) + (1 : Int32)))).2.2.1 (by decide) (by decide) ?_
    show Steps p.tables e below (T11.setTop (mkF m 62 #[.val (.ref ar), .val (.int pp), .val (.int (3 : Int32)), .val (.int (2 : Int32)), .val (.long o5), .second, .val (.int ((((((1 : Int32) + (1 : Int32)) + (1 : Int32)) + (1 : Int32)) + (1 : Int32)) + (1 : Int32)))] [])) _
    refine st13 _ ?_
    show Steps p.tables e below (T13.setTop (mkF m 65 #[.val (.ref ar), .val (.int pp), .val (.int (3 : Int32)), .val (.int (2 : Int32)), .val (.long o5), .second, .val (.int ((((((1 : Int32) + (1 : Int32)) + (1 : Int32)) + (1 : Int32)) + (1 : Int32)) + (1 : Int32)))] [(.ref s_L)])) _
    refine XS.iloadN X13.here hx rfl (hb hby d3_65) rfl ?_
    show Steps p.tables e below (T13.setTop (mkF m 66 #[.val (.ref ar), .val (.int pp), .val (.int (3 : Int32)), .val (.int (2 : Int32)), .val (.long o5), .second, .val (.int ((((((1 : Int32) + (1 : Int32)) + (1 : Int32)) + (1 : Int32)) + (1 : Int32)) + (1 : Int32)))] [(.int (2 : Int32)), (.ref s_L)])) _
    refine X13.laload hx (j := (2 : Int32)) (v := (.long (-1103823444256 : Int64))) (by rw [e13]; exact Ar14.1) (State.isArrayOf_alike hZ.alike Ar14.2.1) Ar14.2.2 hin14 hat14 (g := (mkF m 66 #[.val (.ref ar), .val (.int pp), .val (.int (3 : Int32)), .val (.int (2 : Int32)), .val (.long o5), .second, .val (.int ((((((1 : Int32) + (1 : Int32)) + (1 : Int32)) + (1 : Int32)) + (1 : Int32)) + (1 : Int32)))] [(.int (2 : Int32)), (.ref s_L)])) rfl rfl (hb hby d3_66) _ ?_
    show Steps p.tables e below (T13.setTop (mkF m 67 #[.val (.ref ar), .val (.int pp), .val (.int (3 : Int32)), .val (.int (2 : Int32)), .val (.long o5), .second, .val (.int ((((((1 : Int32) + (1 : Int32)) + (1 : Int32)) + (1 : Int32)) + (1 : Int32)) + (1 : Int32)))] [(.long (-1103823444256 : Int64))])) _
    refine XS.lload X13.here hx rfl (hb hby d3_67) rfl ?_
    refine XS.ladd X13.here hx rfl (hb hby d3_69) rfl ?_
    show Steps p.tables e below (T13.setTop (mkF m 70 #[.val (.ref ar), .val (.int pp), .val (.int (3 : Int32)), .val (.int (2 : Int32)), .val (.long o5), .second, .val (.int ((((((1 : Int32) + (1 : Int32)) + (1 : Int32)) + (1 : Int32)) + (1 : Int32)) + (1 : Int32)))] [(.long ((-1103823444256 : Int64) + o5))])) _
    exact retOut X13 hx Bd.returns rfl (Or.inr (Or.inl ⟨rfl, rfl, _, rfl⟩)) (hb hby d3_70) hr
  · show own_Ql (own_val 3 t) h0 n0 _ T13.heap _
    rw [e13]
    exact ⟨_, rfl, N0, rfl, own_d_2 ht0 ht1 ho0 ho1 ho2 ho3 ho4 ho5 hy1 hy2 hy3 hy4 hy5⟩
theorem own_d_3 {o0 o1 o2 o3 o4 : Int64} {y1 y2 y3 y4 : Int32} {t : Int} (ht0 : 0 ≤ t) (ht1 : t < 72057594037927936) (ho0 : o0 = (((4 : Int32) - (4 : Int32)).toInt64)) (ho1 : o1 = ((o0 <<< ((8 : Int32) &&& 0x3f).toInt64) ||| ((y1 &&& (255 : Int32)).toInt64))) (ho2 : o2 = ((o1 <<< ((8 : Int32) &&& 0x3f).toInt64) ||| ((y2 &&& (255 : Int32)).toInt64))) (ho3 : o3 = ((o2 <<< ((8 : Int32) &&& 0x3f).toInt64) ||| ((y3 &&& (255 : Int32)).toInt64))) (ho4 : o4 = ((o3 <<< ((8 : Int32) &&& 0x3f).toInt64) ||| ((y4 &&& (255 : Int32)).toInt64))) (hy1 : y1.toInt % 256 = (t / 281474976710656) % 256) (hy2 : y2.toInt % 256 = (t / 1099511627776) % 256) (hy3 : y3.toInt % 256 = (t / 4294967296) % 256) (hy4 : y4.toInt % 256 = (t / 16777216) % 256) : ((-4311816480 : Int64) + o4).toInt = own_val 4 t := by
  rw [own_val_3 (by decide) (by decide)]
  have cL : ((-4311816480 : Int64)).toInt = -4311816480 := rfl
  have x0 : o0.toInt = 0 := by rw [ho0]; rfl
  have x1 : o1.toInt = (t / 281474976710656) := by
    rw [ho1, own_step (X := (t / 72057594037927936)) (by omega) (by omega) (by omega), hy1]; omega
  have x2 : o2.toInt = (t / 1099511627776) := by
    rw [ho2, own_step (X := (t / 281474976710656)) (by omega) (by omega) (by omega), hy2]; omega
  have x3 : o3.toInt = (t / 4294967296) := by
    rw [ho3, own_step (X := (t / 1099511627776)) (by omega) (by omega) (by omega), hy3]; omega
  have x4 : o4.toInt = (t / 16777216) := by
    rw [ho4, own_step (X := (t / 4294967296)) (by omega) (by omega) (by omega), hy4]; omega
  rw [Jvm.Kit.i64_add (by omega) (by omega), cL, x4]
  omega
set_option maxRecDepth 65536 in
set_option maxHeartbeats 40000000 in
theorem r_dec_3 (l : Launch) (Z : State) (a0 : Array Value) (hw : ∀ d ∈ tables_1, d.before a0 Z = true) (ws : List Jvm.Cond) (s_R s_F s_E s_L : Addr) (cl_R cl_F cl_E : Cell) (k_L : ClassId) (h0 : Heap) (n0 : Nat) (O0 : Old Z n0 h0) (G : own_Ctx Z Z.heap s_R s_F s_E s_L cl_R cl_F cl_E k_L) (ar : Addr) (kk : ClassId) (vs : List Value) (pp : Int32) (y0 y1 y2 y3 y4 y5 y6 y7 : Int32) (t : Int) (Va : Arv Z h0 ar kk .byte (11 : Int32) vs (.int (0 : Int32))) (hg : y0 &&& (255 : Int32) = (4 : Int32)) (ht0 : 0 ≤ t) (ht1 : t < 72057594037927936) (hp0 : ¬ (pp < 0) ∧ pp < (11 : Int32)) (hv0 : vs.getD (pp).toNatClampNeg (.int (0 : Int32)) = .int y0) (hp1 : ¬ ((pp + (1 : Int32)) < 0) ∧ (pp + (1 : Int32)) < (11 : Int32)) (hv1 : vs.getD ((pp + (1 : Int32))).toNatClampNeg (.int (0 : Int32)) = .int y1) (hp2 : ¬ ((pp + ((1 : Int32) + (1 : Int32))) < 0) ∧ (pp + ((1 : Int32) + (1 : Int32))) < (11 : Int32)) (hv2 : vs.getD ((pp + ((1 : Int32) + (1 : Int32)))).toNatClampNeg (.int (0 : Int32)) = .int y2) (hp3 : ¬ ((pp + (((1 : Int32) + (1 : Int32)) + (1 : Int32))) < 0) ∧ (pp + (((1 : Int32) + (1 : Int32)) + (1 : Int32))) < (11 : Int32)) (hv3 : vs.getD ((pp + (((1 : Int32) + (1 : Int32)) + (1 : Int32)))).toNatClampNeg (.int (0 : Int32)) = .int y3) (hp4 : ¬ ((pp + ((((1 : Int32) + (1 : Int32)) + (1 : Int32)) + (1 : Int32))) < 0) ∧ (pp + ((((1 : Int32) + (1 : Int32)) + (1 : Int32)) + (1 : Int32))) < (11 : Int32)) (hv4 : vs.getD ((pp + ((((1 : Int32) + (1 : Int32)) + (1 : Int32)) + (1 : Int32)))).toNatClampNeg (.int (0 : Int32)) = .int y4) (hy1 : y1.toInt % 256 = (t / 281474976710656) % 256) (hy2 : y2.toInt % 256 = (t / 1099511627776) % 256) (hy3 : y3.toInt % 256 = (t / 4294967296) % 256) (hy4 : y4.toInt % 256 = (t / 16777216) % 256) (hR : atv cl_R (4 : Int32) = (3 : Int32)) :
    MetFree l (⟨"com/example/rattan/rattan/storage/label/ComponentCode", "decode", "([BI)J"⟩ : MethodName) (head1 (Jvm.Cond.code (⟨"com/example/rattan/rattan/storage/label/ComponentCode", "decode", "([BI)J"⟩ : MethodName) prog_41_method_4_code 7 (some .long) :: ws) ({ frames := 0, cells := 0, slots := 0, locals := 0 } : Room)) (fun a U => a = #[(.ref ar), (.int pp)] ∧ Z.Warmed39 U.vm ∧ U.heap = h0) (fun _ _ _ _ _ => True) (fun _ U o U' => ∃ v L, o = .returned v ∧ own_Ql (own_val 4 t) h0 n0 v U'.heap L ∧ FrameEnd U o U' L ({ frames := 0, cells := 0, slots := 0, locals := 0 } : Room).cells ({ frames := 0, cells := 0, slots := 0, locals := 0 } : Room).slots) := by
  have G0 := G
  obtain ⟨S_R, C_R, S_F, C_F, S_E, C_E, S_L, V_L, R_1, R_2, R_3, R_4, R_5, F_0, F_1, F_2, F_3, F_4, F_5, F_6, F_7, F_8, F_9, F_10, F_11, F_12, F_13, F_14, E_0, E_1, E_2, E_3, E_4, E_5, E_6, E_7, E_8, E_9, E_10, E_11, E_12, E_13, E_14⟩ := G
  refine MetFree.of_bodySF (plainFor_of_name pn_1) hisR ?_
  intro p e s m args below meth c s₁ Bd hml0 hP hK
  obtain ⟨rfl, hZ, hh⟩ := hP
  have hx := Bd.exec
  have hby := Bd.bytes
  have hml : c.maxLocals = 7 := hml0
  have hown : s.vm.findClass "com/example/rattan/rattan/storage/label/ComponentCode" = some m.cls := findClass_of_methodNamed Bd.named
  have hnm := (name_of_methodNamed Bd.named Bd.method).1
  have X0 : Stand p l e ({ frames := 0, cells := 0, slots := 0, locals := 0 } : Room) s m #[(.ref ar), (.int pp)] below meth c s₁ [] 0 0 := Stand.of_body Bd
  have e0 : s₁.heap = h0 := by rw [← hh, Bd.state]; rfl
  have N0 := Fr.nil n0
  have pre0 : ∀ t, Steps p.tables e below (s₁.setTop (mkF m 0 #[.val (.ref ar), .val (.int pp), .unset, .unset, .unset, .unset, .unset] [])) t → Steps p.tables e below (s₁.setTop (entryFrame m #[(.ref ar), (.int pp)] 7)) t := fun t k => castTop (ef_3_2 m ar pp) k
  have vc1 := Va
  obtain ⟨cl1, Ar1, qk1, S1, Nn1, Hs1, Gf1⟩ := vc1
  have hin1 : ¬ (pp < 0 ∨ cl1.slots.size ≤ (pp).toNatClampNeg) := inb_of S1 hp0
  have hat1 : cl1.slots[(pp).toNatClampNeg]? = some (.int y0) := Has.at Hs1 hin1 hv0
  obtain ⟨T2, X2, e2, st2⟩ := getS2 X0 hx hZ hown (host := "") (Or.inl (hw _ (List.mem_of_getElem? (i := 15) rfl))) Via.refl e0 (S_R.ext O0.2) (g := (mkF m 8 #[.val (.ref ar), .val (.int pp), .val (.int (4 : Int32)), .unset, .unset, .unset, .unset] [])) rfl (hb hby d3_8)
  have Sc3 := (C_R.ext O0.2)
  have hin3 : ¬ ((4 : Int32) < 0 ∨ cl_R.slots.size ≤ ((4 : Int32)).toNatClampNeg) := inb_of Sc3.2.1 ⟨by decide, by decide⟩
  obtain ⟨T4, X4, e4, st4⟩ := getS2 X2 hx hZ hown (host := "") (Or.inl (hw _ (List.mem_of_getElem? (i := 17) rfl))) Via.refl e2 (S_F.ext O0.2) (g := (mkF m 15 #[.val (.ref ar), .val (.int pp), .val (.int (4 : Int32)), .val (.int (3 : Int32)), .unset, .unset, .unset] [(.int (4 : Int32))])) rfl (hb hby d3_15)
  have Sc5 := (C_F.ext O0.2)
  have hin5 : ¬ ((3 : Int32) < 0 ∨ cl_F.slots.size ≤ ((3 : Int32)).toNatClampNeg) := inb_of Sc5.2.1 ⟨by decide, by decide⟩
  obtain ⟨o0, ho0⟩ : ∃ z : Int64, z = (((4 : Int32) - (4 : Int32)).toInt64) := ⟨_, rfl⟩
  obtain ⟨T6, X6, e6, st6⟩ := t_dec s_R s_F s_E s_L cl_R cl_F cl_E k_L ar kk vs pp (4 : Int32) (3 : Int32) o0 (1 : Int32) (4 : Int32) y1 X4 hx hZ hw hby hml hown e4 O0 G0 Va ⟨by decide, by decide⟩ E_3 (by decide) hp1 hv1
  obtain ⟨o1, ho1⟩ : ∃ z : Int64, z = ((o0 <<< ((8 : Int32) &&& 0x3f).toInt64) ||| ((y1 &&& (255 : Int32)).toInt64)) := ⟨_, rfl⟩
  obtain ⟨T7, X7, e7, st7⟩ := t_dec s_R s_F s_E s_L cl_R cl_F cl_E k_L ar kk vs pp (4 : Int32) (3 : Int32) o1 ((1 : Int32) + (1 : Int32)) (4 : Int32) y2 X6 hx hZ hw hby hml hown e6 O0 G0 Va ⟨by decide, by decide⟩ E_3 (by decide) hp2 hv2
  obtain ⟨o2, ho2⟩ : ∃ z : Int64, z = ((o1 <<< ((8 : Int32) &&& 0x3f).toInt64) ||| ((y2 &&& (255 : Int32)).toInt64)) := ⟨_, rfl⟩
  obtain ⟨T8, X8, e8, st8⟩ := t_dec s_R s_F s_E s_L cl_R cl_F cl_E k_L ar kk vs pp (4 : Int32) (3 : Int32) o2 (((1 : Int32) + (1 : Int32)) + (1 : Int32)) (4 : Int32) y3 X7 hx hZ hw hby hml hown e7 O0 G0 Va ⟨by decide, by decide⟩ E_3 (by decide) hp3 hv3
  obtain ⟨o3, ho3⟩ : ∃ z : Int64, z = ((o2 <<< ((8 : Int32) &&& 0x3f).toInt64) ||| ((y3 &&& (255 : Int32)).toInt64)) := ⟨_, rfl⟩
  obtain ⟨T9, X9, e9, st9⟩ := t_dec s_R s_F s_E s_L cl_R cl_F cl_E k_L ar kk vs pp (4 : Int32) (3 : Int32) o3 ((((1 : Int32) + (1 : Int32)) + (1 : Int32)) + (1 : Int32)) (4 : Int32) y4 X8 hx hZ hw hby hml hown e8 O0 G0 Va ⟨by decide, by decide⟩ E_3 (by decide) hp4 hv4
  obtain ⟨o4, ho4⟩ : ∃ z : Int64, z = ((o3 <<< ((8 : Int32) &&& 0x3f).toInt64) ||| ((y4 &&& (255 : Int32)).toInt64)) := ⟨_, rfl⟩
  obtain ⟨T10, X10, e10, st10⟩ := getS2 X9 hx hZ hown (host := "") (Or.inl (hw _ (List.mem_of_getElem? (i := 19) rfl))) Via.refl e9 (S_E.ext O0.2) (g := (mkF m 29 #[.val (.ref ar), .val (.int pp), .val (.int (4 : Int32)), .val (.int (3 : Int32)), .val (.long o4), .second, .val (.int (((((1 : Int32) + (1 : Int32)) + (1 : Int32)) + (1 : Int32)) + (1 : Int32)))] [(.int (((((1 : Int32) + (1 : Int32)) + (1 : Int32)) + (1 : Int32)) + (1 : Int32)))])) rfl (hb hby d3_29)
  have Sc11 := (C_E.ext O0.2)
  have hin11 : ¬ ((3 : Int32) < 0 ∨ cl_E.slots.size ≤ ((3 : Int32)).toNatClampNeg) := inb_of Sc11.2.1 ⟨by decide, by decide⟩
  obtain ⟨T12, X12, e12, st12⟩ := getS2 X10 hx hZ hown (host := "") (Or.inl (hw _ (List.mem_of_getElem? (i := 21) rfl))) Via.refl e10 (S_L.ext O0.2) (g := (mkF m 62 #[.val (.ref ar), .val (.int pp), .val (.int (4 : Int32)), .val (.int (3 : Int32)), .val (.long o4), .second, .val (.int (((((1 : Int32) + (1 : Int32)) + (1 : Int32)) + (1 : Int32)) + (1 : Int32)))] [])) rfl (hb hby d3_62)
  have vc13 := (V_L.ext O0.2)
  obtain ⟨cl13, Ar13, qk13, S13, Nn13, Hs13, Gf13⟩ := vc13
  have hin13 : ¬ ((3 : Int32) < 0 ∨ cl13.slots.size ≤ ((3 : Int32)).toNatClampNeg) := inb_of S13 ⟨by decide, by decide⟩
  have hat13 : cl13.slots[((3 : Int32)).toNatClampNeg]? = some (.long (-4311816480 : Int64)) := Has.at Hs13 hin13 rfl
  obtain ⟨fs, hr, hrun, hended, hW, hsame⟩ := X12.leave (v := some (.long ((-4311816480 : Int64) + o4))) (fun h => by rw [Bd.returns] at h; cases h)
  refine ⟨_, _, pre0 _ ?_, hrun, hended, _, _, rfl, ?_, ⟨_, rfl⟩, hW, hsame.mono (by decide) (by decide)⟩
  · show Steps p.tables e below (s₁.setTop (mkF m 0 #[.val (.ref ar), .val (.int pp), .unset, .unset, .unset, .unset, .unset] [])) _
    refine XS.aloadN X0.here hx rfl (hb hby d3_0) rfl rfl ?_
    refine XS.iloadN X0.here hx rfl (hb hby d3_1) rfl ?_
    show Steps p.tables e below (s₁.setTop (mkF m 2 #[.val (.ref ar), .val (.int pp), .unset, .unset, .unset, .unset, .unset] [(.int pp), (.ref ar)])) _
    refine X0.baloadBytes hx (j := pp) (v := (.int y0)) (by rw [e0]; exact Ar1.1) (State.isArrayOf_alike hZ.alike Ar1.2.1) Ar1.2.2 hin1 hat1 (g := (mkF m 2 #[.val (.ref ar), .val (.int pp), .unset, .unset, .unset, .unset, .unset] [(.int pp), (.ref ar)])) rfl rfl (hb hby d3_2) _ ?_
    show Steps p.tables e below (s₁.setTop (mkF m 3 #[.val (.ref ar), .val (.int pp), .unset, .unset, .unset, .unset, .unset] [(.int y0)])) _
    refine XS.sipush X0.here hx rfl (hb hby d3_3) ?_
    refine XS.iand X0.here hx rfl (hb hby d3_6) rfl ?_
    show Steps p.tables e below (s₁.setTop (mkF m 7 #[.val (.ref ar), .val (.int pp), .unset, .unset, .unset, .unset, .unset] [(.int (y0 &&& (255 : Int32)))])) _
    rw [hg]
    refine XS.istoreN X0.here hx rfl (hb hby d3_7) rfl (l' := #[.val (.ref ar), .val (.int pp), .val (.int (4 : Int32)), .unset, .unset, .unset, .unset]) rfl ?_
    show Steps p.tables e below (s₁.setTop (mkF m 8 #[.val (.ref ar), .val (.int pp), .val (.int (4 : Int32)), .unset, .unset, .unset, .unset] [])) _
    refine st2 _ ?_
    show Steps p.tables e below (T2.setTop (mkF m 11 #[.val (.ref ar), .val (.int pp), .val (.int (4 : Int32)), .unset, .unset, .unset, .unset] [(.ref s_R)])) _
    refine XS.iloadN X2.here hx rfl (hb hby d3_11) rfl ?_
    show Steps p.tables e below (T2.setTop (mkF m 12 #[.val (.ref ar), .val (.int pp), .val (.int (4 : Int32)), .unset, .unset, .unset, .unset] [(.int (4 : Int32)), (.ref s_R)])) _
    refine X2.iaload hx (j := (4 : Int32)) (v := (.int (atv cl_R (4 : Int32)))) (by rw [e2]; exact Sc3.1.1) (State.isArrayOf_alike hZ.alike Sc3.1.2.1) Sc3.1.2.2 hin3 (Sc3.2.2.2 _ hin3) (g := (mkF m 12 #[.val (.ref ar), .val (.int pp), .val (.int (4 : Int32)), .unset, .unset, .unset, .unset] [(.int (4 : Int32)), (.ref s_R)])) rfl rfl (hb hby d3_12) _ ?_
    show Steps p.tables e below (T2.setTop (mkF m 13 #[.val (.ref ar), .val (.int pp), .val (.int (4 : Int32)), .unset, .unset, .unset, .unset] [(.int (atv cl_R (4 : Int32)))])) _
    rw [hR]
    show Steps p.tables e below (T2.setTop (mkF m 13 #[.val (.ref ar), .val (.int pp), .val (.int (4 : Int32)), .unset, .unset, .unset, .unset] [(.int (3 : Int32))])) _
    refine XS.istoreN X2.here hx rfl (hb hby d3_13) rfl (l' := #[.val (.ref ar), .val (.int pp), .val (.int (4 : Int32)), .val (.int (3 : Int32)), .unset, .unset, .unset]) rfl ?_
    show Steps p.tables e below (T2.setTop (mkF m 14 #[.val (.ref ar), .val (.int pp), .val (.int (4 : Int32)), .val (.int (3 : Int32)), .unset, .unset, .unset] [])) _
    refine XS.iloadN X2.here hx rfl (hb hby d3_14) rfl ?_
    show Steps p.tables e below (T2.setTop (mkF m 15 #[.val (.ref ar), .val (.int pp), .val (.int (4 : Int32)), .val (.int (3 : Int32)), .unset, .unset, .unset] [(.int (4 : Int32))])) _
    refine st4 _ ?_
    show Steps p.tables e below (T4.setTop (mkF m 18 #[.val (.ref ar), .val (.int pp), .val (.int (4 : Int32)), .val (.int (3 : Int32)), .unset, .unset, .unset] [(.ref s_F), (.int (4 : Int32))])) _
    refine XS.iloadN X4.here hx rfl (hb hby d3_18) rfl ?_
    show Steps p.tables e below (T4.setTop (mkF m 19 #[.val (.ref ar), .val (.int pp), .val (.int (4 : Int32)), .val (.int (3 : Int32)), .unset, .unset, .unset] [(.int (3 : Int32)), (.ref s_F), (.int (4 : Int32))])) _
    refine X4.iaload hx (j := (3 : Int32)) (v := (.int (atv cl_F (3 : Int32)))) (by rw [e4]; exact Sc5.1.1) (State.isArrayOf_alike hZ.alike Sc5.1.2.1) Sc5.1.2.2 hin5 (Sc5.2.2.2 _ hin5) (g := (mkF m 19 #[.val (.ref ar), .val (.int pp), .val (.int (4 : Int32)), .val (.int (3 : Int32)), .unset, .unset, .unset] [(.int (3 : Int32)), (.ref s_F), (.int (4 : Int32))])) rfl rfl (hb hby d3_19) _ ?_
    show Steps p.tables e below (T4.setTop (mkF m 20 #[.val (.ref ar), .val (.int pp), .val (.int (4 : Int32)), .val (.int (3 : Int32)), .unset, .unset, .unset] [(.int (atv cl_F (3 : Int32))), (.int (4 : Int32))])) _
    rw [F_3]
    show Steps p.tables e below (T4.setTop (mkF m 20 #[.val (.ref ar), .val (.int pp), .val (.int (4 : Int32)), .val (.int (3 : Int32)), .unset, .unset, .unset] [(.int (4 : Int32)), (.int (4 : Int32))])) _
    refine XS.isub X4.here hx rfl (hb hby d3_20) rfl ?_
    show Steps p.tables e below (T4.setTop (mkF m 21 #[.val (.ref ar), .val (.int pp), .val (.int (4 : Int32)), .val (.int (3 : Int32)), .unset, .unset, .unset] [(.int ((4 : Int32) - (4 : Int32)))])) _
    refine XS.i2l X4.here hx rfl (hb hby d3_21) rfl ?_
    show Steps p.tables e below (T4.setTop (mkF m 22 #[.val (.ref ar), .val (.int pp), .val (.int (4 : Int32)), .val (.int (3 : Int32)), .unset, .unset, .unset] [(.long (((4 : Int32) - (4 : Int32)).toInt64))])) _
    refine XS.lstore X4.here hx rfl (hb hby d3_22) rfl (l' := #[.val (.ref ar), .val (.int pp), .val (.int (4 : Int32)), .val (.int (3 : Int32)), .val (.long (((4 : Int32) - (4 : Int32)).toInt64)), .second, .unset]) rfl ?_
    show Steps p.tables e below (T4.setTop (mkF m 24 #[.val (.ref ar), .val (.int pp), .val (.int (4 : Int32)), .val (.int (3 : Int32)), .val (.long (((4 : Int32) - (4 : Int32)).toInt64)), .second, .unset] [])) _
    refine XS.iconst X4.here hx rfl (hb hby d3_24) ?_
    refine XS.istore X4.here hx rfl (hb hby d3_25) rfl (l' := #[.val (.ref ar), .val (.int pp), .val (.int (4 : Int32)), .val (.int (3 : Int32)), .val (.long (((4 : Int32) - (4 : Int32)).toInt64)), .second, .val (.int (1 : Int32))]) rfl ?_
    show Steps p.tables e below (T4.setTop (mkF m 27 #[.val (.ref ar), .val (.int pp), .val (.int (4 : Int32)), .val (.int (3 : Int32)), .val (.long (((4 : Int32) - (4 : Int32)).toInt64)), .second, .val (.int (1 : Int32))] [])) _
    rw [← ho0]
    show Steps p.tables e below (T4.setTop (mkF m 27 #[.val (.ref ar), .val (.int pp), .val (.int (4 : Int32)), .val (.int (3 : Int32)), .val (.long o0), .second, .val (.int (1 : Int32))] [])) _
    refine st6 _ ?_
    show Steps p.tables e below (T6.setTop (mkF m 27 #[.val (.ref ar), .val (.int pp), .val (.int (4 : Int32)), .val (.int (3 : Int32)), .val (.long ((o0 <<< ((8 : Int32) &&& 0x3f).toInt64) ||| ((y1 &&& (255 : Int32)).toInt64))), .second, .val (.int ((1 : Int32) + (1 : Int32)))] [])) _
    rw [← ho1]
    show Steps p.tables e below (T6.setTop (mkF m 27 #[.val (.ref ar), .val (.int pp), .val (.int (4 : Int32)), .val (.int (3 : Int32)), .val (.long o1), .second, .val (.int ((1 : Int32) + (1 : Int32)))] [])) _
    refine st7 _ ?_
    show Steps p.tables e below (T7.setTop (mkF m 27 #[.val (.ref ar), .val (.int pp), .val (.int (4 : Int32)), .val (.int (3 : Int32)), .val (.long ((o1 <<< ((8 : Int32) &&& 0x3f).toInt64) ||| ((y2 &&& (255 : Int32)).toInt64))), .second, .val (.int (((1 : Int32) + (1 : Int32)) + (1 : Int32)))] [])) _
    rw [← ho2]
    show Steps p.tables e below (T7.setTop (mkF m 27 #[.val (.ref ar), .val (.int pp), .val (.int (4 : Int32)), .val (.int (3 : Int32)), .val (.long o2), .second, .val (.int (((1 : Int32) + (1 : Int32)) + (1 : Int32)))] [])) _
    refine st8 _ ?_
    show Steps p.tables e below (T8.setTop (mkF m 27 #[.val (.ref ar), .val (.int pp), .val (.int (4 : Int32)), .val (.int (3 : Int32)), .val (.long ((o2 <<< ((8 : Int32) &&& 0x3f).toInt64) ||| ((y3 &&& (255 : Int32)).toInt64))), .second, .val (.int ((((1 : Int32) + (1 : Int32)) + (1 : Int32)) + (1 : Int32)))] [])) _
    rw [← ho3]
    show Steps p.tables e below (T8.setTop (mkF m 27 #[.val (.ref ar), .val (.int pp), .val (.int (4 : Int32)), .val (.int (3 : Int32)), .val (.long o3), .second, .val (.int ((((1 : Int32) + (1 : Int32)) + (1 : Int32)) + (1 : Int32)))] [])) _
    refine st9 _ ?_
    show Steps p.tables e below (T9.setTop (mkF m 27 #[.val (.ref ar), .val (.int pp), .val (.int (4 : Int32)), .val (.int (3 : Int32)), .val (.long ((o3 <<< ((8 : Int32) &&& 0x3f).toInt64) ||| ((y4 &&& (255 : Int32)).toInt64))), .second, .val (.int (((((1 : Int32) + (1 : Int32)) + (1 : Int32)) + (1 : Int32)) + (1 : Int32)))] [])) _
    rw [← ho4]
    show Steps p.tables e below (T9.setTop (mkF m 27 #[.val (.ref ar), .val (.int pp), .val (.int (4 : Int32)), .val (.int (3 : Int32)), .val (.long o4), .second, .val (.int (((((1 : Int32) + (1 : Int32)) + (1 : Int32)) + (1 : Int32)) + (1 : Int32)))] [])) _
    refine XS.iload X9.here hx rfl (hb hby d3_27) rfl ?_
    show Steps p.tables e below (T9.setTop (mkF m 29 #[.val (.ref ar), .val (.int pp), .val (.int (4 : Int32)), .val (.int (3 : Int32)), .val (.long o4), .second, .val (.int (((((1 : Int32) + (1 : Int32)) + (1 : Int32)) + (1 : Int32)) + (1 : Int32)))] [(.int (((((1 : Int32) + (1 : Int32)) + (1 : Int32)) + (1 : Int32)) + (1 : Int32)))])) _
    refine st10 _ ?_
    show Steps p.tables e below (T10.setTop (mkF m 32 #[.val (.ref ar), .val (.int pp), .val (.int (4 : Int32)), .val (.int (3 : Int32)), .val (.long o4), .second, .val (.int (((((1 : Int32) + (1 : Int32)) + (1 : Int32)) + (1 : Int32)) + (1 : Int32)))] [(.ref s_E), (.int (((((1 : Int32) + (1 : Int32)) + (1 : Int32)) + (1 : Int32)) + (1 : Int32)))])) _
    refine XS.iloadN X10.here hx rfl (hb hby d3_32) rfl ?_
    show Steps p.tables e below (T10.setTop (mkF m 33 #[.val (.ref ar), .val (.int pp), .val (.int (4 : Int32)), .val (.int (3 : Int32)), .val (.long o4), .second, .val (.int (((((1 : Int32) + (1 : Int32)) + (1 : Int32)) + (1 : Int32)) + (1 : Int32)))] [(.int (3 : Int32)), (.ref s_E), (.int (((((1 : Int32) + (1 : Int32)) + (1 : Int32)) + (1 : Int32)) + (1 : Int32)))])) _
    refine X10.iaload hx (j := (3 : Int32)) (v := (.int (atv cl_E (3 : Int32)))) (by rw [e10]; exact Sc11.1.1) (State.isArrayOf_alike hZ.alike Sc11.1.2.1) Sc11.1.2.2 hin11 (Sc11.2.2.2 _ hin11) (g := (mkF m 33 #[.val (.ref ar), .val (.int pp), .val (.int (4 : Int32)), .val (.int (3 : Int32)), .val (.long o4), .second, .val (.int (((((1 : Int32) + (1 : Int32)) + (1 : Int32)) + (1 : Int32)) + (1 : Int32)))] [(.int (3 : Int32)), (.ref s_E), (.int (((((1 : Int32) + (1 : Int32)) + (1 : Int32)) + (1 : Int32)) + (1 : Int32)))])) rfl rfl (hb hby d3_33) _ ?_
    show Steps p.tables e below (T10.setTop (mkF m 34 #[.val (.ref ar), .val (.int pp), .val (.int (4 : Int32)), .val (.int (3 : Int32)), .val (.long o4), .second, .val (.int (((((1 : Int32) + (1 : Int32)) + (1 : Int32)) + (1 : Int32)) + (1 : Int32)))] [(.int (atv cl_E (3 : Int32))), (.int (((((1 : Int32) + (1 : Int32)) + (1 : Int32)) + (1 : Int32)) + (1 : Int32)))])) _
    rw [E_3]
    show Steps p.tables e below (T10.setTop (mkF m 34 #[.val (.ref ar), .val (.int pp), .val (.int (4 : Int32)), .val (.int (3 : Int32)), .val (.long o4), .second, .val (.int (((((1 : Int32) + (1 : Int32)) + (1 : Int32)) + (1 : Int32)) + (1 : Int32)))] [(.int (4 : Int32)), (.int (((((1 : Int32) + (1 : Int32)) + (1 : Int32)) + (1 : Int32)) + (1 : Int32)))])) _
    refine XS.icmpYes X10.here hx rfl (pc0 := 34) (pc' := 62) rfl (hb hby d3_34) rfl (tlt (by decide : (4 : Int32) < (((((1 : Int32) + (1 : Int32)) + (1 : Int32)) + (1 : Int32)) + (1 : Int32)))).2.2.1 (by decide) (by decide) ?_
    show Steps p.tables e below (T10.setTop (mkF m 62 #[.val (.ref ar), .val (.int pp), .val (.int (4 : Int32)), .val (.int (3 : Int32)), .val (.long o4), .second, .val (.int (((((1 : Int32) + (1 : Int32)) + (1 : Int32)) + (1 : Int32)) + (1 : Int32)))] [])) _
    refine st12 _ ?_
    show Steps p.tables e below (T12.setTop (mkF m 65 #[.val (.ref ar), .val (.int pp), .val (.int (4 : Int32)), .val (.int (3 : Int32)), .val (.long o4), .second, .val (.int (((((1 : Int32) + (1 : Int32)) + (1 : Int32)) + (1 : Int32)) + (1 : Int32)))] [(.ref s_L)])) _
    refine XS.iloadN X12.here hx rfl (hb hby d3_65) rfl ?_
    show Steps p.tables e below (T12.setTop (mkF m 66 #[.val (.ref ar), .val (.int pp), .val (.int (4 : Int32)), .val (.int (3 : Int32)), .val (.long o4), .second, .val (.int (((((1 : Int32) + (1 : Int32)) + (1 : Int32)) + (1 : Int32)) + (1 : Int32)))] [(.int (3 : Int32)), (.ref s_L)])) _
    refine X12.laload hx (j := (3 : Int32)) (v := (.long (-4311816480 : Int64))) (by rw [e12]; exact Ar13.1) (State.isArrayOf_alike hZ.alike Ar13.2.1) Ar13.2.2 hin13 hat13 (g := (mkF m 66 #[.val (.ref ar), .val (.int pp), .val (.int (4 : Int32)), .val (.int (3 : Int32)), .val (.long o4), .second, .val (.int (((((1 : Int32) + (1 : Int32)) + (1 : Int32)) + (1 : Int32)) + (1 : Int32)))] [(.int (3 : Int32)), (.ref s_L)])) rfl rfl (hb hby d3_66) _ ?_
    show Steps p.tables e below (T12.setTop (mkF m 67 #[.val (.ref ar), .val (.int pp), .val (.int (4 : Int32)), .val (.int (3 : Int32)), .val (.long o4), .second, .val (.int (((((1 : Int32) + (1 : Int32)) + (1 : Int32)) + (1 : Int32)) + (1 : Int32)))] [(.long (-4311816480 : Int64))])) _
    refine XS.lload X12.here hx rfl (hb hby d3_67) rfl ?_
    refine XS.ladd X12.here hx rfl (hb hby d3_69) rfl ?_
    show Steps p.tables e below (T12.setTop (mkF m 70 #[.val (.ref ar), .val (.int pp), .val (.int (4 : Int32)), .val (.int (3 : Int32)), .val (.long o4), .second, .val (.int (((((1 : Int32) + (1 : Int32)) + (1 : Int32)) + (1 : Int32)) + (1 : Int32)))] [(.long ((-4311816480 : Int64) + o4))])) _
    exact retOut X12 hx Bd.returns rfl (Or.inr (Or.inl ⟨rfl, rfl, _, rfl⟩)) (hb hby d3_70) hr
  · show own_Ql (own_val 4 t) h0 n0 _ T12.heap _
    rw [e12]
    exact ⟨_, rfl, N0, rfl, own_d_3 ht0 ht1 ho0 ho1 ho2 ho3 ho4 hy1 hy2 hy3 hy4⟩
theorem own_d_4 {o0 o1 o2 o3 : Int64} {y1 y2 y3 : Int32} {t : Int} (ht0 : 0 ≤ t) (ht1 : t < 72057594037927936) (ho0 : o0 = (((5 : Int32) - (5 : Int32)).toInt64)) (ho1 : o1 = ((o0 <<< ((8 : Int32) &&& 0x3f).toInt64) ||| ((y1 &&& (255 : Int32)).toInt64))) (ho2 : o2 = ((o1 <<< ((8 : Int32) &&& 0x3f).toInt64) ||| ((y2 &&& (255 : Int32)).toInt64))) (ho3 : o3 = ((o2 <<< ((8 : Int32) &&& 0x3f).toInt64) ||| ((y3 &&& (255 : Int32)).toInt64))) (hy1 : y1.toInt % 256 = (t / 281474976710656) % 256) (hy2 : y2.toInt % 256 = (t / 1099511627776) % 256) (hy3 : y3.toInt % 256 = (t / 4294967296) % 256) : ((-16849184 : Int64) + o3).toInt = own_val 5 t := by
  rw [own_val_4 (by decide) (by decide)]
  have cL : ((-16849184 : Int64)).toInt = -16849184 := rfl
  have x0 : o0.toInt = 0 := by rw [ho0]; rfl
  have x1 : o1.toInt = (t / 281474976710656) := by
    rw [ho1, own_step (X := (t / 72057594037927936)) (by omega) (by omega) (by omega), hy1]; omega
  have x2 : o2.toInt = (t / 1099511627776) := by
    rw [ho2, own_step (X := (t / 281474976710656)) (by omega) (by omega) (by omega), hy2]; omega
  have x3 : o3.toInt = (t / 4294967296) := by
    rw [ho3, own_step (X := (t / 1099511627776)) (by omega) (by omega) (by omega), hy3]; omega
  rw [Jvm.Kit.i64_add (by omega) (by omega), cL, x3]
  omega
set_option maxRecDepth 65536 in
set_option maxHeartbeats 40000000 in
theorem r_dec_4 (l : Launch) (Z : State) (a0 : Array Value) (hw : ∀ d ∈ tables_1, d.before a0 Z = true) (ws : List Jvm.Cond) (s_R s_F s_E s_L : Addr) (cl_R cl_F cl_E : Cell) (k_L : ClassId) (h0 : Heap) (n0 : Nat) (O0 : Old Z n0 h0) (G : own_Ctx Z Z.heap s_R s_F s_E s_L cl_R cl_F cl_E k_L) (ar : Addr) (kk : ClassId) (vs : List Value) (pp : Int32) (y0 y1 y2 y3 y4 y5 y6 y7 : Int32) (t : Int) (Va : Arv Z h0 ar kk .byte (11 : Int32) vs (.int (0 : Int32))) (hg : y0 &&& (255 : Int32) = (5 : Int32)) (ht0 : 0 ≤ t) (ht1 : t < 72057594037927936) (hp0 : ¬ (pp < 0) ∧ pp < (11 : Int32)) (hv0 : vs.getD (pp).toNatClampNeg (.int (0 : Int32)) = .int y0) (hp1 : ¬ ((pp + (1 : Int32)) < 0) ∧ (pp + (1 : Int32)) < (11 : Int32)) (hv1 : vs.getD ((pp + (1 : Int32))).toNatClampNeg (.int (0 : Int32)) = .int y1) (hp2 : ¬ ((pp + ((1 : Int32) + (1 : Int32))) < 0) ∧ (pp + ((1 : Int32) + (1 : Int32))) < (11 : Int32)) (hv2 : vs.getD ((pp + ((1 : Int32) + (1 : Int32)))).toNatClampNeg (.int (0 : Int32)) = .int y2) (hp3 : ¬ ((pp + (((1 : Int32) + (1 : Int32)) + (1 : Int32))) < 0) ∧ (pp + (((1 : Int32) + (1 : Int32)) + (1 : Int32))) < (11 : Int32)) (hv3 : vs.getD ((pp + (((1 : Int32) + (1 : Int32)) + (1 : Int32)))).toNatClampNeg (.int (0 : Int32)) = .int y3) (hy1 : y1.toInt % 256 = (t / 281474976710656) % 256) (hy2 : y2.toInt % 256 = (t / 1099511627776) % 256) (hy3 : y3.toInt % 256 = (t / 4294967296) % 256) (hR : atv cl_R (5 : Int32) = (4 : Int32)) :
    MetFree l (⟨"com/example/rattan/rattan/storage/label/ComponentCode", "decode", "([BI)J"⟩ : MethodName) (head1 (Jvm.Cond.code (⟨"com/example/rattan/rattan/storage/label/ComponentCode", "decode", "([BI)J"⟩ : MethodName) prog_41_method_4_code 7 (some .long) :: ws) ({ frames := 0, cells := 0, slots := 0, locals := 0 } : Room)) (fun a U => a = #[(.ref ar), (.int pp)] ∧ Z.Warmed39 U.vm ∧ U.heap = h0) (fun _ _ _ _ _ => True) (fun _ U o U' => ∃ v L, o = .returned v ∧ own_Ql (own_val 5 t) h0 n0 v U'.heap L ∧ FrameEnd U o U' L ({ frames := 0, cells := 0, slots := 0, locals := 0 } : Room).cells ({ frames := 0, cells := 0, slots := 0, locals := 0 } : Room).slots) := by
  have G0 := G
  obtain ⟨S_R, C_R, S_F, C_F, S_E, C_E, S_L, V_L, R_1, R_2, R_3, R_4, R_5, F_0, F_1, F_2, F_3, F_4, F_5, F_6, F_7, F_8, F_9, F_10, F_11, F_12, F_13, F_14, E_0, E_1, E_2, E_3, E_4, E_5, E_6, E_7, E_8, E_9, E_10, E_11, E_12, E_13, E_14⟩ := G
  refine MetFree.of_bodySF (plainFor_of_name pn_1) hisR ?_
  intro p e s m args below meth c s₁ Bd hml0 hP hK
  obtain ⟨rfl, hZ, hh⟩ := hP
  have hx := Bd.exec
  have hby := Bd.bytes
  have hml : c.maxLocals = 7 := hml0
  have hown : s.vm.findClass "com/example/rattan/rattan/storage/label/ComponentCode" = some m.cls := findClass_of_methodNamed Bd.named
  have hnm := (name_of_methodNamed Bd.named Bd.method).1
  have X0 : Stand p l e ({ frames := 0, cells := 0, slots := 0, locals := 0 } : Room) s m #[(.ref ar), (.int pp)] below meth c s₁ [] 0 0 := Stand.of_body Bd
  have e0 : s₁.heap = h0 := by rw [← hh, Bd.state]; rfl
  have N0 := Fr.nil n0
  have pre0 : ∀ t, Steps p.tables e below (s₁.setTop (mkF m 0 #[.val (.ref ar), .val (.int pp), .unset, .unset, .unset, .unset, .unset] [])) t → Steps p.tables e below (s₁.setTop (entryFrame m #[(.ref ar), (.int pp)] 7)) t := fun t k => castTop (ef_3_2 m ar pp) k
  have vc1 := Va
  obtain ⟨cl1, Ar1, qk1, S1, Nn1, Hs1, Gf1⟩ := vc1
  have hin1 : ¬ (pp < 0 ∨ cl1.slots.size ≤ (pp).toNatClampNeg) := inb_of S1 hp0
  have hat1 : cl1.slots[(pp).toNatClampNeg]? = some (.int y0) := Has.at Hs1 hin1 hv0
  obtain ⟨T2, X2, e2, st2⟩ := getS2 X0 hx hZ hown (host := "") (Or.inl (hw _ (List.mem_of_getElem? (i := 15) rfl))) Via.refl e0 (S_R.ext O0.2) (g := (mkF m 8 #[.val (.ref ar), .val (.int pp), .val (.int (5 : Int32)), .unset, .unset, .unset, .unset] [])) rfl (hb hby d3_8)
  have Sc3 := (C_R.ext O0.2)
  have hin3 : ¬ ((5 : Int32) < 0 ∨ cl_R.slots.size ≤ ((5 : Int32)).toNatClampNeg) := inb_of Sc3.2.1 ⟨by decide, by decide⟩
  obtain ⟨T4, X4, e4, st4⟩ := getS2 X2 hx hZ hown (host := "") (Or.inl (hw _ (List.mem_of_getElem? (i := 17) rfl))) Via.refl e2 (S_F.ext O0.2) (g := (mkF m 15 #[.val (.ref ar), .val (.int pp), .val (.int (5 : Int32)), .val (.int (4 : Int32)), .unset, .unset, .unset] [(.int (5 : Int32))])) rfl (hb hby d3_15)
  have Sc5 := (C_F.ext O0.2)
  have hin5 : ¬ ((4 : Int32) < 0 ∨ cl_F.slots.size ≤ ((4 : Int32)).toNatClampNeg) := inb_of Sc5.2.1 ⟨by decide, by decide⟩
  obtain ⟨o0, ho0⟩ : ∃ z : Int64, z = (((5 : Int32) - (5 : Int32)).toInt64) := ⟨_, rfl⟩
  obtain ⟨T6, X6, e6, st6⟩ := t_dec s_R s_F s_E s_L cl_R cl_F cl_E k_L ar kk vs pp (5 : Int32) (4 : Int32) o0 (1 : Int32) (3 : Int32) y1 X4 hx hZ hw hby hml hown e4 O0 G0 Va ⟨by decide, by decide⟩ E_4 (by decide) hp1 hv1
  obtain ⟨o1, ho1⟩ : ∃ z : Int64, z = ((o0 <<< ((8 : Int32) &&& 0x3f).toInt64) ||| ((y1 &&& (255 : Int32)).toInt64)) := ⟨_, rfl⟩
  obtain ⟨T7, X7, e7, st7⟩ := t_dec s_R s_F s_E s_L cl_R cl_F cl_E k_L ar kk vs pp (5 : Int32) (4 : Int32) o1 ((1 : Int32) + (1 : Int32)) (3 : Int32) y2 X6 hx hZ hw hby hml hown e6 O0 G0 Va ⟨by decide, by decide⟩ E_4 (by decide) hp2 hv2
  obtain ⟨o2, ho2⟩ : ∃ z : Int64, z = ((o1 <<< ((8 : Int32) &&& 0x3f).toInt64) ||| ((y2 &&& (255 : Int32)).toInt64)) := ⟨_, rfl⟩
  obtain ⟨T8, X8, e8, st8⟩ := t_dec s_R s_F s_E s_L cl_R cl_F cl_E k_L ar kk vs pp (5 : Int32) (4 : Int32) o2 (((1 : Int32) + (1 : Int32)) + (1 : Int32)) (3 : Int32) y3 X7 hx hZ hw hby hml hown e7 O0 G0 Va ⟨by decide, by decide⟩ E_4 (by decide) hp3 hv3
  obtain ⟨o3, ho3⟩ : ∃ z : Int64, z = ((o2 <<< ((8 : Int32) &&& 0x3f).toInt64) ||| ((y3 &&& (255 : Int32)).toInt64)) := ⟨_, rfl⟩
  obtain ⟨T9, X9, e9, st9⟩ := getS2 X8 hx hZ hown (host := "") (Or.inl (hw _ (List.mem_of_getElem? (i := 19) rfl))) Via.refl e8 (S_E.ext O0.2) (g := (mkF m 29 #[.val (.ref ar), .val (.int pp), .val (.int (5 : Int32)), .val (.int (4 : Int32)), .val (.long o3), .second, .val (.int ((((1 : Int32) + (1 : Int32)) + (1 : Int32)) + (1 : Int32)))] [(.int ((((1 : Int32) + (1 : Int32)) + (1 : Int32)) + (1 : Int32)))])) rfl (hb hby d3_29)
  have Sc10 := (C_E.ext O0.2)
  have hin10 : ¬ ((4 : Int32) < 0 ∨ cl_E.slots.size ≤ ((4 : Int32)).toNatClampNeg) := inb_of Sc10.2.1 ⟨by decide, by decide⟩
  obtain ⟨T11, X11, e11, st11⟩ := getS2 X9 hx hZ hown (host := "") (Or.inl (hw _ (List.mem_of_getElem? (i := 21) rfl))) Via.refl e9 (S_L.ext O0.2) (g := (mkF m 62 #[.val (.ref ar), .val (.int pp), .val (.int (5 : Int32)), .val (.int (4 : Int32)), .val (.long o3), .second, .val (.int ((((1 : Int32) + (1 : Int32)) + (1 : Int32)) + (1 : Int32)))] [])) rfl (hb hby d3_62)
  have vc12 := (V_L.ext O0.2)
  obtain ⟨cl12, Ar12, qk12, S12, Nn12, Hs12, Gf12⟩ := vc12
  have hin12 : ¬ ((4 : Int32) < 0 ∨ cl12.slots.size ≤ ((4 : Int32)).toNatClampNeg) := inb_of S12 ⟨by decide, by decide⟩
  have hat12 : cl12.slots[((4 : Int32)).toNatClampNeg]? = some (.long (-16849184 : Int64)) := Has.at Hs12 hin12 rfl
  obtain ⟨fs, hr, hrun, hended, hW, hsame⟩ := X11.leave (v := some (.long ((-16849184 : Int64) + o3))) (fun h => by rw [Bd.returns] at h; cases h)
  refine ⟨_, _, pre0 _ ?_, hrun, hended, _, _, rfl, ?_, ⟨_, rfl⟩, hW, hsame.mono (by decide) (by decide)⟩
  · show Steps p.tables e below (s₁.setTop (mkF m 0 #[.val (.ref ar), .val (.int pp), .unset, .unset, .unset, .unset, .unset] [])) _
    refine XS.aloadN X0.here hx rfl (hb hby d3_0) rfl rfl ?_
    refine XS.iloadN X0.here hx rfl (hb hby d3_1) rfl ?_
    show Steps p.tables e below (s₁.setTop (mkF m 2 #[.val (.ref ar), .val (.int pp), .unset, .unset, .unset, .unset, .unset] [(.int pp), (.ref ar)])) _
    refine X0.baloadBytes hx (j := pp) (v := (.int y0)) (by rw [e0]; exact Ar1.1) (State.isArrayOf_alike hZ.alike Ar1.2.1) Ar1.2.2 hin1 hat1 (g := (mkF m 2 #[.val (.ref ar), .val (.int pp), .unset, .unset, .unset, .unset, .unset] [(.int pp), (.ref ar)])) rfl rfl (hb hby d3_2) _ ?_
    show Steps p.tables e below (s₁.setTop (mkF m 3 #[.val (.ref ar), .val (.int pp), .unset, .unset, .unset, .unset, .unset] [(.int y0)])) _
    refine XS.sipush X0.here hx rfl (hb hby d3_3) ?_
    refine XS.iand X0.here hx rfl (hb hby d3_6) rfl ?_
    show Steps p.tables e below (s₁.setTop (mkF m 7 #[.val (.ref ar), .val (.int pp), .unset, .unset, .unset, .unset, .unset] [(.int (y0 &&& (255 : Int32)))])) _
    rw [hg]
    refine XS.istoreN X0.here hx rfl (hb hby d3_7) rfl (l' := #[.val (.ref ar), .val (.int pp), .val (.int (5 : Int32)), .unset, .unset, .unset, .unset]) rfl ?_
    show Steps p.tables e below (s₁.setTop (mkF m 8 #[.val (.ref ar), .val (.int pp), .val (.int (5 : Int32)), .unset, .unset, .unset, .unset] [])) _
    refine st2 _ ?_
    show Steps p.tables e below (T2.setTop (mkF m 11 #[.val (.ref ar), .val (.int pp), .val (.int (5 : Int32)), .unset, .unset, .unset, .unset] [(.ref s_R)])) _
    refine XS.iloadN X2.here hx rfl (hb hby d3_11) rfl ?_
    show Steps p.tables e below (T2.setTop (mkF m 12 #[.val (.ref ar), .val (.int pp), .val (.int (5 : Int32)), .unset, .unset, .unset, .unset] [(.int (5 : Int32)), (.ref s_R)])) _
    refine X2.iaload hx (j := (5 : Int32)) (v := (.int (atv cl_R (5 : Int32)))) (by rw [e2]; exact Sc3.1.1) (State.isArrayOf_alike hZ.alike Sc3.1.2.1) Sc3.1.2.2 hin3 (Sc3.2.2.2 _ hin3) (g := (mkF m 12 #[.val (.ref ar), .val (.int pp), .val (.int (5 : Int32)), .unset, .unset, .unset, .unset] [(.int (5 : Int32)), (.ref s_R)])) rfl rfl (hb hby d3_12) _ ?_
    show Steps p.tables e below (T2.setTop (mkF m 13 #[.val (.ref ar), .val (.int pp), .val (.int (5 : Int32)), .unset, .unset, .unset, .unset] [(.int (atv cl_R (5 : Int32)))])) _
    rw [hR]
    show Steps p.tables e below (T2.setTop (mkF m 13 #[.val (.ref ar), .val (.int pp), .val (.int (5 : Int32)), .unset, .unset, .unset, .unset] [(.int (4 : Int32))])) _
    refine XS.istoreN X2.here hx rfl (hb hby d3_13) rfl (l' := #[.val (.ref ar), .val (.int pp), .val (.int (5 : Int32)), .val (.int (4 : Int32)), .unset, .unset, .unset]) rfl ?_
    show Steps p.tables e below (T2.setTop (mkF m 14 #[.val (.ref ar), .val (.int pp), .val (.int (5 : Int32)), .val (.int (4 : Int32)), .unset, .unset, .unset] [])) _
    refine XS.iloadN X2.here hx rfl (hb hby d3_14) rfl ?_
    show Steps p.tables e below (T2.setTop (mkF m 15 #[.val (.ref ar), .val (.int pp), .val (.int (5 : Int32)), .val (.int (4 : Int32)), .unset, .unset, .unset] [(.int (5 : Int32))])) _
    refine st4 _ ?_
    show Steps p.tables e below (T4.setTop (mkF m 18 #[.val (.ref ar), .val (.int pp), .val (.int (5 : Int32)), .val (.int (4 : Int32)), .unset, .unset, .unset] [(.ref s_F), (.int (5 : Int32))])) _
    refine XS.iloadN X4.here hx rfl (hb hby d3_18) rfl ?_
    show Steps p.tables e below (T4.setTop (mkF m 19 #[.val (.ref ar), .val (.int pp), .val (.int (5 : Int32)), .val (.int (4 : Int32)), .unset, .unset, .unset] [(.int (4 : Int32)), (.ref s_F), (.int (5 : Int32))])) _
    refine X4.iaload hx (j := (4 : Int32)) (v := (.int (atv cl_F (4 : Int32)))) (by rw [e4]; exact Sc5.1.1) (State.isArrayOf_alike hZ.alike Sc5.1.2.1) Sc5.1.2.2 hin5 (Sc5.2.2.2 _ hin5) (g := (mkF m 19 #[.val (.ref ar), .val (.int pp), .val (.int (5 : Int32)), .val (.int (4 : Int32)), .unset, .unset, .unset] [(.int (4 : Int32)), (.ref s_F), (.int (5 : Int32))])) rfl rfl (hb hby d3_19) _ ?_
    show Steps p.tables e below (T4.setTop (mkF m 20 #[.val (.ref ar), .val (.int pp), .val (.int (5 : Int32)), .val (.int (4 : Int32)), .unset, .unset, .unset] [(.int (atv cl_F (4 : Int32))), (.int (5 : Int32))])) _
    rw [F_4]
    show Steps p.tables e below (T4.setTop (mkF m 20 #[.val (.ref ar), .val (.int pp), .val (.int (5 : Int32)), .val (.int (4 : Int32)), .unset, .unset, .unset] [(.int (5 : Int32)), (.int (5 : Int32))])) _
    refine XS.isub X4.here hx rfl (hb hby d3_20) rfl ?_
    show Steps p.tables e below (T4.setTop (mkF m 21 #[.val (.ref ar), .val (.int pp), .val (.int (5 : Int32)), .val (.int (4 : Int32)), .unset, .unset, .unset] [(.int ((5 : Int32) - (5 : Int32)))])) _
    refine XS.i2l X4.here hx rfl (hb hby d3_21) rfl ?_
    show Steps p.tables e below (T4.setTop (mkF m 22 #[.val (.ref ar), .val (.int pp), .val (.int (5 : Int32)), .val (.int (4 : Int32)), .unset, .unset, .unset] [(.long (((5 : Int32) - (5 : Int32)).toInt64))])) _
    refine XS.lstore X4.here hx rfl (hb hby d3_22) rfl (l' := #[.val (.ref ar), .val (.int pp), .val (.int (5 : Int32)), .val (.int (4 : Int32)), .val (.long (((5 : Int32) - (5 : Int32)).toInt64)), .second, .unset]) rfl ?_
    show Steps p.tables e below (T4.setTop (mkF m 24 #[.val (.ref ar), .val (.int pp), .val (.int (5 : Int32)), .val (.int (4 : Int32)), .val (.long (((5 : Int32) - (5 : Int32)).toInt64)), .second, .unset] [])) _
    refine XS.iconst X4.here hx rfl (hb hby d3_24) ?_
    refine XS.istore X4.here hx rfl (hb hby d3_25) rfl (l' := #[.val (.ref ar), .val (.int pp), .val (.int (5 : Int32)), .val (.int (4 : Int32)), .val (.long (((5 : Int32) - (5 : Int32)).toInt64)), .second, .val (.int (1 : Int32))]) rfl ?_
    show Steps p.tables e below (T4.setTop (mkF m 27 #[.val (.ref ar), .val (.int pp), .val (.int (5 : Int32)), .val (.int (4 : Int32)), .val (.long (((5 : Int32) - (5 : Int32)).toInt64)), .second, .val (.int (1 : Int32))] [])) _
    rw [← ho0]
    show Steps p.tables e below (T4.setTop (mkF m 27 #[.val (.ref ar), .val (.int pp), .val (.int (5 : Int32)), .val (.int (4 : Int32)), .val (.long o0), .second, .val (.int (1 : Int32))] [])) _
    refine st6 _ ?_
    show Steps p.tables e below (T6.setTop (mkF m 27 #[.val (.ref ar), .val (.int pp), .val (.int (5 : Int32)), .val (.int (4 : Int32)), .val (.long ((o0 <<< ((8 : Int32) &&& 0x3f).toInt64) ||| ((y1 &&& (255 : Int32)).toInt64))), .second, .val (.int ((1 : Int32) + (1 : Int32)))] [])) _
    rw [← ho1]
    show Steps p.tables e below (T6.setTop (mkF m 27 #[.val (.ref ar), .val (.int pp), .val (.int (5 : Int32)), .val (.int (4 : Int32)), .val (.long o1), .second, .val (.int ((1 : Int32) + (1 : Int32)))] [])) _
    refine st7 _ ?_
    show Steps p.tables e below (T7.setTop (mkF m 27 #[.val (.ref ar), .val (.int pp), .val (.int (5 : Int32)), .val (.int (4 : Int32)), .val (.long ((o1 <<< ((8 : Int32) &&& 0x3f).toInt64) ||| ((y2 &&& (255 : Int32)).toInt64))), .second, .val (.int (((1 : Int32) + (1 : Int32)) + (1 : Int32)))] [])) _
    rw [← ho2]
    show Steps p.tables e below (T7.setTop (mkF m 27 #[.val (.ref ar), .val (.int pp), .val (.int (5 : Int32)), .val (.int (4 : Int32)), .val (.long o2), .second, .val (.int (((1 : Int32) + (1 : Int32)) + (1 : Int32)))] [])) _
    refine st8 _ ?_
    show Steps p.tables e below (T8.setTop (mkF m 27 #[.val (.ref ar), .val (.int pp), .val (.int (5 : Int32)), .val (.int (4 : Int32)), .val (.long ((o2 <<< ((8 : Int32) &&& 0x3f).toInt64) ||| ((y3 &&& (255 : Int32)).toInt64))), .second, .val (.int ((((1 : Int32) + (1 : Int32)) + (1 : Int32)) + (1 : Int32)))] [])) _
    rw [← ho3]
    show Steps p.tables e below (T8.setTop (mkF m 27 #[.val (.ref ar), .val (.int pp), .val (.int (5 : Int32)), .val (.int (4 : Int32)), .val (.long o3), .second, .val (.int ((((1 : Int32) + (1 : Int32)) + (1 : Int32)) + (1 : Int32)))] [])) _
    refine XS.iload X8.here hx rfl (hb hby d3_27) rfl ?_
    show Steps p.tables e below (T8.setTop (mkF m 29 #[.val (.ref ar), .val (.int pp), .val (.int (5 : Int32)), .val (.int (4 : Int32)), .val (.long o3), .second, .val (.int ((((1 : Int32) + (1 : Int32)) + (1 : Int32)) + (1 : Int32)))] [(.int ((((1 : Int32) + (1 : Int32)) + (1 : Int32)) + (1 : Int32)))])) _
    refine st9 _ ?_
    show Steps p.tables e below (T9.setTop (mkF m 32 #[.val (.ref ar), .val (.int pp), .val (.int (5 : Int32)), .val (.int (4 : Int32)), .val (.long o3), .second, .val (.int ((((1 : Int32) + (1 : Int32)) + (1 : Int32)) + (1 : Int32)))] [(.ref s_E), (.int ((((1 : Int32) + (1 : Int32)) + (1 : Int32)) + (1 : Int32)))])) _
    refine XS.iloadN X9.here hx rfl (hb hby d3_32) rfl ?_
    show Steps p.tables e below (T9.setTop (mkF m 33 #[.val (.ref ar), .val (.int pp), .val (.int (5 : Int32)), .val (.int (4 : Int32)), .val (.long o3), .second, .val (.int ((((1 : Int32) + (1 : Int32)) + (1 : Int32)) + (1 : Int32)))] [(.int (4 : Int32)), (.ref s_E), (.int ((((1 : Int32) + (1 : Int32)) + (1 : Int32)) + (1 : Int32)))])) _
    refine X9.iaload hx (j := (4 : Int32)) (v := (.int (atv cl_E (4 : Int32)))) (by rw [e9]; exact Sc10.1.1) (State.isArrayOf_alike hZ.alike Sc10.1.2.1) Sc10.1.2.2 hin10 (Sc10.2.2.2 _ hin10) (g := (mkF m 33 #[.val (.ref ar), .val (.int pp), .val (.int (5 : Int32)), .val (.int (4 : Int32)), .val (.long o3), .second, .val (.int ((((1 : Int32) + (1 : Int32)) + (1 : Int32)) + (1 : Int32)))] [(.int (4 : Int32)), (.ref s_E), (.int ((((1 : Int32) + (1 : Int32)) + (1 : Int32)) + (1 : Int32)))])) rfl rfl (hb hby d3_33) _ ?_
    show Steps p.tables e below (T9.setTop (mkF m 34 #[.val (.ref ar), .val (.int pp), .val (.int (5 : Int32)), .val (.int (4 : Int32)), .val (.long o3), .second, .val (.int ((((1 : Int32) + (1 : Int32)) + (1 : Int32)) + (1 : Int32)))] [(.int (atv cl_E (4 : Int32))), (.int ((((1 : Int32) + (1 : Int32)) + (1 : Int32)) + (1 : Int32)))])) _
    rw [E_4]
    show Steps p.tables e below (T9.setTop (mkF m 34 #[.val (.ref ar), .val (.int pp), .val (.int (5 : Int32)), .val (.int (4 : Int32)), .val (.long o3), .second, .val (.int ((((1 : Int32) + (1 : Int32)) + (1 : Int32)) + (1 : Int32)))] [(.int (3 : Int32)), (.int ((((1 : Int32) + (1 : Int32)) + (1 : Int32)) + (1 : Int32)))])) _
    refine XS.icmpYes X9.here hx rfl (pc0 := 34) (pc' := 62) rfl (hb hby d3_34) rfl (tlt (by decide : (3 : Int32) < ((((1 : Int32) + (1 : Int32)) + (1 : Int32)) + (1 : Int32)))).2.2.1 (by decide) (by decide) ?_
    show Steps p.tables e below (T9.setTop (mkF m 62 #[.val (.ref ar), .val (.int pp), .val (.int (5 : Int32)), .val (.int (4 : Int32)), .val (.long o3), .second, .val (.int ((((1 : Int32) + (1 : Int32)) + (1 : Int32)) + (1 : Int32)))] [])) _
    refine st11 _ ?_
    show Steps p.tables e below (T11.setTop (mkF m 65 #[.val (.ref ar), .val (.int pp), .val (.int (5 : Int32)), .val (.int (4 : Int32)), .val (.long o3), .second, .val (.int ((((1 : Int32) + (1 : Int32)) + (1 : Int32)) + (1 : Int32)))] [(.ref s_L)])) _
    refine XS.iloadN X11.here hx rfl (hb hby d3_65) rfl ?_
    show Steps p.tables e below (T11.setTop (mkF m 66 #[.val (.ref ar), .val (.int pp), .val (.int (5 : Int32)), .val (.int (4 : Int32)), .val (.long o3), .second, .val (.int ((((1 : Int32) + (1 : Int32)) + (1 : Int32)) + (1 : Int32)))] [(.int (4 : Int32)), (.ref s_L)])) _
    refine X11.laload hx (j := (4 : Int32)) (v := (.long (-16849184 : Int64))) (by rw [e11]; exact Ar12.1) (State.isArrayOf_alike hZ.alike Ar12.2.1) Ar12.2.2 hin12 hat12 (g := (mkF m 66 #[.val (.ref ar), .val (.int pp), .val (.int (5 : Int32)), .val (.int (4 : Int32)), .val (.long o3), .second, .val (.int ((((1 : Int32) + (1 : Int32)) + (1 : Int32)) + (1 : Int32)))] [(.int (4 : Int32)), (.ref s_L)])) rfl rfl (hb hby d3_66) _ ?_
    show Steps p.tables e below (T11.setTop (mkF m 67 #[.val (.ref ar), .val (.int pp), .val (.int (5 : Int32)), .val (.int (4 : Int32)), .val (.long o3), .second, .val (.int ((((1 : Int32) + (1 : Int32)) + (1 : Int32)) + (1 : Int32)))] [(.long (-16849184 : Int64))])) _
    refine XS.lload X11.here hx rfl (hb hby d3_67) rfl ?_
    refine XS.ladd X11.here hx rfl (hb hby d3_69) rfl ?_
    show Steps p.tables e below (T11.setTop (mkF m 70 #[.val (.ref ar), .val (.int pp), .val (.int (5 : Int32)), .val (.int (4 : Int32)), .val (.long o3), .second, .val (.int ((((1 : Int32) + (1 : Int32)) + (1 : Int32)) + (1 : Int32)))] [(.long ((-16849184 : Int64) + o3))])) _
    exact retOut X11 hx Bd.returns rfl (Or.inr (Or.inl ⟨rfl, rfl, _, rfl⟩)) (hb hby d3_70) hr
  · show own_Ql (own_val 5 t) h0 n0 _ T11.heap _
    rw [e11]
    exact ⟨_, rfl, N0, rfl, own_d_4 ht0 ht1 ho0 ho1 ho2 ho3 hy1 hy2 hy3⟩
theorem own_d_5 {o0 o1 o2 : Int64} {y1 y2 : Int32} {t : Int} (ht0 : 0 ≤ t) (ht1 : t < 72057594037927936) (ho0 : o0 = (((6 : Int32) - (6 : Int32)).toInt64)) (ho1 : o1 = ((o0 <<< ((8 : Int32) &&& 0x3f).toInt64) ||| ((y1 &&& (255 : Int32)).toInt64))) (ho2 : o2 = ((o1 <<< ((8 : Int32) &&& 0x3f).toInt64) ||| ((y2 &&& (255 : Int32)).toInt64))) (hy1 : y1.toInt % 256 = (t / 281474976710656) % 256) (hy2 : y2.toInt % 256 = (t / 1099511627776) % 256) : ((-71968 : Int64) + o2).toInt = own_val 6 t := by
  rw [own_val_5 (by decide) (by decide)]
  have cL : ((-71968 : Int64)).toInt = -71968 := rfl
  have x0 : o0.toInt = 0 := by rw [ho0]; rfl
  have x1 : o1.toInt = (t / 281474976710656) := by
    rw [ho1, own_step (X := (t / 72057594037927936)) (by omega) (by omega) (by omega), hy1]; omega
  have x2 : o2.toInt = (t / 1099511627776) := by
    rw [ho2, own_step (X := (t / 281474976710656)) (by omega) (by omega) (by omega), hy2]; omega
  rw [Jvm.Kit.i64_add (by omega) (by omega), cL, x2]
  omega
set_option maxRecDepth 65536 in
set_option maxHeartbeats 40000000 in
theorem r_dec_5 (l : Launch) (Z : State) (a0 : Array Value) (hw : ∀ d ∈ tables_1, d.before a0 Z = true) (ws : List Jvm.Cond) (s_R s_F s_E s_L : Addr) (cl_R cl_F cl_E : Cell) (k_L : ClassId) (h0 : Heap) (n0 : Nat) (O0 : Old Z n0 h0) (G : own_Ctx Z Z.heap s_R s_F s_E s_L cl_R cl_F cl_E k_L) (ar : Addr) (kk : ClassId) (vs : List Value) (pp : Int32) (y0 y1 y2 y3 y4 y5 y6 y7 : Int32) (t : Int) (Va : Arv Z h0 ar kk .byte (11 : Int32) vs (.int (0 : Int32))) (hg : y0 &&& (255 : Int32) = (6 : Int32)) (ht0 : 0 ≤ t) (ht1 : t < 72057594037927936) (hp0 : ¬ (pp < 0) ∧ pp < (11 : Int32)) (hv0 : vs.getD (pp).toNatClampNeg (.int (0 : Int32)) = .int y0) (hp1 : ¬ ((pp + (1 : Int32)) < 0) ∧ (pp + (1 : Int32)) < (11 : Int32)) (hv1 : vs.getD ((pp + (1 : Int32))).toNatClampNeg (.int (0 : Int32)) = .int y1) (hp2 : ¬ ((pp + ((1 : Int32) + (1 : Int32))) < 0) ∧ (pp + ((1 : Int32) + (1 : Int32))) < (11 : Int32)) (hv2 : vs.getD ((pp + ((1 : Int32) + (1 : Int32)))).toNatClampNeg (.int (0 : Int32)) = .int y2) (hy1 : y1.toInt % 256 = (t / 281474976710656) % 256) (hy2 : y2.toInt % 256 = (t / 1099511627776) % 256) (hR : atv cl_R (6 : Int32) = (5 : Int32)) :
    MetFree l (⟨"com/example/rattan/rattan/storage/label/ComponentCode", "decode", "([BI)J"⟩ : MethodName) (head1 (Jvm.Cond.code (⟨"com/example/rattan/rattan/storage/label/ComponentCode", "decode", "([BI)J"⟩ : MethodName) prog_41_method_4_code 7 (some .long) :: ws) ({ frames := 0, cells := 0, slots := 0, locals := 0 } : Room)) (fun a U => a = #[(.ref ar), (.int pp)] ∧ Z.Warmed39 U.vm ∧ U.heap = h0) (fun _ _ _ _ _ => True) (fun _ U o U' => ∃ v L, o = .returned v ∧ own_Ql (own_val 6 t) h0 n0 v U'.heap L ∧ FrameEnd U o U' L ({ frames := 0, cells := 0, slots := 0, locals := 0 } : Room).cells ({ frames := 0, cells := 0, slots := 0, locals := 0 } : Room).slots) := by
  have G0 := G
  obtain ⟨S_R, C_R, S_F, C_F, S_E, C_E, S_L, V_L, R_1, R_2, R_3, R_4, R_5, F_0, F_1, F_2, F_3, F_4, F_5, F_6, F_7, F_8, F_9, F_10, F_11, F_12, F_13, F_14, E_0, E_1, E_2, E_3, E_4, E_5, E_6, E_7, E_8, E_9, E_10, E_11, E_12, E_13, E_14⟩ := G
  refine MetFree.of_bodySF (plainFor_of_name pn_1) hisR ?_
  intro p e s m args below meth c s₁ Bd hml0 hP hK
  obtain ⟨rfl, hZ, hh⟩ := hP
  have hx := Bd.exec
  have hby := Bd.bytes
  have hml : c.maxLocals = 7 := hml0
  have hown : s.vm.findClass "com/example/rattan/rattan/storage/label/ComponentCode" = some m.cls := findClass_of_methodNamed Bd.named
  have hnm := (name_of_methodNamed Bd.named Bd.method).1
  have X0 : Stand p l e ({ frames := 0, cells := 0, slots := 0, locals := 0 } : Room) s m #[(.ref ar), (.int pp)] below meth c s₁ [] 0 0 := Stand.of_body Bd
  have e0 : s₁.heap = h0 := by rw [← hh, Bd.state]; rfl
  have N0 := Fr.nil n0
  have pre0 : ∀ t, Steps p.tables e below (s₁.setTop (mkF m 0 #[.val (.ref ar), .val (.int pp), .unset, .unset, .unset, .unset, .unset] [])) t → Steps p.tables e below (s₁.setTop (entryFrame m #[(.ref ar), (.int pp)] 7)) t := fun t k => castTop (ef_3_2 m ar pp) k
  have vc1 := Va
  obtain ⟨cl1, Ar1, qk1, S1, Nn1, Hs1, Gf1⟩ := vc1
  have hin1 : ¬ (pp < 0 ∨ cl1.slots.size ≤ (pp).toNatClampNeg) := inb_of S1 hp0
  have hat1 : cl1.slots[(pp).toNatClampNeg]? = some (.int y0) := Has.at Hs1 hin1 hv0
  obtain ⟨T2, X2, e2, st2⟩ := getS2 X0 hx hZ hown (host := "") (Or.inl (hw _ (List.mem_of_getElem? (i := 15) rfl))) Via.refl e0 (S_R.ext O0.2) (g := (mkF m 8 #[.val (.ref ar), .val (.int pp), .val (.int (6 : Int32)), .unset, .unset, .unset, .unset] [])) rfl (hb hby d3_8)
  have Sc3 := (C_R.ext O0.2)
  have hin3 : ¬ ((6 : Int32) < 0 ∨ cl_R.slots.size ≤ ((6 : Int32)).toNatClampNeg) := inb_of Sc3.2.1 ⟨by decide, by decide⟩
  obtain ⟨T4, X4, e4, st4⟩ := getS2 X2 hx hZ hown (host := "") (Or.inl (hw _ (List.mem_of_getElem? (i := 17) rfl))) Via.refl e2 (S_F.ext O0.2) (g := (mkF m 15 #[.val (.ref ar), .val (.int pp), .val (.int (6 : Int32)), .val (.int (5 : Int32)), .unset, .unset, .unset] [(.int (6 : Int32))])) rfl (hb hby d3_15)
  have Sc5 := (C_F.ext O0.2)
  have hin5 : ¬ ((5 : Int32) < 0 ∨ cl_F.slots.size ≤ ((5 : Int32)).toNatClampNeg) := inb_of Sc5.2.1 ⟨by decide, by decide⟩
  obtain ⟨o0, ho0⟩ : ∃ z : Int64, z = (((6 : Int32) - (6 : Int32)).toInt64) := ⟨_, rfl⟩
  obtain ⟨T6, X6, e6, st6⟩ := t_dec s_R s_F s_E s_L cl_R cl_F cl_E k_L ar kk vs pp (6 : Int32) (5 : Int32) o0 (1 : Int32) (2 : Int32) y1 X4 hx hZ hw hby hml hown e4 O0 G0 Va ⟨by decide, by decide⟩ E_5 (by decide) hp1 hv1
  obtain ⟨o1, ho1⟩ : ∃ z : Int64, z = ((o0 <<< ((8 : Int32) &&& 0x3f).toInt64) ||| ((y1 &&& (255 : Int32)).toInt64)) := ⟨_, rfl⟩
  obtain ⟨T7, X7, e7, st7⟩ := t_dec s_R s_F s_E s_L cl_R cl_F cl_E k_L ar kk vs pp (6 : Int32) (5 : Int32) o1 ((1 : Int32) + (1 : Int32)) (2 : Int32) y2 X6 hx hZ hw hby hml hown e6 O0 G0 Va ⟨by decide, by decide⟩ E_5 (by decide) hp2 hv2
  obtain ⟨o2, ho2⟩ : ∃ z : Int64, z = ((o1 <<< ((8 : Int32) &&& 0x3f).toInt64) ||| ((y2 &&& (255 : Int32)).toInt64)) := ⟨_, rfl⟩
  obtain ⟨T8, X8, e8, st8⟩ := getS2 X7 hx hZ hown (host := "") (Or.inl (hw _ (List.mem_of_getElem? (i := 19) rfl))) Via.refl e7 (S_E.ext O0.2) (g := (mkF m 29 #[.val (.ref ar), .val (.int pp), .val (.int (6 : Int32)), .val (.int (5 : Int32)), .val (.long o2), .second, .val (.int (((1 : Int32) + (1 : Int32)) + (1 : Int32)))] [(.int (((1 : Int32) + (1 : Int32)) + (1 : Int32)))])) rfl (hb hby d3_29)
  have Sc9 := (C_E.ext O0.2)
  have hin9 : ¬ ((5 : Int32) < 0 ∨ cl_E.slots.size ≤ ((5 : Int32)).toNatClampNeg) := inb_of Sc9.2.1 ⟨by decide, by decide⟩
  obtain ⟨T10, X10, e10, st10⟩ := getS2 X8 hx hZ hown (host := "") (Or.inl (hw _ (List.mem_of_getElem? (i := 21) rfl))) Via.refl e8 (S_L.ext O0.2) (g := (mkF m 62 #[.val (.ref ar), .val (.int pp), .val (.int (6 : Int32)), .val (.int (5 : Int32)), .val (.long o2), .second, .val (.int (((1 : Int32) + (1 : Int32)) + (1 : Int32)))] [])) rfl (hb hby d3_62)
  have vc11 := (V_L.ext O0.2)
  obtain ⟨cl11, Ar11, qk11, S11, Nn11, Hs11, Gf11⟩ := vc11
  have hin11 : ¬ ((5 : Int32) < 0 ∨ cl11.slots.size ≤ ((5 : Int32)).toNatClampNeg) := inb_of S11 ⟨by decide, by decide⟩
  have hat11 : cl11.slots[((5 : Int32)).toNatClampNeg]? = some (.long (-71968 : Int64)) := Has.at Hs11 hin11 rfl
  obtain ⟨fs, hr, hrun, hended, hW, hsame⟩ := X10.leave (v := some (.long ((-71968 : Int64) + o2))) (fun h => by rw [Bd.returns] at h; cases h)
  refine ⟨_, _, pre0 _ ?_, hrun, hended, _, _, rfl, ?_, ⟨_, rfl⟩, hW, hsame.mono (by decide) (by decide)⟩
  · show Steps p.tables e below (s₁.setTop (mkF m 0 #[.val (.ref ar), .val (.int pp), .unset, .unset, .unset, .unset, .unset] [])) _
    refine XS.aloadN X0.here hx rfl (hb hby d3_0) rfl rfl ?_
    refine XS.iloadN X0.here hx rfl (hb hby d3_1) rfl ?_
    show Steps p.tables e below (s₁.setTop (mkF m 2 #[.val (.ref ar), .val (.int pp), .unset, .unset, .unset, .unset, .unset] [(.int pp), (.ref ar)])) _
    refine X0.baloadBytes hx (j := pp) (v := (.int y0)) (by rw [e0]; exact Ar1.1) (State.isArrayOf_alike hZ.alike Ar1.2.1) Ar1.2.2 hin1 hat1 (g := (mkF m 2 #[.val (.ref ar), .val (.int pp), .unset, .unset, .unset, .unset, .unset] [(.int pp), (.ref ar)])) rfl rfl (hb hby d3_2) _ ?_
    show Steps p.tables e below (s₁.setTop (mkF m 3 #[.val (.ref ar), .val (.int pp), .unset, .unset, .unset, .unset, .unset] [(.int y0)])) _
    refine XS.sipush X0.here hx rfl (hb hby d3_3) ?_
    refine XS.iand X0.here hx rfl (hb hby d3_6) rfl ?_
    show Steps p.tables e below (s₁.setTop (mkF m 7 #[.val (.ref ar), .val (.int pp), .unset, .unset, .unset, .unset, .unset] [(.int (y0 &&& (255 : Int32)))])) _
    rw [hg]
    refine XS.istoreN X0.here hx rfl (hb hby d3_7) rfl (l' := #[.val (.ref ar), .val (.int pp), .val (.int (6 : Int32)), .unset, .unset, .unset, .unset]) rfl ?_
    show Steps p.tables e below (s₁.setTop (mkF m 8 #[.val (.ref ar), .val (.int pp), .val (.int (6 : Int32)), .unset, .unset, .unset, .unset] [])) _
    refine st2 _ ?_
    show Steps p.tables e below (T2.setTop (mkF m 11 #[.val (.ref ar), .val (.int pp), .val (.int (6 : Int32)), .unset, .unset, .unset, .unset] [(.ref s_R)])) _
    refine XS.iloadN X2.here hx rfl (hb hby d3_11) rfl ?_
    show Steps p.tables e below (T2.setTop (mkF m 12 #[.val (.ref ar), .val (.int pp), .val (.int (6 : Int32)), .unset, .unset, .unset, .unset] [(.int (6 : Int32)), (.ref s_R)])) _
    refine X2.iaload hx (j := (6 : Int32)) (v := (.int (atv cl_R (6 : Int32)))) (by rw [e2]; exact Sc3.1.1) (State.isArrayOf_alike hZ.alike Sc3.1.2.1) Sc3.1.2.2 hin3 (Sc3.2.2.2 _ hin3) (g := (mkF m 12 #[.val (.ref ar), .val (.int pp), .val (.int (6 : Int32)), .unset, .unset, .unset, .unset] [(.int (6 : Int32)), (.ref s_R)])) rfl rfl (hb hby d3_12) _ ?_
    show Steps p.tables e below (T2.setTop (mkF m 13 #[.val (.ref ar), .val (.int pp), .val (.int (6 : Int32)), .unset, .unset, .unset, .unset] [(.int (atv cl_R (6 : Int32)))])) _
    rw [hR]
    show Steps p.tables e below (T2.setTop (mkF m 13 #[.val (.ref ar), .val (.int pp), .val (.int (6 : Int32)), .unset, .unset, .unset, .unset] [(.int (5 : Int32))])) _
    refine XS.istoreN X2.here hx rfl (hb hby d3_13) rfl (l' := #[.val (.ref ar), .val (.int pp), .val (.int (6 : Int32)), .val (.int (5 : Int32)), .unset, .unset, .unset]) rfl ?_
    show Steps p.tables e below (T2.setTop (mkF m 14 #[.val (.ref ar), .val (.int pp), .val (.int (6 : Int32)), .val (.int (5 : Int32)), .unset, .unset, .unset] [])) _
    refine XS.iloadN X2.here hx rfl (hb hby d3_14) rfl ?_
    show Steps p.tables e below (T2.setTop (mkF m 15 #[.val (.ref ar), .val (.int pp), .val (.int (6 : Int32)), .val (.int (5 : Int32)), .unset, .unset, .unset] [(.int (6 : Int32))])) _
    refine st4 _ ?_
    show Steps p.tables e below (T4.setTop (mkF m 18 #[.val (.ref ar), .val (.int pp), .val (.int (6 : Int32)), .val (.int (5 : Int32)), .unset, .unset, .unset] [(.ref s_F), (.int (6 : Int32))])) _
    refine XS.iloadN X4.here hx rfl (hb hby d3_18) rfl ?_
    show Steps p.tables e below (T4.setTop (mkF m 19 #[.val (.ref ar), .val (.int pp), .val (.int (6 : Int32)), .val (.int (5 : Int32)), .unset, .unset, .unset] [(.int (5 : Int32)), (.ref s_F), (.int (6 : Int32))])) _
    refine X4.iaload hx (j := (5 : Int32)) (v := (.int (atv cl_F (5 : Int32)))) (by rw [e4]; exact Sc5.1.1) (State.isArrayOf_alike hZ.alike Sc5.1.2.1) Sc5.1.2.2 hin5 (Sc5.2.2.2 _ hin5) (g := (mkF m 19 #[.val (.ref ar), .val (.int pp), .val (.int (6 : Int32)), .val (.int (5 : Int32)), .unset, .unset, .unset] [(.int (5 : Int32)), (.ref s_F), (.int (6 : Int32))])) rfl rfl (hb hby d3_19) _ ?_
    show Steps p.tables e below (T4.setTop (mkF m 20 #[.val (.ref ar), .val (.int pp), .val (.int (6 : Int32)), .val (.int (5 : Int32)), .unset, .unset, .unset] [(.int (atv cl_F (5 : Int32))), (.int (6 : Int32))])) _
    rw [F_5]
    show Steps p.tables e below (T4.setTop (mkF m 20 #[.val (.ref ar), .val (.int pp), .val (.int (6 : Int32)), .val (.int (5 : Int32)), .unset, .unset, .unset] [(.int (6 : Int32)), (.int (6 : Int32))])) _
    refine XS.isub X4.here hx rfl (hb hby d3_20) rfl ?_
    show Steps p.tables e below (T4.setTop (mkF m 21 #[.val (.ref ar), .val (.int pp), .val (.int (6 : Int32)), .val (.int (5 : Int32)), .unset, .unset, .unset] [(.int ((6 : Int32) - (6 : Int32)))])) _
    refine XS.i2l X4.here hx rfl (hb hby d3_21) rfl ?_
    show Steps p.tables e below (T4.setTop (mkF m 22 #[.val (.ref ar), .val (.int pp), .val (.int (6 : Int32)), .val (.int (5 : Int32)), .unset, .unset, .unset] [(.long (((6 : Int32) - (6 : Int32)).toInt64))])) _
    refine XS.lstore X4.here hx rfl (hb hby d3_22) rfl (l' := #[.val (.ref ar), .val (.int pp), .val (.int (6 : Int32)), .val (.int (5 : Int32)), .val (.long (((6 : Int32) - (6 : Int32)).toInt64)), .second, .unset]) rfl ?_
    show Steps p.tables e below (T4.setTop (mkF m 24 #[.val (.ref ar), .val (.int pp), .val (.int (6 : Int32)), .val (.int (5 : Int32)), .val (.long (((6 : Int32) - (6 : Int32)).toInt64)), .second, .unset] [])) _
    refine XS.iconst X4.here hx rfl (hb hby d3_24) ?_
    refine XS.istore X4.here hx rfl (hb hby d3_25) rfl (l' := #[.val (.ref ar), .val (.int pp), .val (.int (6 : Int32)), .val (.int (5 : Int32)), .val (.long (((6 : Int32) - (6 : Int32)).toInt64)), .second, .val (.int (1 : Int32))]) rfl ?_
    show Steps p.tables e below (T4.setTop (mkF m 27 #[.val (.ref ar), .val (.int pp), .val (.int (6 : Int32)), .val (.int (5 : Int32)), .val (.long (((6 : Int32) - (6 : Int32)).toInt64)), .second, .val (.int (1 : Int32))] [])) _
    rw [← ho0]
    show Steps p.tables e below (T4.setTop (mkF m 27 #[.val (.ref ar), .val (.int pp), .val (.int (6 : Int32)), .val (.int (5 : Int32)), .val (.long o0), .second, .val (.int (1 : Int32))] [])) _
    refine st6 _ ?_
    show Steps p.tables e below (T6.setTop (mkF m 27 #[.val (.ref ar), .val (.int pp), .val (.int (6 : Int32)), .val (.int (5 : Int32)), .val (.long ((o0 <<< ((8 : Int32) &&& 0x3f).toInt64) ||| ((y1 &&& (255 : Int32)).toInt64))), .second, .val (.int ((1 : Int32) + (1 : Int32)))] [])) _
    rw [← ho1]
    show Steps p.tables e below (T6.setTop (mkF m 27 #[.val (.ref ar), .val (.int pp), .val (.int (6 : Int32)), .val (.int (5 : Int32)), .val (.long o1), .second, .val (.int ((1 : Int32) + (1 : Int32)))] [])) _
    refine st7 _ ?_
    show Steps p.tables e below (T7.setTop (mkF m 27 #[.val (.ref ar), .val (.int pp), .val (.int (6 : Int32)), .val (.int (5 : Int32)), .val (.long ((o1 <<< ((8 : Int32) &&& 0x3f).toInt64) ||| ((y2 &&& (255 : Int32)).toInt64))), .second, .val (.int (((1 : Int32) + (1 : Int32)) + (1 : Int32)))] [])) _
    rw [← ho2]
    show Steps p.tables e below (T7.setTop (mkF m 27 #[.val (.ref ar), .val (.int pp), .val (.int (6 : Int32)), .val (.int (5 : Int32)), .val (.long o2), .second, .val (.int (((1 : Int32) + (1 : Int32)) + (1 : Int32)))] [])) _
    refine XS.iload X7.here hx rfl (hb hby d3_27) rfl ?_
    show Steps p.tables e below (T7.setTop (mkF m 29 #[.val (.ref ar), .val (.int pp), .val (.int (6 : Int32)), .val (.int (5 : Int32)), .val (.long o2), .second, .val (.int (((1 : Int32) + (1 : Int32)) + (1 : Int32)))] [(.int (((1 : Int32) + (1 : Int32)) + (1 : Int32)))])) _
    refine st8 _ ?_
    show Steps p.tables e below (T8.setTop (mkF m 32 #[.val (.ref ar), .val (.int pp), .val (.int (6 : Int32)), .val (.int (5 : Int32)), .val (.long o2), .second, .val (.int (((1 : Int32) + (1 : Int32)) + (1 : Int32)))] [(.ref s_E), (.int (((1 : Int32) + (1 : Int32)) + (1 : Int32)))])) _
    refine XS.iloadN X8.here hx rfl (hb hby d3_32) rfl ?_
    show Steps p.tables e below (T8.setTop (mkF m 33 #[.val (.ref ar), .val (.int pp), .val (.int (6 : Int32)), .val (.int (5 : Int32)), .val (.long o2), .second, .val (.int (((1 : Int32) + (1 : Int32)) + (1 : Int32)))] [(.int (5 : Int32)), (.ref s_E), (.int (((1 : Int32) + (1 : Int32)) + (1 : Int32)))])) _
    refine X8.iaload hx (j := (5 : Int32)) (v := (.int (atv cl_E (5 : Int32)))) (by rw [e8]; exact Sc9.1.1) (State.isArrayOf_alike hZ.alike Sc9.1.2.1) Sc9.1.2.2 hin9 (Sc9.2.2.2 _ hin9) (g := (mkF m 33 #[.val (.ref ar), .val (.int pp), .val (.int (6 : Int32)), .val (.int (5 : Int32)), .val (.long o2), .second, .val (.int (((1 : Int32) + (1 : Int32)) + (1 : Int32)))] [(.int (5 : Int32)), (.ref s_E), (.int (((1 : Int32) + (1 : Int32)) + (1 : Int32)))])) rfl rfl (hb hby d3_33) _ ?_
    show Steps p.tables e below (T8.setTop (mkF m 34 #[.val (.ref ar), .val (.int pp), .val (.int (6 : Int32)), .val (.int (5 : Int32)), .val (.long o2), .second, .val (.int (((1 : Int32) + (1 : Int32)) + (1 : Int32)))] [(.int (atv cl_E (5 : Int32))), (.int (((1 : Int32) + (1 : Int32)) + (1 : Int32)))])) _
    rw [E_5]
    show Steps p.tables e below (T8.setTop (mkF m 34 #[.val (.ref ar), .val (.int pp), .val (.int (6 : Int32)), .val (.int (5 : Int32)), .val (.long o2), .second, .val (.int (((1 : Int32) + (1 : Int32)) + (1 : Int32)))] [(.int (2 : Int32)), (.int (((1 : Int32) + (1 : Int32)) + (1 : Int32)))])) _
    refine XS.icmpYes X8.here hx rfl (pc0 := 34) (pc' := 62) rfl (hb hby d3_34) rfl (tlt (by decide : (2 : Int32) < (((1 : Int32) + (1 : Int32)) + (1 : Int32)))).2.2.1 (by decide) (by decide) ?_
    show Steps p.tables e below (T8.setTop (mkF m 62 #[.val (.ref ar), .val (.int pp), .val (.int (6 : Int32)), .val (.int (5 : Int32)), .val (.long o2), .second, .val (.int (((1 : Int32) + (1 : Int32)) + (1 : Int32)))] [])) _
    refine st10 _ ?_
    show Steps p.tables e below (T10.setTop (mkF m 65 #[.val (.ref ar), .val (.int pp), .val (.int (6 : Int32)), .val (.int (5 : Int32)), .val (.long o2), .second, .val (.int (((1 : Int32) + (1 : Int32)) + (1 : Int32)))] [(.ref s_L)])) _
    refine XS.iloadN X10.here hx rfl (hb hby d3_65) rfl ?_
    show Steps p.tables e below (T10.setTop (mkF m 66 #[.val (.ref ar), .val (.int pp), .val (.int (6 : Int32)), .val (.int (5 : Int32)), .val (.long o2), .second, .val (.int (((1 : Int32) + (1 : Int32)) + (1 : Int32)))] [(.int (5 : Int32)), (.ref s_L)])) _
    refine X10.laload hx (j := (5 : Int32)) (v := (.long (-71968 : Int64))) (by rw [e10]; exact Ar11.1) (State.isArrayOf_alike hZ.alike Ar11.2.1) Ar11.2.2 hin11 hat11 (g := (mkF m 66 #[.val (.ref ar), .val (.int pp), .val (.int (6 : Int32)), .val (.int (5 : Int32)), .val (.long o2), .second, .val (.int (((1 : Int32) + (1 : Int32)) + (1 : Int32)))] [(.int (5 : Int32)), (.ref s_L)])) rfl rfl (hb hby d3_66) _ ?_
    show Steps p.tables e below (T10.setTop (mkF m 67 #[.val (.ref ar), .val (.int pp), .val (.int (6 : Int32)), .val (.int (5 : Int32)), .val (.long o2), .second, .val (.int (((1 : Int32) + (1 : Int32)) + (1 : Int32)))] [(.long (-71968 : Int64))])) _
    refine XS.lload X10.here hx rfl (hb hby d3_67) rfl ?_
    refine XS.ladd X10.here hx rfl (hb hby d3_69) rfl ?_
    show Steps p.tables e below (T10.setTop (mkF m 70 #[.val (.ref ar), .val (.int pp), .val (.int (6 : Int32)), .val (.int (5 : Int32)), .val (.long o2), .second, .val (.int (((1 : Int32) + (1 : Int32)) + (1 : Int32)))] [(.long ((-71968 : Int64) + o2))])) _
    exact retOut X10 hx Bd.returns rfl (Or.inr (Or.inl ⟨rfl, rfl, _, rfl⟩)) (hb hby d3_70) hr
  · show own_Ql (own_val 6 t) h0 n0 _ T10.heap _
    rw [e10]
    exact ⟨_, rfl, N0, rfl, own_d_5 ht0 ht1 ho0 ho1 ho2 hy1 hy2⟩
theorem own_d_6 {o0 o1 : Int64} {y1 : Int32} {t : Int} {f : Int32} (h1 : 7 ≤ f.toInt) (h2 : f.toInt ≤ 31) (ht0 : 0 ≤ t) (ht1 : t < 72057594037927936) (ho0 : o0 = ((f - (7 : Int32)).toInt64)) (ho1 : o1 = ((o0 <<< ((8 : Int32) &&& 0x3f).toInt64) ||| ((y1 &&& (255 : Int32)).toInt64))) (hy1 : y1.toInt % 256 = (t / 281474976710656) % 256) : ((-6432 : Int64) + o1).toInt = own_val f.toInt t := by
  rw [own_val_6 h1 h2]
  have cL : ((-6432 : Int64)).toInt = -6432 := rfl
  have c2 : ((7 : Int32)).toInt = 7 := rfl
  have x0 : o0.toInt = f.toInt - 7 := by rw [ho0]; exact (Int32.toInt_toInt64 _).trans (Jvm.Kit.i32_sub (by omega) (by omega))
  have b0 : 0 ≤ f.toInt - 7 := by omega
  have B0 : f.toInt - 7 < 256 := by omega
  have x1 : o1.toInt = ((f.toInt - 7) * 256 + t / 281474976710656) := by
    rw [ho1, own_step (X := ((f.toInt - 7) * 1 + t / 72057594037927936)) (by omega) (by omega) (by omega), hy1]; omega
  rw [Jvm.Kit.i64_add (by omega) (by omega), cL, x1]
  omega
set_option maxRecDepth 65536 in
set_option maxHeartbeats 40000000 in
theorem r_dec_6 (l : Launch) (Z : State) (a0 : Array Value) (hw : ∀ d ∈ tables_1, d.before a0 Z = true) (ws : List Jvm.Cond) (s_R s_F s_E s_L : Addr) (cl_R cl_F cl_E : Cell) (k_L : ClassId) (h0 : Heap) (n0 : Nat) (O0 : Old Z n0 h0) (G : own_Ctx Z Z.heap s_R s_F s_E s_L cl_R cl_F cl_E k_L) (ar : Addr) (kk : ClassId) (vs : List Value) (pp : Int32) (y0 y1 y2 y3 y4 y5 y6 y7 : Int32) (t : Int) (f : Int32) (Va : Arv Z h0 ar kk .byte (11 : Int32) vs (.int (0 : Int32))) (hg : y0 &&& (255 : Int32) = f) (hf1 : 7 ≤ f.toInt) (hf2 : f.toInt ≤ 31) (ht0 : 0 ≤ t) (ht1 : t < 72057594037927936) (hp0 : ¬ (pp < 0) ∧ pp < (11 : Int32)) (hv0 : vs.getD (pp).toNatClampNeg (.int (0 : Int32)) = .int y0) (hp1 : ¬ ((pp + (1 : Int32)) < 0) ∧ (pp + (1 : Int32)) < (11 : Int32)) (hv1 : vs.getD ((pp + (1 : Int32))).toNatClampNeg (.int (0 : Int32)) = .int y1) (hy1 : y1.toInt % 256 = (t / 281474976710656) % 256) (hR : atv cl_R f = (6 : Int32)) :
    MetFree l (⟨"com/example/rattan/rattan/storage/label/ComponentCode", "decode", "([BI)J"⟩ : MethodName) (head1 (Jvm.Cond.code (⟨"com/example/rattan/rattan/storage/label/ComponentCode", "decode", "([BI)J"⟩ : MethodName) prog_41_method_4_code 7 (some .long) :: ws) ({ frames := 0, cells := 0, slots := 0, locals := 0 } : Room)) (fun a U => a = #[(.ref ar), (.int pp)] ∧ Z.Warmed39 U.vm ∧ U.heap = h0) (fun _ _ _ _ _ => True) (fun _ U o U' => ∃ v L, o = .returned v ∧ own_Ql (own_val f.toInt t) h0 n0 v U'.heap L ∧ FrameEnd U o U' L ({ frames := 0, cells := 0, slots := 0, locals := 0 } : Room).cells ({ frames := 0, cells := 0, slots := 0, locals := 0 } : Room).slots) := by
  have G0 := G
  obtain ⟨S_R, C_R, S_F, C_F, S_E, C_E, S_L, V_L, R_1, R_2, R_3, R_4, R_5, F_0, F_1, F_2, F_3, F_4, F_5, F_6, F_7, F_8, F_9, F_10, F_11, F_12, F_13, F_14, E_0, E_1, E_2, E_3, E_4, E_5, E_6, E_7, E_8, E_9, E_10, E_11, E_12, E_13, E_14⟩ := G
  refine MetFree.of_bodySF (plainFor_of_name pn_1) hisR ?_
  intro p e s m args below meth c s₁ Bd hml0 hP hK
  obtain ⟨rfl, hZ, hh⟩ := hP
  have hx := Bd.exec
  have hby := Bd.bytes
  have hml : c.maxLocals = 7 := hml0
  have hown : s.vm.findClass "com/example/rattan/rattan/storage/label/ComponentCode" = some m.cls := findClass_of_methodNamed Bd.named
  have hnm := (name_of_methodNamed Bd.named Bd.method).1
  have X0 : Stand p l e ({ frames := 0, cells := 0, slots := 0, locals := 0 } : Room) s m #[(.ref ar), (.int pp)] below meth c s₁ [] 0 0 := Stand.of_body Bd
  have e0 : s₁.heap = h0 := by rw [← hh, Bd.state]; rfl
  have N0 := Fr.nil n0
  have pre0 : ∀ t, Steps p.tables e below (s₁.setTop (mkF m 0 #[.val (.ref ar), .val (.int pp), .unset, .unset, .unset, .unset, .unset] [])) t → Steps p.tables e below (s₁.setTop (entryFrame m #[(.ref ar), (.int pp)] 7)) t := fun t k => castTop (ef_3_2 m ar pp) k
  have vc1 := Va
  obtain ⟨cl1, Ar1, qk1, S1, Nn1, Hs1, Gf1⟩ := vc1
  have hin1 : ¬ (pp < 0 ∨ cl1.slots.size ≤ (pp).toNatClampNeg) := inb_of S1 hp0
  have hat1 : cl1.slots[(pp).toNatClampNeg]? = some (.int y0) := Has.at Hs1 hin1 hv0
  obtain ⟨T2, X2, e2, st2⟩ := getS2 X0 hx hZ hown (host := "") (Or.inl (hw _ (List.mem_of_getElem? (i := 15) rfl))) Via.refl e0 (S_R.ext O0.2) (g := (mkF m 8 #[.val (.ref ar), .val (.int pp), .val (.int f), .unset, .unset, .unset, .unset] [])) rfl (hb hby d3_8)
  have Sc3 := (C_R.ext O0.2)
  have hin3 : ¬ (f < 0 ∨ cl_R.slots.size ≤ (f).toNatClampNeg) := inb_of Sc3.2.1 ⟨by rw [Int32.lt_iff_toInt_lt]; have z : (0 : Int32).toInt = 0 := rfl; omega, by rw [Int32.lt_iff_toInt_lt]; have z : (256 : Int32).toInt = 256 := rfl; omega⟩
  obtain ⟨T4, X4, e4, st4⟩ := getS2 X2 hx hZ hown (host := "") (Or.inl (hw _ (List.mem_of_getElem? (i := 17) rfl))) Via.refl e2 (S_F.ext O0.2) (g := (mkF m 15 #[.val (.ref ar), .val (.int pp), .val (.int f), .val (.int (6 : Int32)), .unset, .unset, .unset] [(.int f)])) rfl (hb hby d3_15)
  have Sc5 := (C_F.ext O0.2)
  have hin5 : ¬ ((6 : Int32) < 0 ∨ cl_F.slots.size ≤ ((6 : Int32)).toNatClampNeg) := inb_of Sc5.2.1 ⟨by decide, by decide⟩
  obtain ⟨o0, ho0⟩ : ∃ z : Int64, z = ((f - (7 : Int32)).toInt64) := ⟨_, rfl⟩
  obtain ⟨T6, X6, e6, st6⟩ := t_dec s_R s_F s_E s_L cl_R cl_F cl_E k_L ar kk vs pp f (6 : Int32) o0 (1 : Int32) (1 : Int32) y1 X4 hx hZ hw hby hml hown e4 O0 G0 Va ⟨by decide, by decide⟩ E_6 (by decide) hp1 hv1
  obtain ⟨o1, ho1⟩ : ∃ z : Int64, z = ((o0 <<< ((8 : Int32) &&& 0x3f).toInt64) ||| ((y1 &&& (255 : Int32)).toInt64)) := ⟨_, rfl⟩
  obtain ⟨T7, X7, e7, st7⟩ := getS2 X6 hx hZ hown (host := "") (Or.inl (hw _ (List.mem_of_getElem? (i := 19) rfl))) Via.refl e6 (S_E.ext O0.2) (g := (mkF m 29 #[.val (.ref ar), .val (.int pp), .val (.int f), .val (.int (6 : Int32)), .val (.long o1), .second, .val (.int ((1 : Int32) + (1 : Int32)))] [(.int ((1 : Int32) + (1 : Int32)))])) rfl (hb hby d3_29)
  have Sc8 := (C_E.ext O0.2)
  have hin8 : ¬ ((6 : Int32) < 0 ∨ cl_E.slots.size ≤ ((6 : Int32)).toNatClampNeg) := inb_of Sc8.2.1 ⟨by decide, by decide⟩
  obtain ⟨T9, X9, e9, st9⟩ := getS2 X7 hx hZ hown (host := "") (Or.inl (hw _ (List.mem_of_getElem? (i := 21) rfl))) Via.refl e7 (S_L.ext O0.2) (g := (mkF m 62 #[.val (.ref ar), .val (.int pp), .val (.int f), .val (.int (6 : Int32)), .val (.long o1), .second, .val (.int ((1 : Int32) + (1 : Int32)))] [])) rfl (hb hby d3_62)
  have vc10 := (V_L.ext O0.2)
  obtain ⟨cl10, Ar10, qk10, S10, Nn10, Hs10, Gf10⟩ := vc10
  have hin10 : ¬ ((6 : Int32) < 0 ∨ cl10.slots.size ≤ ((6 : Int32)).toNatClampNeg) := inb_of S10 ⟨by decide, by decide⟩
  have hat10 : cl10.slots[((6 : Int32)).toNatClampNeg]? = some (.long (-6432 : Int64)) := Has.at Hs10 hin10 rfl
  obtain ⟨fs, hr, hrun, hended, hW, hsame⟩ := X9.leave (v := some (.long ((-6432 : Int64) + o1))) (fun h => by rw [Bd.returns] at h; cases h)
  refine ⟨_, _, pre0 _ ?_, hrun, hended, _, _, rfl, ?_, ⟨_, rfl⟩, hW, hsame.mono (by decide) (by decide)⟩
  · show Steps p.tables e below (s₁.setTop (mkF m 0 #[.val (.ref ar), .val (.int pp), .unset, .unset, .unset, .unset, .unset] [])) _
    refine XS.aloadN X0.here hx rfl (hb hby d3_0) rfl rfl ?_
    refine XS.iloadN X0.here hx rfl (hb hby d3_1) rfl ?_
    show Steps p.tables e below (s₁.setTop (mkF m 2 #[.val (.ref ar), .val (.int pp), .unset, .unset, .unset, .unset, .unset] [(.int pp), (.ref ar)])) _
    refine X0.baloadBytes hx (j := pp) (v := (.int y0)) (by rw [e0]; exact Ar1.1) (State.isArrayOf_alike hZ.alike Ar1.2.1) Ar1.2.2 hin1 hat1 (g := (mkF m 2 #[.val (.ref ar), .val (.int pp), .unset, .unset, .unset, .unset, .unset] [(.int pp), (.ref ar)])) rfl rfl (hb hby d3_2) _ ?_
    show Steps p.tables e below (s₁.setTop (mkF m 3 #[.val (.ref ar), .val (.int pp), .unset, .unset, .unset, .unset, .unset] [(.int y0)])) _
    refine XS.sipush X0.here hx rfl (hb hby d3_3) ?_
    refine XS.iand X0.here hx rfl (hb hby d3_6) rfl ?_
    show Steps p.tables e below (s₁.setTop (mkF m 7 #[.val (.ref ar), .val (.int pp), .unset, .unset, .unset, .unset, .unset] [(.int (y0 &&& (255 : Int32)))])) _
    rw [hg]
    refine XS.istoreN X0.here hx rfl (hb hby d3_7) rfl (l' := #[.val (.ref ar), .val (.int pp), .val (.int f), .unset, .unset, .unset, .unset]) rfl ?_
    show Steps p.tables e below (s₁.setTop (mkF m 8 #[.val (.ref ar), .val (.int pp), .val (.int f), .unset, .unset, .unset, .unset] [])) _
    refine st2 _ ?_
    show Steps p.tables e below (T2.setTop (mkF m 11 #[.val (.ref ar), .val (.int pp), .val (.int f), .unset, .unset, .unset, .unset] [(.ref s_R)])) _
    refine XS.iloadN X2.here hx rfl (hb hby d3_11) rfl ?_
    show Steps p.tables e below (T2.setTop (mkF m 12 #[.val (.ref ar), .val (.int pp), .val (.int f), .unset, .unset, .unset, .unset] [(.int f), (.ref s_R)])) _
    refine X2.iaload hx (j := f) (v := (.int (atv cl_R f))) (by rw [e2]; exact Sc3.1.1) (State.isArrayOf_alike hZ.alike Sc3.1.2.1) Sc3.1.2.2 hin3 (Sc3.2.2.2 _ hin3) (g := (mkF m 12 #[.val (.ref ar), .val (.int pp), .val (.int f), .unset, .unset, .unset, .unset] [(.int f), (.ref s_R)])) rfl rfl (hb hby d3_12) _ ?_
    show Steps p.tables e below (T2.setTop (mkF m 13 #[.val (.ref ar), .val (.int pp), .val (.int f), .unset, .unset, .unset, .unset] [(.int (atv cl_R f))])) _
    rw [hR]
    show Steps p.tables e below (T2.setTop (mkF m 13 #[.val (.ref ar), .val (.int pp), .val (.int f), .unset, .unset, .unset, .unset] [(.int (6 : Int32))])) _
    refine XS.istoreN X2.here hx rfl (hb hby d3_13) rfl (l' := #[.val (.ref ar), .val (.int pp), .val (.int f), .val (.int (6 : Int32)), .unset, .unset, .unset]) rfl ?_
    show Steps p.tables e below (T2.setTop (mkF m 14 #[.val (.ref ar), .val (.int pp), .val (.int f), .val (.int (6 : Int32)), .unset, .unset, .unset] [])) _
    refine XS.iloadN X2.here hx rfl (hb hby d3_14) rfl ?_
    show Steps p.tables e below (T2.setTop (mkF m 15 #[.val (.ref ar), .val (.int pp), .val (.int f), .val (.int (6 : Int32)), .unset, .unset, .unset] [(.int f)])) _
    refine st4 _ ?_
    show Steps p.tables e below (T4.setTop (mkF m 18 #[.val (.ref ar), .val (.int pp), .val (.int f), .val (.int (6 : Int32)), .unset, .unset, .unset] [(.ref s_F), (.int f)])) _
    refine XS.iloadN X4.here hx rfl (hb hby d3_18) rfl ?_
    show Steps p.tables e below (T4.setTop (mkF m 19 #[.val (.ref ar), .val (.int pp), .val (.int f), .val (.int (6 : Int32)), .unset, .unset, .unset] [(.int (6 : Int32)), (.ref s_F), (.int f)])) _
    refine X4.iaload hx (j := (6 : Int32)) (v := (.int (atv cl_F (6 : Int32)))) (by rw [e4]; exact Sc5.1.1) (State.isArrayOf_alike hZ.alike Sc5.1.2.1) Sc5.1.2.2 hin5 (Sc5.2.2.2 _ hin5) (g := (mkF m 19 #[.val (.ref ar), .val (.int pp), .val (.int f), .val (.int (6 : Int32)), .unset, .unset, .unset] [(.int (6 : Int32)), (.ref s_F), (.int f)])) rfl rfl (hb hby d3_19) _ ?_
    show Steps p.tables e below (T4.setTop (mkF m 20 #[.val (.ref ar), .val (.int pp), .val (.int f), .val (.int (6 : Int32)), .unset, .unset, .unset] [(.int (atv cl_F (6 : Int32))), (.int f)])) _
    rw [F_6]
    show Steps p.tables e below (T4.setTop (mkF m 20 #[.val (.ref ar), .val (.int pp), .val (.int f), .val (.int (6 : Int32)), .unset, .unset, .unset] [(.int (7 : Int32)), (.int f)])) _
    refine XS.isub X4.here hx rfl (hb hby d3_20) rfl ?_
    show Steps p.tables e below (T4.setTop (mkF m 21 #[.val (.ref ar), .val (.int pp), .val (.int f), .val (.int (6 : Int32)), .unset, .unset, .unset] [(.int (f - (7 : Int32)))])) _
    refine XS.i2l X4.here hx rfl (hb hby d3_21) rfl ?_
    show Steps p.tables e below (T4.setTop (mkF m 22 #[.val (.ref ar), .val (.int pp), .val (.int f), .val (.int (6 : Int32)), .unset, .unset, .unset] [(.long ((f - (7 : Int32)).toInt64))])) _
    refine XS.lstore X4.here hx rfl (hb hby d3_22) rfl (l' := #[.val (.ref ar), .val (.int pp), .val (.int f), .val (.int (6 : Int32)), .val (.long ((f - (7 : Int32)).toInt64)), .second, .unset]) rfl ?_
    show Steps p.tables e below (T4.setTop (mkF m 24 #[.val (.ref ar), .val (.int pp), .val (.int f), .val (.int (6 : Int32)), .val (.long ((f - (7 : Int32)).toInt64)), .second, .unset] [])) _
    refine XS.iconst X4.here hx rfl (hb hby d3_24) ?_
    refine XS.istore X4.here hx rfl (hb hby d3_25) rfl (l' := #[.val (.ref ar), .val (.int pp), .val (.int f), .val (.int (6 : Int32)), .val (.long ((f - (7 : Int32)).toInt64)), .second, .val (.int (1 : Int32))]) rfl ?_
    show Steps p.tables e below (T4.setTop (mkF m 27 #[.val (.ref ar), .val (.int pp), .val (.int f), .val (.int (6 : Int32)), .val (.long ((f - (7 : Int32)).toInt64)), .second, .val (.int (1 : Int32))] [])) _
    rw [← ho0]
    show Steps p.tables e below (T4.setTop (mkF m 27 #[.val (.ref ar), .val (.int pp), .val (.int f), .val (.int (6 : Int32)), .val (.long o0), .second, .val (.int (1 : Int32))] [])) _
    refine st6 _ ?_
    show Steps p.tables e below (T6.setTop (mkF m 27 #[.val (.ref ar), .val (.int pp), .val (.int f), .val (.int (6 : Int32)), .val (.long ((o0 <<< ((8 : Int32) &&& 0x3f).toInt64) ||| ((y1 &&& (255 : Int32)).toInt64))), .second, .val (.int ((1 : Int32) + (1 : Int32)))] [])) _
    rw [← ho1]
    show Steps p.tables e below (T6.setTop (mkF m 27 #[.val (.ref ar), .val (.int pp), .val (.int f), .val (.int (6 : Int32)), .val (.long o1), .second, .val (.int ((1 : Int32) + (1 : Int32)))] [])) _
    refine XS.iload X6.here hx rfl (hb hby d3_27) rfl ?_
    show Steps p.tables e below (T6.setTop (mkF m 29 #[.val (.ref ar), .val (.int pp), .val (.int f), .val (.int (6 : Int32)), .val (.long o1), .second, .val (.int ((1 : Int32) + (1 : Int32)))] [(.int ((1 : Int32) + (1 : Int32)))])) _
    refine st7 _ ?_
    show Steps p.tables e below (T7.setTop (mkF m 32 #[.val (.ref ar), .val (.int pp), .val (.int f), .val (.int (6 : Int32)), .val (.long o1), .second, .val (.int ((1 : Int32) + (1 : Int32)))] [(.ref s_E), (.int ((1 : Int32) + (1 : Int32)))])) _
    refine XS.iloadN X7.here hx rfl (hb hby d3_32) rfl ?_
    show Steps p.tables e below (T7.setTop (mkF m 33 #[.val (.ref ar), .val (.int pp), .val (.int f), .val (.int (6 : Int32)), .val (.long o1), .second, .val (.int ((1 : Int32) + (1 : Int32)))] [(.int (6 : Int32)), (.ref s_E), (.int ((1 : Int32) + (1 : Int32)))])) _
    refine X7.iaload hx (j := (6 : Int32)) (v := (.int (atv cl_E (6 : Int32)))) (by rw [e7]; exact Sc8.1.1) (State.isArrayOf_alike hZ.alike Sc8.1.2.1) Sc8.1.2.2 hin8 (Sc8.2.2.2 _ hin8) (g := (mkF m 33 #[.val (.ref ar), .val (.int pp), .val (.int f), .val (.int (6 : Int32)), .val (.long o1), .second, .val (.int ((1 : Int32) + (1 : Int32)))] [(.int (6 : Int32)), (.ref s_E), (.int ((1 : Int32) + (1 : Int32)))])) rfl rfl (hb hby d3_33) _ ?_
    show Steps p.tables e below (T7.setTop (mkF m 34 #[.val (.ref ar), .val (.int pp), .val (.int f), .val (.int (6 : Int32)), .val (.long o1), .second, .val (.int ((1 : Int32) + (1 : Int32)))] [(.int (atv cl_E (6 : Int32))), (.int ((1 : Int32) + (1 : Int32)))])) _
    rw [E_6]
    show Steps p.tables e below (T7.setTop (mkF m 34 #[.val (.ref ar), .val (.int pp), .val (.int f), .val (.int (6 : Int32)), .val (.long o1), .second, .val (.int ((1 : Int32) + (1 : Int32)))] [(.int (1 : Int32)), (.int ((1 : Int32) + (1 : Int32)))])) _
    refine XS.icmpYes X7.here hx rfl (pc0 := 34) (pc' := 62) rfl (hb hby d3_34) rfl (tlt (by decide : (1 : Int32) < ((1 : Int32) + (1 : Int32)))).2.2.1 (by decide) (by decide) ?_
    show Steps p.tables e below (T7.setTop (mkF m 62 #[.val (.ref ar), .val (.int pp), .val (.int f), .val (.int (6 : Int32)), .val (.long o1), .second, .val (.int ((1 : Int32) + (1 : Int32)))] [])) _
    refine st9 _ ?_
    show Steps p.tables e below (T9.setTop (mkF m 65 #[.val (.ref ar), .val (.int pp), .val (.int f), .val (.int (6 : Int32)), .val (.long o1), .second, .val (.int ((1 : Int32) + (1 : Int32)))] [(.ref s_L)])) _
    refine XS.iloadN X9.here hx rfl (hb hby d3_65) rfl ?_
    show Steps p.tables e below (T9.setTop (mkF m 66 #[.val (.ref ar), .val (.int pp), .val (.int f), .val (.int (6 : Int32)), .val (.long o1), .second, .val (.int ((1 : Int32) + (1 : Int32)))] [(.int (6 : Int32)), (.ref s_L)])) _
    refine X9.laload hx (j := (6 : Int32)) (v := (.long (-6432 : Int64))) (by rw [e9]; exact Ar10.1) (State.isArrayOf_alike hZ.alike Ar10.2.1) Ar10.2.2 hin10 hat10 (g := (mkF m 66 #[.val (.ref ar), .val (.int pp), .val (.int f), .val (.int (6 : Int32)), .val (.long o1), .second, .val (.int ((1 : Int32) + (1 : Int32)))] [(.int (6 : Int32)), (.ref s_L)])) rfl rfl (hb hby d3_66) _ ?_
    show Steps p.tables e below (T9.setTop (mkF m 67 #[.val (.ref ar), .val (.int pp), .val (.int f), .val (.int (6 : Int32)), .val (.long o1), .second, .val (.int ((1 : Int32) + (1 : Int32)))] [(.long (-6432 : Int64))])) _
    refine XS.lload X9.here hx rfl (hb hby d3_67) rfl ?_
    refine XS.ladd X9.here hx rfl (hb hby d3_69) rfl ?_
    show Steps p.tables e below (T9.setTop (mkF m 70 #[.val (.ref ar), .val (.int pp), .val (.int f), .val (.int (6 : Int32)), .val (.long o1), .second, .val (.int ((1 : Int32) + (1 : Int32)))] [(.long ((-6432 : Int64) + o1))])) _
    exact retOut X9 hx Bd.returns rfl (Or.inr (Or.inl ⟨rfl, rfl, _, rfl⟩)) (hb hby d3_70) hr
  · show own_Ql (own_val f.toInt t) h0 n0 _ T9.heap _
    rw [e9]
    exact ⟨_, rfl, N0, rfl, own_d_6 hf1 hf2 ht0 ht1 ho0 ho1 hy1⟩
theorem own_d_7 {o0 : Int64} {t : Int} {f : Int32} (h1 : 32 ≤ f.toInt) (h2 : f.toInt ≤ 223) (ht0 : 0 ≤ t) (ht1 : t < 72057594037927936) (ho0 : o0 = ((f - (32 : Int32)).toInt64))   : ((-32 : Int64) + o0).toInt = own_val f.toInt t := by
  rw [own_val_7 h1 h2]
  have cL : ((-32 : Int64)).toInt = -32 := rfl
  have c2 : ((32 : Int32)).toInt = 32 := rfl
  have x0 : o0.toInt = f.toInt - 32 := by rw [ho0]; exact (Int32.toInt_toInt64 _).trans (Jvm.Kit.i32_sub (by omega) (by omega))
  have b0 : 0 ≤ f.toInt - 32 := by omega
  have B0 : f.toInt - 32 < 256 := by omega
  rw [Jvm.Kit.i64_add (by omega) (by omega), cL, x0]
  omega
set_option maxRecDepth 65536 in
set_option maxHeartbeats 40000000 in
theorem r_dec_7 (l : Launch) (Z : State) (a0 : Array Value) (hw : ∀ d ∈ tables_1, d.before a0 Z = true) (ws : List Jvm.Cond) (s_R s_F s_E s_L : Addr) (cl_R cl_F cl_E : Cell) (k_L : ClassId) (h0 : Heap) (n0 : Nat) (O0 : Old Z n0 h0) (G : own_Ctx Z Z.heap s_R s_F s_E s_L cl_R cl_F cl_E k_L) (ar : Addr) (kk : ClassId) (vs : List Value) (pp : Int32) (y0 y1 y2 y3 y4 y5 y6 y7 : Int32) (t : Int) (f : Int32) (Va : Arv Z h0 ar kk .byte (11 : Int32) vs (.int (0 : Int32))) (hg : y0 &&& (255 : Int32) = f) (hf1 : 32 ≤ f.toInt) (hf2 : f.toInt ≤ 223) (ht0 : 0 ≤ t) (ht1 : t < 72057594037927936) (hp0 : ¬ (pp < 0) ∧ pp < (11 : Int32)) (hv0 : vs.getD (pp).toNatClampNeg (.int (0 : Int32)) = .int y0)  (hR : atv cl_R f = (7 : Int32)) :
    MetFree l (⟨"com/example/rattan/rattan/storage/label/ComponentCode", "decode", "([BI)J"⟩ : MethodName) (head1 (Jvm.Cond.code (⟨"com/example/rattan/rattan/storage/label/ComponentCode", "decode", "([BI)J"⟩ : MethodName) prog_41_method_4_code 7 (some .long) :: ws) ({ frames := 0, cells := 0, slots := 0, locals := 0 } : Room)) (fun a U => a = #[(.ref ar), (.int pp)] ∧ Z.Warmed39 U.vm ∧ U.heap = h0) (fun _ _ _ _ _ => True) (fun _ U o U' => ∃ v L, o = .returned v ∧ own_Ql (own_val f.toInt t) h0 n0 v U'.heap L ∧ FrameEnd U o U' L ({ frames := 0, cells := 0, slots := 0, locals := 0 } : Room).cells ({ frames := 0, cells := 0, slots := 0, locals := 0 } : Room).slots) := by
  have G0 := G
  obtain ⟨S_R, C_R, S_F, C_F, S_E, C_E, S_L, V_L, R_1, R_2, R_3, R_4, R_5, F_0, F_1, F_2, F_3, F_4, F_5, F_6, F_7, F_8, F_9, F_10, F_11, F_12, F_13, F_14, E_0, E_1, E_2, E_3, E_4, E_5, E_6, E_7, E_8, E_9, E_10, E_11, E_12, E_13, E_14⟩ := G
  refine MetFree.of_bodySF (plainFor_of_name pn_1) hisR ?_
  intro p e s m args below meth c s₁ Bd hml0 hP hK
  obtain ⟨rfl, hZ, hh⟩ := hP
  have hx := Bd.exec
  have hby := Bd.bytes
  have hml : c.maxLocals = 7 := hml0
  have hown : s.vm.findClass "com/example/rattan/rattan/storage/label/ComponentCode" = some m.cls := findClass_of_methodNamed Bd.named
  have hnm := (name_of_methodNamed Bd.named Bd.method).1
  have X0 : Stand p l e ({ frames := 0, cells := 0, slots := 0, locals := 0 } : Room) s m #[(.ref ar), (.int pp)] below meth c s₁ [] 0 0 := Stand.of_body Bd
  have e0 : s₁.heap = h0 := by rw [← hh, Bd.state]; rfl
  have N0 := Fr.nil n0
  have pre0 : ∀ t, Steps p.tables e below (s₁.setTop (mkF m 0 #[.val (.ref ar), .val (.int pp), .unset, .unset, .unset, .unset, .unset] [])) t → Steps p.tables e below (s₁.setTop (entryFrame m #[(.ref ar), (.int pp)] 7)) t := fun t k => castTop (ef_3_2 m ar pp) k
  have vc1 := Va
  obtain ⟨cl1, Ar1, qk1, S1, Nn1, Hs1, Gf1⟩ := vc1
  have hin1 : ¬ (pp < 0 ∨ cl1.slots.size ≤ (pp).toNatClampNeg) := inb_of S1 hp0
  have hat1 : cl1.slots[(pp).toNatClampNeg]? = some (.int y0) := Has.at Hs1 hin1 hv0
  obtain ⟨T2, X2, e2, st2⟩ := getS2 X0 hx hZ hown (host := "") (Or.inl (hw _ (List.mem_of_getElem? (i := 15) rfl))) Via.refl e0 (S_R.ext O0.2) (g := (mkF m 8 #[.val (.ref ar), .val (.int pp), .val (.int f), .unset, .unset, .unset, .unset] [])) rfl (hb hby d3_8)
  have Sc3 := (C_R.ext O0.2)
  have hin3 : ¬ (f < 0 ∨ cl_R.slots.size ≤ (f).toNatClampNeg) := inb_of Sc3.2.1 ⟨by rw [Int32.lt_iff_toInt_lt]; have z : (0 : Int32).toInt = 0 := rfl; omega, by rw [Int32.lt_iff_toInt_lt]; have z : (256 : Int32).toInt = 256 := rfl; omega⟩
  obtain ⟨T4, X4, e4, st4⟩ := getS2 X2 hx hZ hown (host := "") (Or.inl (hw _ (List.mem_of_getElem? (i := 17) rfl))) Via.refl e2 (S_F.ext O0.2) (g := (mkF m 15 #[.val (.ref ar), .val (.int pp), .val (.int f), .val (.int (7 : Int32)), .unset, .unset, .unset] [(.int f)])) rfl (hb hby d3_15)
  have Sc5 := (C_F.ext O0.2)
  have hin5 : ¬ ((7 : Int32) < 0 ∨ cl_F.slots.size ≤ ((7 : Int32)).toNatClampNeg) := inb_of Sc5.2.1 ⟨by decide, by decide⟩
  obtain ⟨o0, ho0⟩ : ∃ z : Int64, z = ((f - (32 : Int32)).toInt64) := ⟨_, rfl⟩
  obtain ⟨T6, X6, e6, st6⟩ := getS2 X4 hx hZ hown (host := "") (Or.inl (hw _ (List.mem_of_getElem? (i := 19) rfl))) Via.refl e4 (S_E.ext O0.2) (g := (mkF m 29 #[.val (.ref ar), .val (.int pp), .val (.int f), .val (.int (7 : Int32)), .val (.long o0), .second, .val (.int (1 : Int32))] [(.int (1 : Int32))])) rfl (hb hby d3_29)
  have Sc7 := (C_E.ext O0.2)
  have hin7 : ¬ ((7 : Int32) < 0 ∨ cl_E.slots.size ≤ ((7 : Int32)).toNatClampNeg) := inb_of Sc7.2.1 ⟨by decide, by decide⟩
  obtain ⟨T8, X8, e8, st8⟩ := getS2 X6 hx hZ hown (host := "") (Or.inl (hw _ (List.mem_of_getElem? (i := 21) rfl))) Via.refl e6 (S_L.ext O0.2) (g := (mkF m 62 #[.val (.ref ar), .val (.int pp), .val (.int f), .val (.int (7 : Int32)), .val (.long o0), .second, .val (.int (1 : Int32))] [])) rfl (hb hby d3_62)
  have vc9 := (V_L.ext O0.2)
  obtain ⟨cl9, Ar9, qk9, S9, Nn9, Hs9, Gf9⟩ := vc9
  have hin9 : ¬ ((7 : Int32) < 0 ∨ cl9.slots.size ≤ ((7 : Int32)).toNatClampNeg) := inb_of S9 ⟨by decide, by decide⟩
  have hat9 : cl9.slots[((7 : Int32)).toNatClampNeg]? = some (.long (-32 : Int64)) := Has.at Hs9 hin9 rfl
  obtain ⟨fs, hr, hrun, hended, hW, hsame⟩ := X8.leave (v := some (.long ((-32 : Int64) + o0))) (fun h => by rw [Bd.returns] at h; cases h)
  refine ⟨_, _, pre0 _ ?_, hrun, hended, _, _, rfl, ?_, ⟨_, rfl⟩, hW, hsame.mono (by decide) (by decide)⟩
  · show Steps p.tables e below (s₁.setTop (mkF m 0 #[.val (.ref ar), .val (.int pp), .unset, .unset, .unset, .unset, .unset] [])) _
    refine XS.aloadN X0.here hx rfl (hb hby d3_0) rfl rfl ?_
    refine XS.iloadN X0.here hx rfl (hb hby d3_1) rfl ?_
    show Steps p.tables e below (s₁.setTop (mkF m 2 #[.val (.ref ar), .val (.int pp), .unset, .unset, .unset, .unset, .unset] [(.int pp), (.ref ar)])) _
    refine X0.baloadBytes hx (j := pp) (v := (.int y0)) (by rw [e0]; exact Ar1.1) (State.isArrayOf_alike hZ.alike Ar1.2.1) Ar1.2.2 hin1 hat1 (g := (mkF m 2 #[.val (.ref ar), .val (.int pp), .unset, .unset, .unset, .unset, .unset] [(.int pp), (.ref ar)])) rfl rfl (hb hby d3_2) _ ?_
    show Steps p.tables e below (s₁.setTop (mkF m 3 #[.val (.ref ar), .val (.int pp), .unset, .unset, .unset, .unset, .unset] [(.int y0)])) _
    refine XS.sipush X0.here hx rfl (hb hby d3_3) ?_
    refine XS.iand X0.here hx rfl (hb hby d3_6) rfl ?_
    show Steps p.tables e below (s₁.setTop (mkF m 7 #[.val (.ref ar), .val (.int pp), .unset, .unset, .unset, .unset, .unset] [(.int (y0 &&& (255 : Int32)))])) _
    rw [hg]
    refine XS.istoreN X0.here hx rfl (hb hby d3_7) rfl (l' := #[.val (.ref ar), .val (.int pp), .val (.int f), .unset, .unset, .unset, .unset]) rfl ?_
    show Steps p.tables e below (s₁.setTop (mkF m 8 #[.val (.ref ar), .val (.int pp), .val (.int f), .unset, .unset, .unset, .unset] [])) _
    refine st2 _ ?_
    show Steps p.tables e below (T2.setTop (mkF m 11 #[.val (.ref ar), .val (.int pp), .val (.int f), .unset, .unset, .unset, .unset] [(.ref s_R)])) _
    refine XS.iloadN X2.here hx rfl (hb hby d3_11) rfl ?_
    show Steps p.tables e below (T2.setTop (mkF m 12 #[.val (.ref ar), .val (.int pp), .val (.int f), .unset, .unset, .unset, .unset] [(.int f), (.ref s_R)])) _
    refine X2.iaload hx (j := f) (v := (.int (atv cl_R f))) (by rw [e2]; exact Sc3.1.1) (State.isArrayOf_alike hZ.alike Sc3.1.2.1) Sc3.1.2.2 hin3 (Sc3.2.2.2 _ hin3) (g := (mkF m 12 #[.val (.ref ar), .val (.int pp), .val (.int f), .unset, .unset, .unset, .unset] [(.int f), (.ref s_R)])) rfl rfl (hb hby d3_12) _ ?_
    show Steps p.tables e below (T2.setTop (mkF m 13 #[.val (.ref ar), .val (.int pp), .val (.int f), .unset, .unset, .unset, .unset] [(.int (atv cl_R f))])) _
    rw [hR]
    show Steps p.tables e below (T2.setTop (mkF m 13 #[.val (.ref ar), .val (.int pp), .val (.int f), .unset, .unset, .unset, .unset] [(.int (7 : Int32))])) _
    refine XS.istoreN X2.here hx rfl (hb hby d3_13) rfl (l' := #[.val (.ref ar), .val (.int pp), .val (.int f), .val (.int (7 : Int32)), .unset, .unset, .unset]) rfl ?_
    show Steps p.tables e below (T2.setTop (mkF m 14 #[.val (.ref ar), .val (.int pp), .val (.int f), .val (.int (7 : Int32)), .unset, .unset, .unset] [])) _
    refine XS.iloadN X2.here hx rfl (hb hby d3_14) rfl ?_
    show Steps p.tables e below (T2.setTop (mkF m 15 #[.val (.ref ar), .val (.int pp), .val (.int f), .val (.int (7 : Int32)), .unset, .unset, .unset] [(.int f)])) _
    refine st4 _ ?_
    show Steps p.tables e below (T4.setTop (mkF m 18 #[.val (.ref ar), .val (.int pp), .val (.int f), .val (.int (7 : Int32)), .unset, .unset, .unset] [(.ref s_F), (.int f)])) _
    refine XS.iloadN X4.here hx rfl (hb hby d3_18) rfl ?_
    show Steps p.tables e below (T4.setTop (mkF m 19 #[.val (.ref ar), .val (.int pp), .val (.int f), .val (.int (7 : Int32)), .unset, .unset, .unset] [(.int (7 : Int32)), (.ref s_F), (.int f)])) _
    refine X4.iaload hx (j := (7 : Int32)) (v := (.int (atv cl_F (7 : Int32)))) (by rw [e4]; exact Sc5.1.1) (State.isArrayOf_alike hZ.alike Sc5.1.2.1) Sc5.1.2.2 hin5 (Sc5.2.2.2 _ hin5) (g := (mkF m 19 #[.val (.ref ar), .val (.int pp), .val (.int f), .val (.int (7 : Int32)), .unset, .unset, .unset] [(.int (7 : Int32)), (.ref s_F), (.int f)])) rfl rfl (hb hby d3_19) _ ?_
    show Steps p.tables e below (T4.setTop (mkF m 20 #[.val (.ref ar), .val (.int pp), .val (.int f), .val (.int (7 : Int32)), .unset, .unset, .unset] [(.int (atv cl_F (7 : Int32))), (.int f)])) _
    rw [F_7]
    show Steps p.tables e below (T4.setTop (mkF m 20 #[.val (.ref ar), .val (.int pp), .val (.int f), .val (.int (7 : Int32)), .unset, .unset, .unset] [(.int (32 : Int32)), (.int f)])) _
    refine XS.isub X4.here hx rfl (hb hby d3_20) rfl ?_
    show Steps p.tables e below (T4.setTop (mkF m 21 #[.val (.ref ar), .val (.int pp), .val (.int f), .val (.int (7 : Int32)), .unset, .unset, .unset] [(.int (f - (32 : Int32)))])) _
    refine XS.i2l X4.here hx rfl (hb hby d3_21) rfl ?_
    show Steps p.tables e below (T4.setTop (mkF m 22 #[.val (.ref ar), .val (.int pp), .val (.int f), .val (.int (7 : Int32)), .unset, .unset, .unset] [(.long ((f - (32 : Int32)).toInt64))])) _
    refine XS.lstore X4.here hx rfl (hb hby d3_22) rfl (l' := #[.val (.ref ar), .val (.int pp), .val (.int f), .val (.int (7 : Int32)), .val (.long ((f - (32 : Int32)).toInt64)), .second, .unset]) rfl ?_
    show Steps p.tables e below (T4.setTop (mkF m 24 #[.val (.ref ar), .val (.int pp), .val (.int f), .val (.int (7 : Int32)), .val (.long ((f - (32 : Int32)).toInt64)), .second, .unset] [])) _
    refine XS.iconst X4.here hx rfl (hb hby d3_24) ?_
    refine XS.istore X4.here hx rfl (hb hby d3_25) rfl (l' := #[.val (.ref ar), .val (.int pp), .val (.int f), .val (.int (7 : Int32)), .val (.long ((f - (32 : Int32)).toInt64)), .second, .val (.int (1 : Int32))]) rfl ?_
    show Steps p.tables e below (T4.setTop (mkF m 27 #[.val (.ref ar), .val (.int pp), .val (.int f), .val (.int (7 : Int32)), .val (.long ((f - (32 : Int32)).toInt64)), .second, .val (.int (1 : Int32))] [])) _
    rw [← ho0]
    show Steps p.tables e below (T4.setTop (mkF m 27 #[.val (.ref ar), .val (.int pp), .val (.int f), .val (.int (7 : Int32)), .val (.long o0), .second, .val (.int (1 : Int32))] [])) _
    refine XS.iload X4.here hx rfl (hb hby d3_27) rfl ?_
    show Steps p.tables e below (T4.setTop (mkF m 29 #[.val (.ref ar), .val (.int pp), .val (.int f), .val (.int (7 : Int32)), .val (.long o0), .second, .val (.int (1 : Int32))] [(.int (1 : Int32))])) _
    refine st6 _ ?_
    show Steps p.tables e below (T6.setTop (mkF m 32 #[.val (.ref ar), .val (.int pp), .val (.int f), .val (.int (7 : Int32)), .val (.long o0), .second, .val (.int (1 : Int32))] [(.ref s_E), (.int (1 : Int32))])) _
    refine XS.iloadN X6.here hx rfl (hb hby d3_32) rfl ?_
    show Steps p.tables e below (T6.setTop (mkF m 33 #[.val (.ref ar), .val (.int pp), .val (.int f), .val (.int (7 : Int32)), .val (.long o0), .second, .val (.int (1 : Int32))] [(.int (7 : Int32)), (.ref s_E), (.int (1 : Int32))])) _
    refine X6.iaload hx (j := (7 : Int32)) (v := (.int (atv cl_E (7 : Int32)))) (by rw [e6]; exact Sc7.1.1) (State.isArrayOf_alike hZ.alike Sc7.1.2.1) Sc7.1.2.2 hin7 (Sc7.2.2.2 _ hin7) (g := (mkF m 33 #[.val (.ref ar), .val (.int pp), .val (.int f), .val (.int (7 : Int32)), .val (.long o0), .second, .val (.int (1 : Int32))] [(.int (7 : Int32)), (.ref s_E), (.int (1 : Int32))])) rfl rfl (hb hby d3_33) _ ?_
    show Steps p.tables e below (T6.setTop (mkF m 34 #[.val (.ref ar), .val (.int pp), .val (.int f), .val (.int (7 : Int32)), .val (.long o0), .second, .val (.int (1 : Int32))] [(.int (atv cl_E (7 : Int32))), (.int (1 : Int32))])) _
    rw [E_7]
    show Steps p.tables e below (T6.setTop (mkF m 34 #[.val (.ref ar), .val (.int pp), .val (.int f), .val (.int (7 : Int32)), .val (.long o0), .second, .val (.int (1 : Int32))] [(.int (0 : Int32)), (.int (1 : Int32))])) _
    refine XS.icmpYes X6.here hx rfl (pc0 := 34) (pc' := 62) rfl (hb hby d3_34) rfl (tlt (by decide : (0 : Int32) < (1 : Int32))).2.2.1 (by decide) (by decide) ?_
    show Steps p.tables e below (T6.setTop (mkF m 62 #[.val (.ref ar), .val (.int pp), .val (.int f), .val (.int (7 : Int32)), .val (.long o0), .second, .val (.int (1 : Int32))] [])) _
    refine st8 _ ?_
    show Steps p.tables e below (T8.setTop (mkF m 65 #[.val (.ref ar), .val (.int pp), .val (.int f), .val (.int (7 : Int32)), .val (.long o0), .second, .val (.int (1 : Int32))] [(.ref s_L)])) _
    refine XS.iloadN X8.here hx rfl (hb hby d3_65) rfl ?_
    show Steps p.tables e below (T8.setTop (mkF m 66 #[.val (.ref ar), .val (.int pp), .val (.int f), .val (.int (7 : Int32)), .val (.long o0), .second, .val (.int (1 : Int32))] [(.int (7 : Int32)), (.ref s_L)])) _
    refine X8.laload hx (j := (7 : Int32)) (v := (.long (-32 : Int64))) (by rw [e8]; exact Ar9.1) (State.isArrayOf_alike hZ.alike Ar9.2.1) Ar9.2.2 hin9 hat9 (g := (mkF m 66 #[.val (.ref ar), .val (.int pp), .val (.int f), .val (.int (7 : Int32)), .val (.long o0), .second, .val (.int (1 : Int32))] [(.int (7 : Int32)), (.ref s_L)])) rfl rfl (hb hby d3_66) _ ?_
    show Steps p.tables e below (T8.setTop (mkF m 67 #[.val (.ref ar), .val (.int pp), .val (.int f), .val (.int (7 : Int32)), .val (.long o0), .second, .val (.int (1 : Int32))] [(.long (-32 : Int64))])) _
    refine XS.lload X8.here hx rfl (hb hby d3_67) rfl ?_
    refine XS.ladd X8.here hx rfl (hb hby d3_69) rfl ?_
    show Steps p.tables e below (T8.setTop (mkF m 70 #[.val (.ref ar), .val (.int pp), .val (.int f), .val (.int (7 : Int32)), .val (.long o0), .second, .val (.int (1 : Int32))] [(.long ((-32 : Int64) + o0))])) _
    exact retOut X8 hx Bd.returns rfl (Or.inr (Or.inl ⟨rfl, rfl, _, rfl⟩)) (hb hby d3_70) hr
  · show own_Ql (own_val f.toInt t) h0 n0 _ T8.heap _
    rw [e8]
    exact ⟨_, rfl, N0, rfl, own_d_7 hf1 hf2 ht0 ht1 ho0 ⟩
theorem own_d_8 {o0 o1 : Int64} {y1 : Int32} {t : Int} {f : Int32} (h1 : 224 ≤ f.toInt) (h2 : f.toInt ≤ 248) (ht0 : 0 ≤ t) (ht1 : t < 72057594037927936) (ho0 : o0 = ((f - (224 : Int32)).toInt64)) (ho1 : o1 = ((o0 <<< ((8 : Int32) &&& 0x3f).toInt64) ||| ((y1 &&& (255 : Int32)).toInt64))) (hy1 : y1.toInt % 256 = (t / 281474976710656) % 256) : ((160 : Int64) + o1).toInt = own_val f.toInt t := by
  rw [own_val_8 h1 h2]
  have cL : ((160 : Int64)).toInt = 160 := rfl
  have c2 : ((224 : Int32)).toInt = 224 := rfl
  have x0 : o0.toInt = f.toInt - 224 := by rw [ho0]; exact (Int32.toInt_toInt64 _).trans (Jvm.Kit.i32_sub (by omega) (by omega))
  have b0 : 0 ≤ f.toInt - 224 := by omega
  have B0 : f.toInt - 224 < 256 := by omega
  have x1 : o1.toInt = ((f.toInt - 224) * 256 + t / 281474976710656) := by
    rw [ho1, own_step (X := ((f.toInt - 224) * 1 + t / 72057594037927936)) (by omega) (by omega) (by omega), hy1]; omega
  rw [Jvm.Kit.i64_add (by omega) (by omega), cL, x1]
  omega
set_option maxRecDepth 65536 in
set_option maxHeartbeats 40000000 in
theorem r_dec_8 (l : Launch) (Z : State) (a0 : Array Value) (hw : ∀ d ∈ tables_1, d.before a0 Z = true) (ws : List Jvm.Cond) (s_R s_F s_E s_L : Addr) (cl_R cl_F cl_E : Cell) (k_L : ClassId) (h0 : Heap) (n0 : Nat) (O0 : Old Z n0 h0) (G : own_Ctx Z Z.heap s_R s_F s_E s_L cl_R cl_F cl_E k_L) (ar : Addr) (kk : ClassId) (vs : List Value) (pp : Int32) (y0 y1 y2 y3 y4 y5 y6 y7 : Int32) (t : Int) (f : Int32) (Va : Arv Z h0 ar kk .byte (11 : Int32) vs (.int (0 : Int32))) (hg : y0 &&& (255 : Int32) = f) (hf1 : 224 ≤ f.toInt) (hf2 : f.toInt ≤ 248) (ht0 : 0 ≤ t) (ht1 : t < 72057594037927936) (hp0 : ¬ (pp < 0) ∧ pp < (11 : Int32)) (hv0 : vs.getD (pp).toNatClampNeg (.int (0 : Int32)) = .int y0) (hp1 : ¬ ((pp + (1 : Int32)) < 0) ∧ (pp + (1 : Int32)) < (11 : Int32)) (hv1 : vs.getD ((pp + (1 : Int32))).toNatClampNeg (.int (0 : Int32)) = .int y1) (hy1 : y1.toInt % 256 = (t / 281474976710656) % 256) (hR : atv cl_R f = (8 : Int32)) :
    MetFree l (⟨"com/example/rattan/rattan/storage/label/ComponentCode", "decode", "([BI)J"⟩ : MethodName) (head1 (Jvm.Cond.code (⟨"com/example/rattan/rattan/storage/label/ComponentCode", "decode", "([BI)J"⟩ : MethodName) prog_41_method_4_code 7 (some .long) :: ws) ({ frames := 0, cells := 0, slots := 0, locals := 0 } : Room)) (fun a U => a = #[(.ref ar), (.int pp)] ∧ Z.Warmed39 U.vm ∧ U.heap = h0) (fun _ _ _ _ _ => True) (fun _ U o U' => ∃ v L, o = .returned v ∧ own_Ql (own_val f.toInt t) h0 n0 v U'.heap L ∧ FrameEnd U o U' L ({ frames := 0, cells := 0, slots := 0, locals := 0 } : Room).cells ({ frames := 0, cells := 0, slots := 0, locals := 0 } : Room).slots) := by
  have G0 := G
  obtain ⟨S_R, C_R, S_F, C_F, S_E, C_E, S_L, V_L, R_1, R_2, R_3, R_4, R_5, F_0, F_1, F_2, F_3, F_4, F_5, F_6, F_7, F_8, F_9, F_10, F_11, F_12, F_13, F_14, E_0, E_1, E_2, E_3, E_4, E_5, E_6, E_7, E_8, E_9, E_10, E_11, E_12, E_13, E_14⟩ := G
  refine MetFree.of_bodySF (plainFor_of_name pn_1) hisR ?_
  intro p e s m args below meth c s₁ Bd hml0 hP hK
  obtain ⟨rfl, hZ, hh⟩ := hP
  have hx := Bd.exec
  have hby := Bd.bytes
  have hml : c.maxLocals = 7 := hml0
  have hown : s.vm.findClass "com/example/rattan/rattan/storage/label/ComponentCode" = some m.cls := findClass_of_methodNamed Bd.named
  have hnm := (name_of_methodNamed Bd.named Bd.method).1
  have X0 : Stand p l e ({ frames := 0, cells := 0, slots := 0, locals := 0 } : Room) s m #[(.ref ar), (.int pp)] below meth c s₁ [] 0 0 := Stand.of_body Bd
  have e0 : s₁.heap = h0 := by rw [← hh, Bd.state]; rfl
  have N0 := Fr.nil n0
  have pre0 : ∀ t, Steps p.tables e below (s₁.setTop (mkF m 0 #[.val (.ref ar), .val (.int pp), .unset, .unset, .unset, .unset, .unset] [])) t → Steps p.tables e below (s₁.setTop (entryFrame m #[(.ref ar), (.int pp)] 7)) t := fun t k => castTop (ef_3_2 m ar pp) k
  have vc1 := Va
  obtain ⟨cl1, Ar1, qk1, S1, Nn1, Hs1, Gf1⟩ := vc1
  have hin1 : ¬ (pp < 0 ∨ cl1.slots.size ≤ (pp).toNatClampNeg) := inb_of S1 hp0
  have hat1 : cl1.slots[(pp).toNatClampNeg]? = some (.int y0) := Has.at Hs1 hin1 hv0
  obtain ⟨T2, X2, e2, st2⟩ := getS2 X0 hx hZ hown (host := "") (Or.inl (hw _ (List.mem_of_getElem? (i := 15) rfl))) Via.refl e0 (S_R.ext O0.2) (g := (mkF m 8 #[.val (.ref ar), .val (.int pp), .val (.int f), .unset, .unset, .unset, .unset] [])) rfl (hb hby d3_8)
  have Sc3 := (C_R.ext O0.2)
  have hin3 : ¬ (f < 0 ∨ cl_R.slots.size ≤ (f).toNatClampNeg) := inb_of Sc3.2.1 ⟨by rw [Int32.lt_iff_toInt_lt]; have z : (0 : Int32).toInt = 0 := rfl; omega, by rw [Int32.lt_iff_toInt_lt]; have z : (256 : Int32).toInt = 256 := rfl; omega⟩
  obtain ⟨T4, X4, e4, st4⟩ := getS2 X2 hx hZ hown (host := "") (Or.inl (hw _ (List.mem_of_getElem? (i := 17) rfl))) Via.refl e2 (S_F.ext O0.2) (g := (mkF m 15 #[.val (.ref ar), .val (.int pp), .val (.int f), .val (.int (8 : Int32)), .unset, .unset, .unset] [(.int f)])) rfl (hb hby d3_15)
  have Sc5 := (C_F.ext O0.2)
  have hin5 : ¬ ((8 : Int32) < 0 ∨ cl_F.slots.size ≤ ((8 : Int32)).toNatClampNeg) := inb_of Sc5.2.1 ⟨by decide, by decide⟩
  obtain ⟨o0, ho0⟩ : ∃ z : Int64, z = ((f - (224 : Int32)).toInt64) := ⟨_, rfl⟩
  obtain ⟨T6, X6, e6, st6⟩ := t_dec s_R s_F s_E s_L cl_R cl_F cl_E k_L ar kk vs pp f (8 : Int32) o0 (1 : Int32) (1 : Int32) y1 X4 hx hZ hw hby hml hown e4 O0 G0 Va ⟨by decide, by decide⟩ E_8 (by decide) hp1 hv1
  obtain ⟨o1, ho1⟩ : ∃ z : Int64, z = ((o0 <<< ((8 : Int32) &&& 0x3f).toInt64) ||| ((y1 &&& (255 : Int32)).toInt64)) := ⟨_, rfl⟩
  obtain ⟨T7, X7, e7, st7⟩ := getS2 X6 hx hZ hown (host := "") (Or.inl (hw _ (List.mem_of_getElem? (i := 19) rfl))) Via.refl e6 (S_E.ext O0.2) (g := (mkF m 29 #[.val (.ref ar), .val (.int pp), .val (.int f), .val (.int (8 : Int32)), .val (.long o1), .second, .val (.int ((1 : Int32) + (1 : Int32)))] [(.int ((1 : Int32) + (1 : Int32)))])) rfl (hb hby d3_29)
  have Sc8 := (C_E.ext O0.2)
  have hin8 : ¬ ((8 : Int32) < 0 ∨ cl_E.slots.size ≤ ((8 : Int32)).toNatClampNeg) := inb_of Sc8.2.1 ⟨by decide, by decide⟩
  obtain ⟨T9, X9, e9, st9⟩ := getS2 X7 hx hZ hown (host := "") (Or.inl (hw _ (List.mem_of_getElem? (i := 21) rfl))) Via.refl e7 (S_L.ext O0.2) (g := (mkF m 62 #[.val (.ref ar), .val (.int pp), .val (.int f), .val (.int (8 : Int32)), .val (.long o1), .second, .val (.int ((1 : Int32) + (1 : Int32)))] [])) rfl (hb hby d3_62)
  have vc10 := (V_L.ext O0.2)
  obtain ⟨cl10, Ar10, qk10, S10, Nn10, Hs10, Gf10⟩ := vc10
  have hin10 : ¬ ((8 : Int32) < 0 ∨ cl10.slots.size ≤ ((8 : Int32)).toNatClampNeg) := inb_of S10 ⟨by decide, by decide⟩
  have hat10 : cl10.slots[((8 : Int32)).toNatClampNeg]? = some (.long (160 : Int64)) := Has.at Hs10 hin10 rfl
  obtain ⟨fs, hr, hrun, hended, hW, hsame⟩ := X9.leave (v := some (.long ((160 : Int64) + o1))) (fun h => by rw [Bd.returns] at h; cases h)
  refine ⟨_, _, pre0 _ ?_, hrun, hended, _, _, rfl, ?_, ⟨_, rfl⟩, hW, hsame.mono (by decide) (by decide)⟩
  · show Steps p.tables e below (s₁.setTop (mkF m 0 #[.val (.ref ar), .val (.int pp), .unset, .unset, .unset, .unset, .unset] [])) _
    refine XS.aloadN X0.here hx rfl (hb hby d3_0) rfl rfl ?_
    refine XS.iloadN X0.here hx rfl (hb hby d3_1) rfl ?_
    show Steps p.tables e below (s₁.setTop (mkF m 2 #[.val (.ref ar), .val (.int pp), .unset, .unset, .unset, .unset, .unset] [(.int pp), (.ref ar)])) _
    refine X0.baloadBytes hx (j := pp) (v := (.int y0)) (by rw [e0]; exact Ar1.1) (State.isArrayOf_alike hZ.alike Ar1.2.1) Ar1.2.2 hin1 hat1 (g := (mkF m 2 #[.val (.ref ar), .val (.int pp), .unset, .unset, .unset, .unset, .unset] [(.int pp), (.ref ar)])) rfl rfl (hb hby d3_2) _ ?_
    show Steps p.tables e below (s₁.setTop (mkF m 3 #[.val (.ref ar), .val (.int pp), .unset, .unset, .unset, .unset, .unset] [(.int y0)])) _
    refine XS.sipush X0.here hx rfl (hb hby d3_3) ?_
    refine XS.iand X0.here hx rfl (hb hby d3_6) rfl ?_
    show Steps p.tables e below (s₁.setTop (mkF m 7 #[.val (.ref ar), .val (.int pp), .unset, .unset, .unset, .unset, .unset] [(.int (y0 &&& (255 : Int32)))])) _
    rw [hg]
    refine XS.istoreN X0.here hx rfl (hb hby d3_7) rfl (l' := #[.val (.ref ar), .val (.int pp), .val (.int f), .unset, .unset, .unset, .unset]) rfl ?_
    show Steps p.tables e below (s₁.setTop (mkF m 8 #[.val (.ref ar), .val (.int pp), .val (.int f), .unset, .unset, .unset, .unset] [])) _
    refine st2 _ ?_
    show Steps p.tables e below (T2.setTop (mkF m 11 #[.val (.ref ar), .val (.int pp), .val (.int f), .unset, .unset, .unset, .unset] [(.ref s_R)])) _
    refine XS.iloadN X2.here hx rfl (hb hby d3_11) rfl ?_
    show Steps p.tables e below (T2.setTop (mkF m 12 #[.val (.ref ar), .val (.int pp), .val (.int f), .unset, .unset, .unset, .unset] [(.int f), (.ref s_R)])) _
    refine X2.iaload hx (j := f) (v := (.int (atv cl_R f))) (by rw [e2]; exact Sc3.1.1) (State.isArrayOf_alike hZ.alike Sc3.1.2.1) Sc3.1.2.2 hin3 (Sc3.2.2.2 _ hin3) (g := (mkF m 12 #[.val (.ref ar), .val (.int pp), .val (.int f), .unset, .unset, .unset, .unset] [(.int f), (.ref s_R)])) rfl rfl (hb hby d3_12) _ ?_
    show Steps p.tables e below (T2.setTop (mkF m 13 #[.val (.ref ar), .val (.int pp), .val (.int f), .unset, .unset, .unset, .unset] [(.int (atv cl_R f))])) _
    rw [hR]
    show Steps p.tables e below (T2.setTop (mkF m 13 #[.val (.ref ar), .val (.int pp), .val (.int f), .unset, .unset, .unset, .unset] [(.int (8 : Int32))])) _
    refine XS.istoreN X2.here hx rfl (hb hby d3_13) rfl (l' := #[.val (.ref ar), .val (.int pp), .val (.int f), .val (.int (8 : Int32)), .unset, .unset, .unset]) rfl ?_
    show Steps p.tables e below (T2.setTop (mkF m 14 #[.val (.ref ar), .val (.int pp), .val (.int f), .val (.int (8 : Int32)), .unset, .unset, .unset] [])) _
    refine XS.iloadN X2.here hx rfl (hb hby d3_14) rfl ?_
    show Steps p.tables e below (T2.setTop (mkF m 15 #[.val (.ref ar), .val (.int pp), .val (.int f), .val (.int (8 : Int32)), .unset, .unset, .unset] [(.int f)])) _
    refine st4 _ ?_
    show Steps p.tables e below (T4.setTop (mkF m 18 #[.val (.ref ar), .val (.int pp), .val (.int f), .val (.int (8 : Int32)), .unset, .unset, .unset] [(.ref s_F), (.int f)])) _
    refine XS.iloadN X4.here hx rfl (hb hby d3_18) rfl ?_
    show Steps p.tables e below (T4.setTop (mkF m 19 #[.val (.ref ar), .val (.int pp), .val (.int f), .val (.int (8 : Int32)), .unset, .unset, .unset] [(.int (8 : Int32)), (.ref s_F), (.int f)])) _
    refine X4.iaload hx (j := (8 : Int32)) (v := (.int (atv cl_F (8 : Int32)))) (by rw [e4]; exact Sc5.1.1) (State.isArrayOf_alike hZ.alike Sc5.1.2.1) Sc5.1.2.2 hin5 (Sc5.2.2.2 _ hin5) (g := (mkF m 19 #[.val (.ref ar), .val (.int pp), .val (.int f), .val (.int (8 : Int32)), .unset, .unset, .unset] [(.int (8 : Int32)), (.ref s_F), (.int f)])) rfl rfl (hb hby d3_19) _ ?_
    show Steps p.tables e below (T4.setTop (mkF m 20 #[.val (.ref ar), .val (.int pp), .val (.int f), .val (.int (8 : Int32)), .unset, .unset, .unset] [(.int (atv cl_F (8 : Int32))), (.int f)])) _
    rw [F_8]
    show Steps p.tables e below (T4.setTop (mkF m 20 #[.val (.ref ar), .val (.int pp), .val (.int f), .val (.int (8 : Int32)), .unset, .unset, .unset] [(.int (224 : Int32)), (.int f)])) _
    refine XS.isub X4.here hx rfl (hb hby d3_20) rfl ?_
    show Steps p.tables e below (T4.setTop (mkF m 21 #[.val (.ref ar), .val (.int pp), .val (.int f), .val (.int (8 : Int32)), .unset, .unset, .unset] [(.int (f - (224 : Int32)))])) _
    refine XS.i2l X4.here hx rfl (hb hby d3_21) rfl ?_
    show Steps p.tables e below (T4.setTop (mkF m 22 #[.val (.ref ar), .val (.int pp), .val (.int f), .val (.int (8 : Int32)), .unset, .unset, .unset] [(.long ((f - (224 : Int32)).toInt64))])) _
    refine XS.lstore X4.here hx rfl (hb hby d3_22) rfl (l' := #[.val (.ref ar), .val (.int pp), .val (.int f), .val (.int (8 : Int32)), .val (.long ((f - (224 : Int32)).toInt64)), .second, .unset]) rfl ?_
    show Steps p.tables e below (T4.setTop (mkF m 24 #[.val (.ref ar), .val (.int pp), .val (.int f), .val (.int (8 : Int32)), .val (.long ((f - (224 : Int32)).toInt64)), .second, .unset] [])) _
    refine XS.iconst X4.here hx rfl (hb hby d3_24) ?_
    refine XS.istore X4.here hx rfl (hb hby d3_25) rfl (l' := #[.val (.ref ar), .val (.int pp), .val (.int f), .val (.int (8 : Int32)), .val (.long ((f - (224 : Int32)).toInt64)), .second, .val (.int (1 : Int32))]) rfl ?_
    show Steps p.tables e below (T4.setTop (mkF m 27 #[.val (.ref ar), .val (.int pp), .val (.int f), .val (.int (8 : Int32)), .val (.long ((f - (224 : Int32)).toInt64)), .second, .val (.int (1 : Int32))] [])) _
    rw [← ho0]
    show Steps p.tables e below (T4.setTop (mkF m 27 #[.val (.ref ar), .val (.int pp), .val (.int f), .val (.int (8 : Int32)), .val (.long o0), .second, .val (.int (1 : Int32))] [])) _
    refine st6 _ ?_
    show Steps p.tables e below (T6.setTop (mkF m 27 #[.val (.ref ar), .val (.int pp), .val (.int f), .val (.int (8 : Int32)), .val (.long ((o0 <<< ((8 : Int32) &&& 0x3f).toInt64) ||| ((y1 &&& (255 : Int32)).toInt64))), .second, .val (.int ((1 : Int32) + (1 : Int32)))] [])) _
    rw [← ho1]
    show Steps p.tables e below (T6.setTop (mkF m 27 #[.val (.ref ar), .val (.int pp), .val (.int f), .val (.int (8 : Int32)), .val (.long o1), .second, .val (.int ((1 : Int32) + (1 : Int32)))] [])) _
    refine XS.iload X6.here hx rfl (hb hby d3_27) rfl ?_
    show Steps p.tables e below (T6.setTop (mkF m 29 #[.val (.ref ar), .val (.int pp), .val (.int f), .val (.int (8 : Int32)), .val (.long o1), .second, .val (.int ((1 : Int32) + (1 : Int32)))] [(.int ((1 : Int32) + (1 : Int32)))])) _
    refine st7 _ ?_
    show Steps p.tables e below (T7.setTop (mkF m 32 #[.val (.ref ar), .val (.int pp), .val (.int f), .val (.int (8 : Int32)), .val (.long o1), .second, .val (.int ((1 : Int32) + (1 : Int32)))] [(.ref s_E), (.int ((1 : Int32) + (1 : Int32)))])) _
    refine XS.iloadN X7.here hx rfl (hb hby d3_32) rfl ?_
    show Steps p.tables e below (T7.setTop (mkF m 33 #[.val (.ref ar), .val (.int pp), .val (.int f), .val (.int (8 : Int32)), .val (.long o1), .second, .val (.int ((1 : Int32) + (1 : Int32)))] [(.int (8 : Int32)), (.ref s_E), (.int ((1 : Int32) + (1 : Int32)))])) _
    refine X7.iaload hx (j := (8 : Int32)) (v := (.int (atv cl_E (8 : Int32)))) (by rw [e7]; exact Sc8.1.1) (State.isArrayOf_alike hZ.alike Sc8.1.2.1) Sc8.1.2.2 hin8 (Sc8.2.2.2 _ hin8) (g := (mkF m 33 #[.val (.ref ar), .val (.int pp), .val (.int f), .val (.int (8 : Int32)), .val (.long o1), .second, .val (.int ((1 : Int32) + (1 : Int32)))] [(.int (8 : Int32)), (.ref s_E), (.int ((1 : Int32) + (1 : Int32)))])) rfl rfl (hb hby d3_33) _ ?_
    show Steps p.tables e below (T7.setTop (mkF m 34 #[.val (.ref ar), .val (.int pp), .val (.int f), .val (.int (8 : Int32)), .val (.long o1), .second, .val (.int ((1 : Int32) + (1 : Int32)))] [(.int (atv cl_E (8 : Int32))), (.int ((1 : Int32) + (1 : Int32)))])) _
    rw [E_8]
    show Steps p.tables e below (T7.setTop (mkF m 34 #[.val (.ref ar), .val (.int pp), .val (.int f), .val (.int (8 : Int32)), .val (.long o1), .second, .val (.int ((1 : Int32) + (1 : Int32)))] [(.int (1 : Int32)), (.int ((1 : Int32) + (1 : Int32)))])) _
    refine XS.icmpYes X7.here hx rfl (pc0 := 34) (pc' := 62) rfl (hb hby d3_34) rfl (tlt (by decide : (1 : Int32) < ((1 : Int32) + (1 : Int32)))).2.2.1 (by decide) (by decide) ?_
    show Steps p.tables e below (T7.setTop (mkF m 62 #[.val (.ref ar), .val (.int pp), .val (.int f), .val (.int (8 : Int32)), .val (.long o1), .second, .val (.int ((1 : Int32) + (1 : Int32)))] [])) _
    refine st9 _ ?_
    show Steps p.tables e below (T9.setTop (mkF m 65 #[.val (.ref ar), .val (.int pp), .val (.int f), .val (.int (8 : Int32)), .val (.long o1), .second, .val (.int ((1 : Int32) + (1 : Int32)))] [(.ref s_L)])) _
    refine XS.iloadN X9.here hx rfl (hb hby d3_65) rfl ?_
    show Steps p.tables e below (T9.setTop (mkF m 66 #[.val (.ref ar), .val (.int pp), .val (.int f), .val (.int (8 : Int32)), .val (.long o1), .second, .val (.int ((1 : Int32) + (1 : Int32)))] [(.int (8 : Int32)), (.ref s_L)])) _
    refine X9.laload hx (j := (8 : Int32)) (v := (.long (160 : Int64))) (by rw [e9]; exact Ar10.1) (State.isArrayOf_alike hZ.alike Ar10.2.1) Ar10.2.2 hin10 hat10 (g := (mkF m 66 #[.val (.ref ar), .val (.int pp), .val (.int f), .val (.int (8 : Int32)), .val (.long o1), .second, .val (.int ((1 : Int32) + (1 : Int32)))] [(.int (8 : Int32)), (.ref s_L)])) rfl rfl (hb hby d3_66) _ ?_
    show Steps p.tables e below (T9.setTop (mkF m 67 #[.val (.ref ar), .val (.int pp), .val (.int f), .val (.int (8 : Int32)), .val (.long o1), .second, .val (.int ((1 : Int32) + (1 : Int32)))] [(.long (160 : Int64))])) _
    refine XS.lload X9.here hx rfl (hb hby d3_67) rfl ?_
    refine XS.ladd X9.here hx rfl (hb hby d3_69) rfl ?_
    show Steps p.tables e below (T9.setTop (mkF m 70 #[.val (.ref ar), .val (.int pp), .val (.int f), .val (.int (8 : Int32)), .val (.long o1), .second, .val (.int ((1 : Int32) + (1 : Int32)))] [(.long ((160 : Int64) + o1))])) _
    exact retOut X9 hx Bd.returns rfl (Or.inr (Or.inl ⟨rfl, rfl, _, rfl⟩)) (hb hby d3_70) hr
  · show own_Ql (own_val f.toInt t) h0 n0 _ T9.heap _
    rw [e9]
    exact ⟨_, rfl, N0, rfl, own_d_8 hf1 hf2 ht0 ht1 ho0 ho1 hy1⟩
theorem own_d_9 {o0 o1 o2 : Int64} {y1 y2 : Int32} {t : Int} (ht0 : 0 ≤ t) (ht1 : t < 72057594037927936) (ho0 : o0 = (((249 : Int32) - (249 : Int32)).toInt64)) (ho1 : o1 = ((o0 <<< ((8 : Int32) &&& 0x3f).toInt64) ||| ((y1 &&& (255 : Int32)).toInt64))) (ho2 : o2 = ((o1 <<< ((8 : Int32) &&& 0x3f).toInt64) ||| ((y2 &&& (255 : Int32)).toInt64))) (hy1 : y1.toInt % 256 = (t / 281474976710656) % 256) (hy2 : y2.toInt % 256 = (t / 1099511627776) % 256) : ((6560 : Int64) + o2).toInt = own_val 249 t := by
  rw [own_val_9 (by decide) (by decide)]
  have cL : ((6560 : Int64)).toInt = 6560 := rfl
  have x0 : o0.toInt = 0 := by rw [ho0]; rfl
  have x1 : o1.toInt = (t / 281474976710656) := by
    rw [ho1, own_step (X := (t / 72057594037927936)) (by omega) (by omega) (by omega), hy1]; omega
  have x2 : o2.toInt = (t / 1099511627776) := by
    rw [ho2, own_step (X := (t / 281474976710656)) (by omega) (by omega) (by omega), hy2]; omega
  rw [Jvm.Kit.i64_add (by omega) (by omega), cL, x2]
  omega
set_option maxRecDepth 65536 in
set_option maxHeartbeats 40000000 in
theorem r_dec_9 (l : Launch) (Z : State) (a0 : Array Value) (hw : ∀ d ∈ tables_1, d.before a0 Z = true) (ws : List Jvm.Cond) (s_R s_F s_E s_L : Addr) (cl_R cl_F cl_E : Cell) (k_L : ClassId) (h0 : Heap) (n0 : Nat) (O0 : Old Z n0 h0) (G : own_Ctx Z Z.heap s_R s_F s_E s_L cl_R cl_F cl_E k_L) (ar : Addr) (kk : ClassId) (vs : List Value) (pp : Int32) (y0 y1 y2 y3 y4 y5 y6 y7 : Int32) (t : Int) (Va : Arv Z h0 ar kk .byte (11 : Int32) vs (.int (0 : Int32))) (hg : y0 &&& (255 : Int32) = (249 : Int32)) (ht0 : 0 ≤ t) (ht1 : t < 72057594037927936) (hp0 : ¬ (pp < 0) ∧ pp < (11 : Int32)) (hv0 : vs.getD (pp).toNatClampNeg (.int (0 : Int32)) = .int y0) (hp1 : ¬ ((pp + (1 : Int32)) < 0) ∧ (pp + (1 : Int32)) < (11 : Int32)) (hv1 : vs.getD ((pp + (1 : Int32))).toNatClampNeg (.int (0 : Int32)) = .int y1) (hp2 : ¬ ((pp + ((1 : Int32) + (1 : Int32))) < 0) ∧ (pp + ((1 : Int32) + (1 : Int32))) < (11 : Int32)) (hv2 : vs.getD ((pp + ((1 : Int32) + (1 : Int32)))).toNatClampNeg (.int (0 : Int32)) = .int y2) (hy1 : y1.toInt % 256 = (t / 281474976710656) % 256) (hy2 : y2.toInt % 256 = (t / 1099511627776) % 256) (hR : atv cl_R (249 : Int32) = (9 : Int32)) :
    MetFree l (⟨"com/example/rattan/rattan/storage/label/ComponentCode", "decode", "([BI)J"⟩ : MethodName) (head1 (Jvm.Cond.code (⟨"com/example/rattan/rattan/storage/label/ComponentCode", "decode", "([BI)J"⟩ : MethodName) prog_41_method_4_code 7 (some .long) :: ws) ({ frames := 0, cells := 0, slots := 0, locals := 0 } : Room)) (fun a U => a = #[(.ref ar), (.int pp)] ∧ Z.Warmed39 U.vm ∧ U.heap = h0) (fun _ _ _ _ _ => True) (fun _ U o U' => ∃ v L, o = .returned v ∧ own_Ql (own_val 249 t) h0 n0 v U'.heap L ∧ FrameEnd U o U' L ({ frames := 0, cells := 0, slots := 0, locals := 0 } : Room).cells ({ frames := 0, cells := 0, slots := 0, locals := 0 } : Room).slots) := by
  have G0 := G
  obtain ⟨S_R, C_R, S_F, C_F, S_E, C_E, S_L, V_L, R_1, R_2, R_3, R_4, R_5, F_0, F_1, F_2, F_3, F_4, F_5, F_6, F_7, F_8, F_9, F_10, F_11, F_12, F_13, F_14, E_0, E_1, E_2, E_3, E_4, E_5, E_6, E_7, E_8, E_9, E_10, E_11, E_12, E_13, E_14⟩ := G
  refine MetFree.of_bodySF (plainFor_of_name pn_1) hisR ?_
  intro p e s m args below meth c s₁ Bd hml0 hP hK
  obtain ⟨rfl, hZ, hh⟩ := hP
  have hx := Bd.exec
  have hby := Bd.bytes
  have hml : c.maxLocals = 7 := hml0
  have hown : s.vm.findClass "com/example/rattan/rattan/storage/label/ComponentCode" = some m.cls := findClass_of_methodNamed Bd.named
  have hnm := (name_of_methodNamed Bd.named Bd.method).1
  have X0 : Stand p l e ({ frames := 0, cells := 0, slots := 0, locals := 0 } : Room) s m #[(.ref ar), (.int pp)] below meth c s₁ [] 0 0 := Stand.of_body Bd
  have e0 : s₁.heap = h0 := by rw [← hh, Bd.state]; rfl
  have N0 := Fr.nil n0
  have pre0 : ∀ t, Steps p.tables e below (s₁.setTop (mkF m 0 #[.val (.ref ar), .val (.int pp), .unset, .unset, .unset, .unset, .unset] [])) t → Steps p.tables e below (s₁.setTop (entryFrame m #[(.ref ar), (.int pp)] 7)) t := fun t k => castTop (ef_3_2 m ar pp) k
  have vc1 := Va
  obtain ⟨cl1, Ar1, qk1, S1, Nn1, Hs1, Gf1⟩ := vc1
  have hin1 : ¬ (pp < 0 ∨ cl1.slots.size ≤ (pp).toNatClampNeg) := inb_of S1 hp0
  have hat1 : cl1.slots[(pp).toNatClampNeg]? = some (.int y0) := Has.at Hs1 hin1 hv0
  obtain ⟨T2, X2, e2, st2⟩ := getS2 X0 hx hZ hown (host := "") (Or.inl (hw _ (List.mem_of_getElem? (i := 15) rfl))) Via.refl e0 (S_R.ext O0.2) (g := (mkF m 8 #[.val (.ref ar), .val (.int pp), .val (.int (249 : Int32)), .unset, .unset, .unset, .unset] [])) rfl (hb hby d3_8)
  have Sc3 := (C_R.ext O0.2)
  have hin3 : ¬ ((249 : Int32) < 0 ∨ cl_R.slots.size ≤ ((249 : Int32)).toNatClampNeg) := inb_of Sc3.2.1 ⟨by decide, by decide⟩
  obtain ⟨T4, X4, e4, st4⟩ := getS2 X2 hx hZ hown (host := "") (Or.inl (hw _ (List.mem_of_getElem? (i := 17) rfl))) Via.refl e2 (S_F.ext O0.2) (g := (mkF m 15 #[.val (.ref ar), .val (.int pp), .val (.int (249 : Int32)), .val (.int (9 : Int32)), .unset, .unset, .unset] [(.int (249 : Int32))])) rfl (hb hby d3_15)
  have Sc5 := (C_F.ext O0.2)
  have hin5 : ¬ ((9 : Int32) < 0 ∨ cl_F.slots.size ≤ ((9 : Int32)).toNatClampNeg) := inb_of Sc5.2.1 ⟨by decide, by decide⟩
  obtain ⟨o0, ho0⟩ : ∃ z : Int64, z = (((249 : Int32) - (249 : Int32)).toInt64) := ⟨_, rfl⟩
  obtain ⟨T6, X6, e6, st6⟩ := t_dec s_R s_F s_E s_L cl_R cl_F cl_E k_L ar kk vs pp (249 : Int32) (9 : Int32) o0 (1 : Int32) (2 : Int32) y1 X4 hx hZ hw hby hml hown e4 O0 G0 Va ⟨by decide, by decide⟩ E_9 (by decide) hp1 hv1
  obtain ⟨o1, ho1⟩ : ∃ z : Int64, z = ((o0 <<< ((8 : Int32) &&& 0x3f).toInt64) ||| ((y1 &&& (255 : Int32)).toInt64)) := ⟨_, rfl⟩
  obtain ⟨T7, X7, e7, st7⟩ := t_dec s_R s_F s_E s_L cl_R cl_F cl_E k_L ar kk vs pp (249 : Int32) (9 : Int32) o1 ((1 : Int32) + (1 : Int32)) (2 : Int32) y2 X6 hx hZ hw hby hml hown e6 O0 G0 Va ⟨by decide, by decide⟩ E_9 (by decide) hp2 hv2
  obtain ⟨o2, ho2⟩ : ∃ z : Int64, z = ((o1 <<< ((8 : Int32) &&& 0x3f).toInt64) ||| ((y2 &&& (255 : Int32)).toInt64)) := ⟨_, rfl⟩
  obtain ⟨T8, X8, e8, st8⟩ := getS2 X7 hx hZ hown (host := "") (Or.inl (hw _ (List.mem_of_getElem? (i := 19) rfl))) Via.refl e7 (S_E.ext O0.2) (g := (mkF m 29 #[.val (.ref ar), .val (.int pp), .val (.int (249 : Int32)), .val (.int (9 : Int32)), .val (.long o2), .second, .val (.int (((1 : Int32) + (1 : Int32)) + (1 : Int32)))] [(.int (((1 : Int32) + (1 : Int32)) + (1 : Int32)))])) rfl (hb hby d3_29)
  have Sc9 := (C_E.ext O0.2)
  have hin9 : ¬ ((9 : Int32) < 0 ∨ cl_E.slots.size ≤ ((9 : Int32)).toNatClampNeg) := inb_of Sc9.2.1 ⟨by decide, by decide⟩
  obtain ⟨T10, X10, e10, st10⟩ := getS2 X8 hx hZ hown (host := "") (Or.inl (hw _ (List.mem_of_getElem? (i := 21) rfl))) Via.refl e8 (S_L.ext O0.2) (g := (mkF m 62 #[.val (.ref ar), .val (.int pp), .val (.int (249 : Int32)), .val (.int (9 : Int32)), .val (.long o2), .second, .val (.int (((1 : Int32) + (1 : Int32)) + (1 : Int32)))] [])) rfl (hb hby d3_62)
  have vc11 := (V_L.ext O0.2)
  obtain ⟨cl11, Ar11, qk11, S11, Nn11, Hs11, Gf11⟩ := vc11
  have hin11 : ¬ ((9 : Int32) < 0 ∨ cl11.slots.size ≤ ((9 : Int32)).toNatClampNeg) := inb_of S11 ⟨by decide, by decide⟩
  have hat11 : cl11.slots[((9 : Int32)).toNatClampNeg]? = some (.long (6560 : Int64)) := Has.at Hs11 hin11 rfl
  obtain ⟨fs, hr, hrun, hended, hW, hsame⟩ := X10.leave (v := some (.long ((6560 : Int64) + o2))) (fun h => by rw [Bd.returns] at h; cases h)
  refine ⟨_, _, pre0 _ ?_, hrun, hended, _, _, rfl, ?_, ⟨_, rfl⟩, hW, hsame.mono (by decide) (by decide)⟩
  · show Steps p.tables e below (s₁.setTop (mkF m 0 #[.val (.ref ar), .val (.int pp), .unset, .unset, .unset, .unset, .unset] [])) _
    refine XS.aloadN X0.here hx rfl (hb hby d3_0) rfl rfl ?_
    refine XS.iloadN X0.here hx rfl (hb hby d3_1) rfl ?_
    show Steps p.tables e below (s₁.setTop (mkF m 2 #[.val (.ref ar), .val (.int pp), .unset, .unset, .unset, .unset, .unset] [(.int pp), (.ref ar)])) _
    refine X0.baloadBytes hx (j := pp) (v := (.int y0)) (by rw [e0]; exact Ar1.1) (State.isArrayOf_alike hZ.alike Ar1.2.1) Ar1.2.2 hin1 hat1 (g := (mkF m 2 #[.val (.ref ar), .val (.int pp), .unset, .unset, .unset, .unset, .unset] [(.int pp), (.ref ar)])) rfl rfl (hb hby d3_2) _ ?_
    show Steps p.tables e below (s₁.setTop (mkF m 3 #[.val (.ref ar), .val (.int pp), .unset, .unset, .unset, .unset, .unset] [(.int y0)])) _
    refine XS.sipush X0.here hx rfl (hb hby d3_3) ?_
    refine XS.iand X0.here hx rfl (hb hby d3_6) rfl ?_
    show Steps p.tables e below (s₁.setTop (mkF m 7 #[.val (.ref ar), .val (.int pp), .unset, .unset, .unset, .unset, .unset] [(.int (y0 &&& (255 : Int32)))])) _
    rw [hg]
    refine XS.istoreN X0.here hx rfl (hb hby d3_7) rfl (l' := #[.val (.ref ar), .val (.int pp), .val (.int (249 : Int32)), .unset, .unset, .unset, .unset]) rfl ?_
    show Steps p.tables e below (s₁.setTop (mkF m 8 #[.val (.ref ar), .val (.int pp), .val (.int (249 : Int32)), .unset, .unset, .unset, .unset] [])) _
    refine st2 _ ?_
    show Steps p.tables e below (T2.setTop (mkF m 11 #[.val (.ref ar), .val (.int pp), .val (.int (249 : Int32)), .unset, .unset, .unset, .unset] [(.ref s_R)])) _
    refine XS.iloadN X2.here hx rfl (hb hby d3_11) rfl ?_
    show Steps p.tables e below (T2.setTop (mkF m 12 #[.val (.ref ar), .val (.int pp), .val (.int (249 : Int32)), .unset, .unset, .unset, .unset] [(.int (249 : Int32)), (.ref s_R)])) _
    refine X2.iaload hx (j := (249 : Int32)) (v := (.int (atv cl_R (249 : Int32)))) (by rw [e2]; exact Sc3.1.1) (State.isArrayOf_alike hZ.alike Sc3.1.2.1) Sc3.1.2.2 hin3 (Sc3.2.2.2 _ hin3) (g := (mkF m 12 #[.val (.ref ar), .val (.int pp), .val (.int (249 : Int32)), .unset, .unset, .unset, .unset] [(.int (249 : Int32)), (.ref s_R)])) rfl rfl (hb hby d3_12) _ ?_
    show Steps p.tables e below (T2.setTop (mkF m 13 #[.val (.ref ar), .val (.int pp), .val (.int (249 : Int32)), .unset, .unset, .unset, .unset] [(.int (atv cl_R (249 : Int32)))])) _
    rw [hR]
    show Steps p.tables e below (T2.setTop (mkF m 13 #[.val (.ref ar), .val (.int pp), .val (.int (249 : Int32)), .unset, .unset, .unset, .unset] [(.int (9 : Int32))])) _
    refine XS.istoreN X2.here hx rfl (hb hby d3_13) rfl (l' := #[.val (.ref ar), .val (.int pp), .val (.int (249 : Int32)), .val (.int (9 : Int32)), .unset, .unset, .unset]) rfl ?_
    show Steps p.tables e below (T2.setTop (mkF m 14 #[.val (.ref ar), .val (.int pp), .val (.int (249 : Int32)), .val (.int (9 : Int32)), .unset, .unset, .unset] [])) _
    refine XS.iloadN X2.here hx rfl (hb hby d3_14) rfl ?_
    show Steps p.tables e below (T2.setTop (mkF m 15 #[.val (.ref ar), .val (.int pp), .val (.int (249 : Int32)), .val (.int (9 : Int32)), .unset, .unset, .unset] [(.int (249 : Int32))])) _
    refine st4 _ ?_
    show Steps p.tables e below (T4.setTop (mkF m 18 #[.val (.ref ar), .val (.int pp), .val (.int (249 : Int32)), .val (.int (9 : Int32)), .unset, .unset, .unset] [(.ref s_F), (.int (249 : Int32))])) _
    refine XS.iloadN X4.here hx rfl (hb hby d3_18) rfl ?_
    show Steps p.tables e below (T4.setTop (mkF m 19 #[.val (.ref ar), .val (.int pp), .val (.int (249 : Int32)), .val (.int (9 : Int32)), .unset, .unset, .unset] [(.int (9 : Int32)), (.ref s_F), (.int (249 : Int32))])) _
    refine X4.iaload hx (j := (9 : Int32)) (v := (.int (atv cl_F (9 : Int32)))) (by rw [e4]; exact Sc5.1.1) (State.isArrayOf_alike hZ.alike Sc5.1.2.1) Sc5.1.2.2 hin5 (Sc5.2.2.2 _ hin5) (g := (mkF m 19 #[.val (.ref ar), .val (.int pp), .val (.int (249 : Int32)), .val (.int (9 : Int32)), .unset, .unset, .unset] [(.int (9 : Int32)), (.ref s_F), (.int (249 : Int32))])) rfl rfl (hb hby d3_19) _ ?_
    show Steps p.tables e below (T4.setTop (mkF m 20 #[.val (.ref ar), .val (.int pp), .val (.int (249 : Int32)), .val (.int (9 : Int32)), .unset, .unset, .unset] [(.int (atv cl_F (9 : Int32))), (.int (249 : Int32))])) _
    rw [F_9]
    show Steps p.tables e below (T4.setTop (mkF m 20 #[.val (.ref ar), .val (.int pp), .val (.int (249 : Int32)), .val (.int (9 : Int32)), .unset, .unset, .unset] [(.int (249 : Int32)), (.int (249 : Int32))])) _
    refine XS.isub X4.here hx rfl (hb hby d3_20) rfl ?_
    show Steps p.tables e below (T4.setTop (mkF m 21 #[.val (.ref ar), .val (.int pp), .val (.int (249 : Int32)), .val (.int (9 : Int32)), .unset, .unset, .unset] [(.int ((249 : Int32) - (249 : Int32)))])) _
    refine XS.i2l X4.here hx rfl (hb hby d3_21) rfl ?_
    show Steps p.tables e below (T4.setTop (mkF m 22 #[.val (.ref ar), .val (.int pp), .val (.int (249 : Int32)), .val (.int (9 : Int32)), .unset, .unset, .unset] [(.long (((249 : Int32) - (249 : Int32)).toInt64))])) _
    refine XS.lstore X4.here hx rfl (hb hby d3_22) rfl (l' := #[.val (.ref ar), .val (.int pp), .val (.int (249 : Int32)), .val (.int (9 : Int32)), .val (.long (((249 : Int32) - (249 : Int32)).toInt64)), .second, .unset]) rfl ?_
    show Steps p.tables e below (T4.setTop (mkF m 24 #[.val (.ref ar), .val (.int pp), .val (.int (249 : Int32)), .val (.int (9 : Int32)), .val (.long (((249 : Int32) - (249 : Int32)).toInt64)), .second, .unset] [])) _
    refine XS.iconst X4.here hx rfl (hb hby d3_24) ?_
    refine XS.istore X4.here hx rfl (hb hby d3_25) rfl (l' := #[.val (.ref ar), .val (.int pp), .val (.int (249 : Int32)), .val (.int (9 : Int32)), .val (.long (((249 : Int32) - (249 : Int32)).toInt64)), .second, .val (.int (1 : Int32))]) rfl ?_
    show Steps p.tables e below (T4.setTop (mkF m 27 #[.val (.ref ar), .val (.int pp), .val (.int (249 : Int32)), .val (.int (9 : Int32)), .val (.long (((249 : Int32) - (249 : Int32)).toInt64)), .second, .val (.int (1 : Int32))] [])) _
    rw [← ho0]
    show Steps p.tables e below (T4.setTop (mkF m 27 #[.val (.ref ar), .val (.int pp), .val (.int (249 : Int32)), .val (.int (9 : Int32)), .val (.long o0), .second, .val (.int (1 : Int32))] [])) _
    refine st6 _ ?_
    show Steps p.tables e below (T6.setTop (mkF m 27 #[.val (.ref ar), .val (.int pp), .val (.int (249 : Int32)), .val (.int (9 : Int32)), .val (.long ((o0 <<< ((8 : Int32) &&& 0x3f).toInt64) ||| ((y1 &&& (255 : Int32)).toInt64))), .second, .val (.int ((1 : Int32) + (1 : Int32)))] [])) _
    rw [← ho1]
    show Steps p.tables e below (T6.setTop (mkF m 27 #[.val (.ref ar), .val (.int pp), .val (.int (249 : Int32)), .val (.int (9 : Int32)), .val (.long o1), .second, .val (.int ((1 : Int32) + (1 : Int32)))] [])) _
    refine st7 _ ?_
    show Steps p.tables e below (T7.setTop (mkF m 27 #[.val (.ref ar), .val (.int pp), .val (.int (249 : Int32)), .val (.int (9 : Int32)), .val (.long ((o1 <<< ((8 : Int32) &&& 0x3f).toInt64) ||| ((y2 &&& (255 : Int32)).toInt64))), .second, .val (.int (((1 : Int32) + (1 : Int32)) + (1 : Int32)))] [])) _
    rw [← ho2]
    show Steps p.tables e below (T7.setTop (mkF m 27 #[.val (.ref ar), .val (.int pp), .val (.int (249 : Int32)), .val (.int (9 : Int32)), .val (.long o2), .second, .val (.int (((1 : Int32) + (1 : Int32)) + (1 : Int32)))] [])) _
    refine XS.iload X7.here hx rfl (hb hby d3_27) rfl ?_
    show Steps p.tables e below (T7.setTop (mkF m 29 #[.val (.ref ar), .val (.int pp), .val (.int (249 : Int32)), .val (.int (9 : Int32)), .val (.long o2), .second, .val (.int (((1 : Int32) + (1 : Int32)) + (1 : Int32)))] [(.int (((1 : Int32) + (1 : Int32)) + (1 : Int32)))])) _
    refine st8 _ ?_
    show Steps p.tables e below (T8.setTop (mkF m 32 #[.val (.ref ar), .val (.int pp), .val (.int (249 : Int32)), .val (.int (9 : Int32)), .val (.long o2), .second, .val (.int (((1 : Int32) + (1 : Int32)) + (1 : Int32)))] [(.ref s_E), (.int (((1 : Int32) + (1 : Int32)) + (1 : Int32)))])) _
    refine XS.iloadN X8.here hx rfl (hb hby d3_32) rfl ?_
    show Steps p.tables e below (T8.setTop (mkF m 33 #[.val (.ref ar), .val (.int pp), .val (.int (249 : Int32)), .val (.int (9 : Int32)), .val (.long o2), .second, .val (.int (((1 : Int32) + (1 : Int32)) + (1 : Int32)))] [(.int (9 : Int32)), (.ref s_E), (.int (((1 : Int32) + (1 : Int32)) + (1 : Int32)))])) _
    refine X8.iaload hx (j := (9 : Int32)) (v := (.int (atv cl_E (9 : Int32)))) (by rw [e8]; exact Sc9.1.1) (State.isArrayOf_alike hZ.alike Sc9.1.2.1) Sc9.1.2.2 hin9 (Sc9.2.2.2 _ hin9) (g := (mkF m 33 #[.val (.ref ar), .val (.int pp), .val (.int (249 : Int32)), .val (.int (9 : Int32)), .val (.long o2), .second, .val (.int (((1 : Int32) + (1 : Int32)) + (1 : Int32)))] [(.int (9 : Int32)), (.ref s_E), (.int (((1 : Int32) + (1 : Int32)) + (1 : Int32)))])) rfl rfl (hb hby d3_33) _ ?_
    show Steps p.tables e below (T8.setTop (mkF m 34 #[.val (.ref ar), .val (.int pp), .val (.int (249 : Int32)), .val (.int (9 : Int32)), .val (.long o2), .second, .val (.int (((1 : Int32) + (1 : Int32)) + (1 : Int32)))] [(.int (atv cl_E (9 : Int32))), (.int (((1 : Int32) + (1 : Int32)) + (1 : Int32)))])) _
    rw [E_9]
    show Steps p.tables e below (T8.setTop (mkF m 34 #[.val (.ref ar), .val (.int pp), .val (.int (249 : Int32)), .val (.int (9 : Int32)), .val (.long o2), .second, .val (.int (((1 : Int32) + (1 : Int32)) + (1 : Int32)))] [(.int (2 : Int32)), (.int (((1 : Int32) + (1 : Int32)) + (1 : Int32)))])) _
    refine XS.icmpYes X8.here hx rfl (pc0 := 34) (pc' := 62) rfl (hb hby d3_34) rfl (tlt (by decide : (2 : Int32) < (((1 : Int32) + (1 : Int32)) + (1 : Int32)))).2.2.1 (by decide) (by decide) ?_
    show Steps p.tables e below (T8.setTop (mkF m 62 #[.val (.ref ar), .val (.int pp), .val (.int (249 : Int32)), .val (.int (9 : Int32)), .val (.long o2), .second, .val (.int (((1 : Int32) + (1 : Int32)) + (1 : Int32)))] [])) _
    refine st10 _ ?_
    show Steps p.tables e below (T10.setTop (mkF m 65 #[.val (.ref ar), .val (.int pp), .val (.int (249 : Int32)), .val (.int (9 : Int32)), .val (.long o2), .second, .val (.int (((1 : Int32) + (1 : Int32)) + (1 : Int32)))] [(.ref s_L)])) _
    refine XS.iloadN X10.here hx rfl (hb hby d3_65) rfl ?_
    show Steps p.tables e below (T10.setTop (mkF m 66 #[.val (.ref ar), .val (.int pp), .val (.int (249 : Int32)), .val (.int (9 : Int32)), .val (.long o2), .second, .val (.int (((1 : Int32) + (1 : Int32)) + (1 : Int32)))] [(.int (9 : Int32)), (.ref s_L)])) _
    refine X10.laload hx (j := (9 : Int32)) (v := (.long (6560 : Int64))) (by rw [e10]; exact Ar11.1) (State.isArrayOf_alike hZ.alike Ar11.2.1) Ar11.2.2 hin11 hat11 (g := (mkF m 66 #[.val (.ref ar), .val (.int pp), .val (.int (249 : Int32)), .val (.int (9 : Int32)), .val (.long o2), .second, .val (.int (((1 : Int32) + (1 : Int32)) + (1 : Int32)))] [(.int (9 : Int32)), (.ref s_L)])) rfl rfl (hb hby d3_66) _ ?_
    show Steps p.tables e below (T10.setTop (mkF m 67 #[.val (.ref ar), .val (.int pp), .val (.int (249 : Int32)), .val (.int (9 : Int32)), .val (.long o2), .second, .val (.int (((1 : Int32) + (1 : Int32)) + (1 : Int32)))] [(.long (6560 : Int64))])) _
    refine XS.lload X10.here hx rfl (hb hby d3_67) rfl ?_
    refine XS.ladd X10.here hx rfl (hb hby d3_69) rfl ?_
    show Steps p.tables e below (T10.setTop (mkF m 70 #[.val (.ref ar), .val (.int pp), .val (.int (249 : Int32)), .val (.int (9 : Int32)), .val (.long o2), .second, .val (.int (((1 : Int32) + (1 : Int32)) + (1 : Int32)))] [(.long ((6560 : Int64) + o2))])) _
    exact retOut X10 hx Bd.returns rfl (Or.inr (Or.inl ⟨rfl, rfl, _, rfl⟩)) (hb hby d3_70) hr
  · show own_Ql (own_val 249 t) h0 n0 _ T10.heap _
    rw [e10]
    exact ⟨_, rfl, N0, rfl, own_d_9 ht0 ht1 ho0 ho1 ho2 hy1 hy2⟩
theorem own_d_10 {o0 o1 o2 o3 : Int64} {y1 y2 y3 : Int32} {t : Int} (ht0 : 0 ≤ t) (ht1 : t < 72057594037927936) (ho0 : o0 = (((250 : Int32) - (250 : Int32)).toInt64)) (ho1 : o1 = ((o0 <<< ((8 : Int32) &&& 0x3f).toInt64) ||| ((y1 &&& (255 : Int32)).toInt64))) (ho2 : o2 = ((o1 <<< ((8 : Int32) &&& 0x3f).toInt64) ||| ((y2 &&& (255 : Int32)).toInt64))) (ho3 : o3 = ((o2 <<< ((8 : Int32) &&& 0x3f).toInt64) ||| ((y3 &&& (255 : Int32)).toInt64))) (hy1 : y1.toInt % 256 = (t / 281474976710656) % 256) (hy2 : y2.toInt % 256 = (t / 1099511627776) % 256) (hy3 : y3.toInt % 256 = (t / 4294967296) % 256) : ((72096 : Int64) + o3).toInt = own_val 250 t := by
  rw [own_val_10 (by decide) (by decide)]
  have cL : ((72096 : Int64)).toInt = 72096 := rfl
  have x0 : o0.toInt = 0 := by rw [ho0]; rfl
  have x1 : o1.toInt = (t / 281474976710656) := by
    rw [ho1, own_step (X := (t / 72057594037927936)) (by omega) (by omega) (by omega), hy1]; omega
  have x2 : o2.toInt = (t / 1099511627776) := by
    rw [ho2, own_step (X := (t / 281474976710656)) (by omega) (by omega) (by omega), hy2]; omega
  have x3 : o3.toInt = (t / 4294967296) := by
    rw [ho3, own_step (X := (t / 1099511627776)) (by omega) (by omega) (by omega), hy3]; omega
  rw [Jvm.Kit.i64_add (by omega) (by omega), cL, x3]
  omega
set_option maxRecDepth 65536 in
set_option maxHeartbeats 40000000 in
theorem r_dec_10 (l : Launch) (Z : State) (a0 : Array Value) (hw : ∀ d ∈ tables_1, d.before a0 Z = true) (ws : List Jvm.Cond) (s_R s_F s_E s_L : Addr) (cl_R cl_F cl_E : Cell) (k_L : ClassId) (h0 : Heap) (n0 : Nat) (O0 : Old Z n0 h0) (G : own_Ctx Z Z.heap s_R s_F s_E s_L cl_R cl_F cl_E k_L) (ar : Addr) (kk : ClassId) (vs : List Value) (pp : Int32) (y0 y1 y2 y3 y4 y5 y6 y7 : Int32) (t : Int) (Va : Arv Z h0 ar kk .byte (11 : Int32) vs (.int (0 : Int32))) (hg : y0 &&& (255 : Int32) = (250 : Int32)) (ht0 : 0 ≤ t) (ht1 : t < 72057594037927936) (hp0 : ¬ (pp < 0) ∧ pp < (11 : Int32)) (hv0 : vs.getD (pp).toNatClampNeg (.int (0 : Int32)) = .int y0) (hp1 : ¬ ((pp + (1 : Int32)) < 0) ∧ (pp + (1 : Int32)) < (11 : Int32)) (hv1 : vs.getD ((pp + (1 : Int32))).toNatClampNeg (.int (0 : Int32)) = .int y1) (hp2 : ¬ ((pp + ((1 : Int32) + (1 : Int32))) < 0) ∧ (pp + ((1 : Int32) + (1 : Int32))) < (11 : Int32)) (hv2 : vs.getD ((pp + ((1 : Int32) + (1 : Int32)))).toNatClampNeg (.int (0 : Int32)) = .int y2) (hp3 : ¬ ((pp + (((1 : Int32) + (1 : Int32)) + (1 : Int32))) < 0) ∧ (pp + (((1 : Int32) + (1 : Int32)) + (1 : Int32))) < (11 : Int32)) (hv3 : vs.getD ((pp + (((1 : Int32) + (1 : Int32)) + (1 : Int32)))).toNatClampNeg (.int (0 : Int32)) = .int y3) (hy1 : y1.toInt % 256 = (t / 281474976710656) % 256) (hy2 : y2.toInt % 256 = (t / 1099511627776) % 256) (hy3 : y3.toInt % 256 = (t / 4294967296) % 256) (hR : atv cl_R (250 : Int32) = (10 : Int32)) :
    MetFree l (⟨"com/example/rattan/rattan/storage/label/ComponentCode", "decode", "([BI)J"⟩ : MethodName) (head1 (Jvm.Cond.code (⟨"com/example/rattan/rattan/storage/label/ComponentCode", "decode", "([BI)J"⟩ : MethodName) prog_41_method_4_code 7 (some .long) :: ws) ({ frames := 0, cells := 0, slots := 0, locals := 0 } : Room)) (fun a U => a = #[(.ref ar), (.int pp)] ∧ Z.Warmed39 U.vm ∧ U.heap = h0) (fun _ _ _ _ _ => True) (fun _ U o U' => ∃ v L, o = .returned v ∧ own_Ql (own_val 250 t) h0 n0 v U'.heap L ∧ FrameEnd U o U' L ({ frames := 0, cells := 0, slots := 0, locals := 0 } : Room).cells ({ frames := 0, cells := 0, slots := 0, locals := 0 } : Room).slots) := by
  have G0 := G
  obtain ⟨S_R, C_R, S_F, C_F, S_E, C_E, S_L, V_L, R_1, R_2, R_3, R_4, R_5, F_0, F_1, F_2, F_3, F_4, F_5, F_6, F_7, F_8, F_9, F_10, F_11, F_12, F_13, F_14, E_0, E_1, E_2, E_3, E_4, E_5, E_6, E_7, E_8, E_9, E_10, E_11, E_12, E_13, E_14⟩ := G
  refine MetFree.of_bodySF (plainFor_of_name pn_1) hisR ?_
  intro p e s m args below meth c s₁ Bd hml0 hP hK
  obtain ⟨rfl, hZ, hh⟩ := hP
  have hx := Bd.exec
  have hby := Bd.bytes
  have hml : c.maxLocals = 7 := hml0
  have hown : s.vm.findClass "com/example/rattan/rattan/storage/label/ComponentCode" = some m.cls := findClass_of_methodNamed Bd.named
  have hnm := (name_of_methodNamed Bd.named Bd.method).1
  have X0 : Stand p l e ({ frames := 0, cells := 0, slots := 0, locals := 0 } : Room) s m #[(.ref ar), (.int pp)] below meth c s₁ [] 0 0 := Stand.of_body Bd
  have e0 : s₁.heap = h0 := by rw [← hh, Bd.state]; rfl
  have N0 := Fr.nil n0
  have pre0 : ∀ t, Steps p.tables e below (s₁.setTop (mkF m 0 #[.val (.ref ar), .val (.int pp), .unset, .unset, .unset, .unset, .unset] [])) t → Steps p.tables e below (s₁.setTop (entryFrame m #[(.ref ar), (.int pp)] 7)) t := fun t k => castTop (ef_3_2 m ar pp) k
  have vc1 := Va
  obtain ⟨cl1, Ar1, qk1, S1, Nn1, Hs1, Gf1⟩ := vc1
  have hin1 : ¬ (pp < 0 ∨ cl1.slots.size ≤ (pp).toNatClampNeg) := inb_of S1 hp0
  have hat1 : cl1.slots[(pp).toNatClampNeg]? = some (.int y0) := Has.at Hs1 hin1 hv0
  obtain ⟨T2, X2, e2, st2⟩ := getS2 X0 hx hZ hown (host := "") (Or.inl (hw _ (List.mem_of_getElem? (i := 15) rfl))) Via.refl e0 (S_R.ext O0.2) (g := (mkF m 8 #[.val (.ref ar), .val (.int pp), .val (.int (250 : Int32)), .unset, .unset, .unset, .unset] [])) rfl (hb hby d3_8)
  have Sc3 := (C_R.ext O0.2)
  have hin3 : ¬ ((250 : Int32) < 0 ∨ cl_R.slots.size ≤ ((250 : Int32)).toNatClampNeg) := inb_of Sc3.2.1 ⟨by decide, by decide⟩
  obtain ⟨T4, X4, e4, st4⟩ := getS2 X2 hx hZ hown (host := "") (Or.inl (hw _ (List.mem_of_getElem? (i := 17) rfl))) Via.refl e2 (S_F.ext O0.2) (g := (mkF m 15 #[.val (.ref ar), .val (.int pp), .val (.int (250 : Int32)), .val (.int (10 : Int32)), .unset, .unset, .unset] [(.int (250 : Int32))])) rfl (hb hby d3_15)
  have Sc5 := (C_F.ext O0.2)
  have hin5 : ¬ ((10 : Int32) < 0 ∨ cl_F.slots.size ≤ ((10 : Int32)).toNatClampNeg) := inb_of Sc5.2.1 ⟨by decide, by decide⟩
  obtain ⟨o0, ho0⟩ : ∃ z : Int64, z = (((250 : Int32) - (250 : Int32)).toInt64) := ⟨_, rfl⟩
  obtain ⟨T6, X6, e6, st6⟩ := t_dec s_R s_F s_E s_L cl_R cl_F cl_E k_L ar kk vs pp (250 : Int32) (10 : Int32) o0 (1 : Int32) (3 : Int32) y1 X4 hx hZ hw hby hml hown e4 O0 G0 Va ⟨by decide, by decide⟩ E_10 (by decide) hp1 hv1
  obtain ⟨o1, ho1⟩ : ∃ z : Int64, z = ((o0 <<< ((8 : Int32) &&& 0x3f).toInt64) ||| ((y1 &&& (255 : Int32)).toInt64)) := ⟨_, rfl⟩
  obtain ⟨T7, X7, e7, st7⟩ := t_dec s_R s_F s_E s_L cl_R cl_F cl_E k_L ar kk vs pp (250 : Int32) (10 : Int32) o1 ((1 : Int32) + (1 : Int32)) (3 : Int32) y2 X6 hx hZ hw hby hml hown e6 O0 G0 Va ⟨by decide, by decide⟩ E_10 (by decide) hp2 hv2
  obtain ⟨o2, ho2⟩ : ∃ z : Int64, z = ((o1 <<< ((8 : Int32) &&& 0x3f).toInt64) ||| ((y2 &&& (255 : Int32)).toInt64)) := ⟨_, rfl⟩
  obtain ⟨T8, X8, e8, st8⟩ := t_dec s_R s_F s_E s_L cl_R cl_F cl_E k_L ar kk vs pp (250 : Int32) (10 : Int32) o2 (((1 : Int32) + (1 : Int32)) + (1 : Int32)) (3 : Int32) y3 X7 hx hZ hw hby hml hown e7 O0 G0 Va ⟨by decide, by decide⟩ E_10 (by decide) hp3 hv3
  obtain ⟨o3, ho3⟩ : ∃ z : Int64, z = ((o2 <<< ((8 : Int32) &&& 0x3f).toInt64) ||| ((y3 &&& (255 : Int32)).toInt64)) := ⟨_, rfl⟩
  obtain ⟨T9, X9, e9, st9⟩ := getS2 X8 hx hZ hown (host := "") (Or.inl (hw _ (List.mem_of_getElem? (i := 19) rfl))) Via.refl e8 (S_E.ext O0.2) (g := (mkF m 29 #[.val (.ref ar), .val (.int pp), .val (.int (250 : Int32)), .val (.int (10 : Int32)), .val (.long o3), .second, .val (.int ((((1 : Int32) + (1 : Int32)) + (1 : Int32)) + (1 : Int32)))] [(.int ((((1 : Int32) + (1 : Int32)) + (1 : Int32)) + (1 : Int32)))])) rfl (hb hby d3_29)
  have Sc10 := (C_E.ext O0.2)
  have hin10 : ¬ ((10 : Int32) < 0 ∨ cl_E.slots.size ≤ ((10 : Int32)).toNatClampNeg) := inb_of Sc10.2.1 ⟨by decide, by decide⟩
  obtain ⟨T11, X11, e11, st11⟩ := getS2 X9 hx hZ hown (host := "") (Or.inl (hw _ (List.mem_of_getElem? (i := 21) rfl))) Via.refl e9 (S_L.ext O0.2) (g := (mkF m 62 #[.val (.ref ar), .val (.int pp), .val (.int (250 : Int32)), .val (.int (10 : Int32)), .val (.long o3), .second, .val (.int ((((1 : Int32) + (1 : Int32)) + (1 : Int32)) + (1 : Int32)))] [])) rfl (hb hby d3_62)
  have vc12 := (V_L.ext O0.2)
  obtain ⟨cl12, Ar12, qk12, S12, Nn12, Hs12, Gf12⟩ := vc12
  have hin12 : ¬ ((10 : Int32) < 0 ∨ cl12.slots.size ≤ ((10 : Int32)).toNatClampNeg) := inb_of S12 ⟨by decide, by decide⟩
  have hat12 : cl12.slots[((10 : Int32)).toNatClampNeg]? = some (.long (72096 : Int64)) := Has.at Hs12 hin12 rfl
  obtain ⟨fs, hr, hrun, hended, hW, hsame⟩ := X11.leave (v := some (.long ((72096 : Int64) + o3))) (fun h => by rw [Bd.returns] at h; cases h)
  refine ⟨_, _, pre0 _ ?_, hrun, hended, _, _, rfl, ?_, ⟨_, rfl⟩, hW, hsame.mono (by decide) (by decide)⟩
  · show Steps p.tables e below (s₁.setTop (mkF m 0 #[.val (.ref ar), .val (.int pp), .unset, .unset, .unset, .unset, .unset] [])) _
    refine XS.aloadN X0.here hx rfl (hb hby d3_0) rfl rfl ?_
    refine XS.iloadN X0.here hx rfl (hb hby d3_1) rfl ?_
    show Steps p.tables e below (s₁.setTop (mkF m 2 #[.val (.ref ar), .val (.int pp), .unset, .unset, .unset, .unset, .unset] [(.int pp), (.ref ar)])) _
    refine X0.baloadBytes hx (j := pp) (v := (.int y0)) (by rw [e0]; exact Ar1.1) (State.isArrayOf_alike hZ.alike Ar1.2.1) Ar1.2.2 hin1 hat1 (g := (mkF m 2 #[.val (.ref ar), .val (.int pp), .unset, .unset, .unset, .unset, .unset] [(.int pp), (.ref ar)])) rfl rfl (hb hby d3_2) _ ?_
    show Steps p.tables e below (s₁.setTop (mkF m 3 #[.val (.ref ar), .val (.int pp), .unset, .unset, .unset, .unset, .unset] [(.int y0)])) _
    refine XS.sipush X0.here hx rfl (hb hby d3_3) ?_
    refine XS.iand X0.here hx rfl (hb hby d3_6) rfl ?_
    show Steps p.tables e below (s₁.setTop (mkF m 7 #[.val (.ref ar), .val (.int pp), .unset, .unset, .unset, .unset, .unset] [(.int (y0 &&& (255 : Int32)))])) _
    rw [hg]
    refine XS.istoreN X0.here hx rfl (hb hby d3_7) rfl (l' := #[.val (.ref ar), .val (.int pp), .val (.int (250 : Int32)), .unset, .unset, .unset, .unset]) rfl ?_
    show Steps p.tables e below (s₁.setTop (mkF m 8 #[.val (.ref ar), .val (.int pp), .val (.int (250 : Int32)), .unset, .unset, .unset, .unset] [])) _
    refine st2 _ ?_
    show Steps p.tables e below (T2.setTop (mkF m 11 #[.val (.ref ar), .val (.int pp), .val (.int (250 : Int32)), .unset, .unset, .unset, .unset] [(.ref s_R)])) _
    refine XS.iloadN X2.here hx rfl (hb hby d3_11) rfl ?_
    show Steps p.tables e below (T2.setTop (mkF m 12 #[.val (.ref ar), .val (.int pp), .val (.int (250 : Int32)), .unset, .unset, .unset, .unset] [(.int (250 : Int32)), (.ref s_R)])) _
    refine X2.iaload hx (j := (250 : Int32)) (v := (.int (atv cl_R (250 : Int32)))) (by rw [e2]; exact Sc3.1.1) (State.isArrayOf_alike hZ.alike Sc3.1.2.1) Sc3.1.2.2 hin3 (Sc3.2.2.2 _ hin3) (g := (mkF m 12 #[.val (.ref ar), .val (.int pp), .val (.int (250 : Int32)), .unset, .unset, .unset, .unset] [(.int (250 : Int32)), (.ref s_R)])) rfl rfl (hb hby d3_12) _ ?_
    show Steps p.tables e below (T2.setTop (mkF m 13 #[.val (.ref ar), .val (.int pp), .val (.int (250 : Int32)), .unset, .unset, .unset, .unset] [(.int (atv cl_R (250 : Int32)))])) _
    rw [hR]
    show Steps p.tables e below (T2.setTop (mkF m 13 #[.val (.ref ar), .val (.int pp), .val (.int (250 : Int32)), .unset, .unset, .unset, .unset] [(.int (10 : Int32))])) _
    refine XS.istoreN X2.here hx rfl (hb hby d3_13) rfl (l' := #[.val (.ref ar), .val (.int pp), .val (.int (250 : Int32)), .val (.int (10 : Int32)), .unset, .unset, .unset]) rfl ?_
    show Steps p.tables e below (T2.setTop (mkF m 14 #[.val (.ref ar), .val (.int pp), .val (.int (250 : Int32)), .val (.int (10 : Int32)), .unset, .unset, .unset] [])) _
    refine XS.iloadN X2.here hx rfl (hb hby d3_14) rfl ?_
    show Steps p.tables e below (T2.setTop (mkF m 15 #[.val (.ref ar), .val (.int pp), .val (.int (250 : Int32)), .val (.int (10 : Int32)), .unset, .unset, .unset] [(.int (250 : Int32))])) _
    refine st4 _ ?_
    show Steps p.tables e below (T4.setTop (mkF m 18 #[.val (.ref ar), .val (.int pp), .val (.int (250 : Int32)), .val (.int (10 : Int32)), .unset, .unset, .unset] [(.ref s_F), (.int (250 : Int32))])) _
    refine XS.iloadN X4.here hx rfl (hb hby d3_18) rfl ?_
    show Steps p.tables e below (T4.setTop (mkF m 19 #[.val (.ref ar), .val (.int pp), .val (.int (250 : Int32)), .val (.int (10 : Int32)), .unset, .unset, .unset] [(.int (10 : Int32)), (.ref s_F), (.int (250 : Int32))])) _
    refine X4.iaload hx (j := (10 : Int32)) (v := (.int (atv cl_F (10 : Int32)))) (by rw [e4]; exact Sc5.1.1) (State.isArrayOf_alike hZ.alike Sc5.1.2.1) Sc5.1.2.2 hin5 (Sc5.2.2.2 _ hin5) (g := (mkF m 19 #[.val (.ref ar), .val (.int pp), .val (.int (250 : Int32)), .val (.int (10 : Int32)), .unset, .unset, .unset] [(.int (10 : Int32)), (.ref s_F), (.int (250 : Int32))])) rfl rfl (hb hby d3_19) _ ?_
    show Steps p.tables e below (T4.setTop (mkF m 20 #[.val (.ref ar), .val (.int pp), .val (.int (250 : Int32)), .val (.int (10 : Int32)), .unset, .unset, .unset] [(.int (atv cl_F (10 : Int32))), (.int (250 : Int32))])) _
    rw [F_10]
    show Steps p.tables e below (T4.setTop (mkF m 20 #[.val (.ref ar), .val (.int pp), .val (.int (250 : Int32)), .val (.int (10 : Int32)), .unset, .unset, .unset] [(.int (250 : Int32)), (.int (250 : Int32))])) _
    refine XS.isub X4.here hx rfl (hb hby d3_20) rfl ?_
    show Steps p.tables e below (T4.setTop (mkF m 21 #[.val (.ref ar), .val (.int pp), .val (.int (250 : Int32)), .val (.int (10 : Int32)), .unset, .unset, .unset] [(.int ((250 : Int32) - (250 : Int32)))])) _
    refine XS.i2l X4.here hx rfl (hb hby d3_21) rfl ?_
    show Steps p.tables e below (T4.setTop (mkF m 22 #[.val (.ref ar), .val (.int pp), .val (.int (250 : Int32)), .val (.int (10 : Int32)), .unset, .unset, .unset] [(.long (((250 : Int32) - (250 : Int32)).toInt64))])) _
    refine XS.lstore X4.here hx rfl (hb hby d3_22) rfl (l' := #[.val (.ref ar), .val (.int pp), .val (.int (250 : Int32)), .val (.int (10 : Int32)), .val (.long (((250 : Int32) - (250 : Int32)).toInt64)), .second, .unset]) rfl ?_
    show Steps p.tables e below (T4.setTop (mkF m 24 #[.val (.ref ar), .val (.int pp), .val (.int (250 : Int32)), .val (.int (10 : Int32)), .val (.long (((250 : Int32) - (250 : Int32)).toInt64)), .second, .unset] [])) _
    refine XS.iconst X4.here hx rfl (hb hby d3_24) ?_
    refine XS.istore X4.here hx rfl (hb hby d3_25) rfl (l' := #[.val (.ref ar), .val (.int pp), .val (.int (250 : Int32)), .val (.int (10 : Int32)), .val (.long (((250 : Int32) - (250 : Int32)).toInt64)), .second, .val (.int (1 : Int32))]) rfl ?_
    show Steps p.tables e below (T4.setTop (mkF m 27 #[.val (.ref ar), .val (.int pp), .val (.int (250 : Int32)), .val (.int (10 : Int32)), .val (.long (((250 : Int32) - (250 : Int32)).toInt64)), .second, .val (.int (1 : Int32))] [])) _
    rw [← ho0]
    show Steps p.tables e below (T4.setTop (mkF m 27 #[.val (.ref ar), .val (.int pp), .val (.int (250 : Int32)), .val (.int (10 : Int32)), .val (.long o0), .second, .val (.int (1 : Int32))] [])) _
    refine st6 _ ?_
    show Steps p.tables e below (T6.setTop (mkF m 27 #[.val (.ref ar), .val (.int pp), .val (.int (250 : Int32)), .val (.int (10 : Int32)), .val (.long ((o0 <<< ((8 : Int32) &&& 0x3f).toInt64) ||| ((y1 &&& (255 : Int32)).toInt64))), .second, .val (.int ((1 : Int32) + (1 : Int32)))] [])) _
    rw [← ho1]
    show Steps p.tables e below (T6.setTop (mkF m 27 #[.val (.ref ar), .val (.int pp), .val (.int (250 : Int32)), .val (.int (10 : Int32)), .val (.long o1), .second, .val (.int ((1 : Int32) + (1 : Int32)))] [])) _
    refine st7 _ ?_
    show Steps p.tables e below (T7.setTop (mkF m 27 #[.val (.ref ar), .val (.int pp), .val (.int (250 : Int32)), .val (.int (10 : Int32)), .val (.long ((o1 <<< ((8 : Int32) &&& 0x3f).toInt64) ||| ((y2 &&& (255 : Int32)).toInt64))), .second, .val (.int (((1 : Int32) + (1 : Int32)) + (1 : Int32)))] [])) _
    rw [← ho2]
    show Steps p.tables e below (T7.setTop (mkF m 27 #[.val (.ref ar), .val (.int pp), .val (.int (250 : Int32)), .val (.int (10 : Int32)), .val (.long o2), .second, .val (.int (((1 : Int32) + (1 : Int32)) + (1 : Int32)))] [])) _
    refine st8 _ ?_
    show Steps p.tables e below (T8.setTop (mkF m 27 #[.val (.ref ar), .val (.int pp), .val (.int (250 : Int32)), .val (.int (10 : Int32)), .val (.long ((o2 <<< ((8 : Int32) &&& 0x3f).toInt64) ||| ((y3 &&& (255 : Int32)).toInt64))), .second, .val (.int ((((1 : Int32) + (1 : Int32)) + (1 : Int32)) + (1 : Int32)))] [])) _
    rw [← ho3]
    show Steps p.tables e below (T8.setTop (mkF m 27 #[.val (.ref ar), .val (.int pp), .val (.int (250 : Int32)), .val (.int (10 : Int32)), .val (.long o3), .second, .val (.int ((((1 : Int32) + (1 : Int32)) + (1 : Int32)) + (1 : Int32)))] [])) _
    refine XS.iload X8.here hx rfl (hb hby d3_27) rfl ?_
    show Steps p.tables e below (T8.setTop (mkF m 29 #[.val (.ref ar), .val (.int pp), .val (.int (250 : Int32)), .val (.int (10 : Int32)), .val (.long o3), .second, .val (.int ((((1 : Int32) + (1 : Int32)) + (1 : Int32)) + (1 : Int32)))] [(.int ((((1 : Int32) + (1 : Int32)) + (1 : Int32)) + (1 : Int32)))])) _
    refine st9 _ ?_
    show Steps p.tables e below (T9.setTop (mkF m 32 #[.val (.ref ar), .val (.int pp), .val (.int (250 : Int32)), .val (.int (10 : Int32)), .val (.long o3), .second, .val (.int ((((1 : Int32) + (1 : Int32)) + (1 : Int32)) + (1 : Int32)))] [(.ref s_E), (.int ((((1 : Int32) + (1 : Int32)) + (1 : Int32)) + (1 : Int32)))])) _
    refine XS.iloadN X9.here hx rfl (hb hby d3_32) rfl ?_
    show Steps p.tables e below (T9.setTop (mkF m 33 #[.val (.ref ar), .val (.int pp), .val (.int (250 : Int32)), .val (.int (10 : Int32)), .val (.long o3), .second, .val (.int ((((1 : Int32) + (1 : Int32)) + (1 : Int32)) + (1 : Int32)))] [(.int (10 : Int32)), (.ref s_E), (.int ((((1 : Int32) + (1 : Int32)) + (1 : Int32)) + (1 : Int32)))])) _
    refine X9.iaload hx (j := (10 : Int32)) (v := (.int (atv cl_E (10 : Int32)))) (by rw [e9]; exact Sc10.1.1) (State.isArrayOf_alike hZ.alike Sc10.1.2.1) Sc10.1.2.2 hin10 (Sc10.2.2.2 _ hin10) (g := (mkF m 33 #[.val (.ref ar), .val (.int pp), .val (.int (250 : Int32)), .val (.int (10 : Int32)), .val (.long o3), .second, .val (.int ((((1 : Int32) + (1 : Int32)) + (1 : Int32)) + (1 : Int32)))] [(.int (10 : Int32)), (.ref s_E), (.int ((((1 : Int32) + (1 : Int32)) + (1 : Int32)) + (1 : Int32)))])) rfl rfl (hb hby d3_33) _ ?_
    show Steps p.tables e below (T9.setTop (mkF m 34 #[.val (.ref ar), .val (.int pp), .val (.int (250 : Int32)), .val (.int (10 : Int32)), .val (.long o3), .second, .val (.int ((((1 : Int32) + (1 : Int32)) + (1 : Int32)) + (1 : Int32)))] [(.int (atv cl_E (10 : Int32))), (.int ((((1 : Int32) + (1 : Int32)) + (1 : Int32)) + (1 : Int32)))])) _
    rw [E_10]
    show Steps p.tables e below (T9.setTop (mkF m 34 #[.val (.ref ar), .val (.int pp), .val (.int (250 : Int32)), .val (.int (10 : Int32)), .val (.long o3), .second, .val (.int ((((1 : Int32) + (1 : Int32)) + (1 : Int32)) + (1 : Int32)))] [(.int (3 : Int32)), (.int ((((1 : Int32) + (1 : Int32)) + (1 : Int32)) + (1 : Int32)))])) _
    refine XS.icmpYes X9.here hx rfl (pc0 := 34) (pc' := 62) rfl (hb hby d3_34) rfl (tlt (by decide : (3 : Int32) < ((((1 : Int32) + (1 : Int32)) + (1 : Int32)) + (1 : Int32)))).2.2.1 (by decide) (by decide) ?_
    show Steps p.tables e below (T9.setTop (mkF m 62 #[.val (.ref ar), .val (.int pp), .val (.int (250 : Int32)), .val (.int (10 : Int32)), .val (.long o3), .second, .val (.int ((((1 : Int32) + (1 : Int32)) + (1 : Int32)) + (1 : Int32)))] [])) _
    refine st11 _ ?_
    show Steps p.tables e below (T11.setTop (mkF m 65 #[.val (.ref ar), .val (.int pp), .val (.int (250 : Int32)), .val (.int (10 : Int32)), .val (.long o3), .second, .val (.int ((((1 : Int32) + (1 : Int32)) + (1 : Int32)) + (1 : Int32)))] [(.ref s_L)])) _
    refine XS.iloadN X11.here hx rfl (hb hby d3_65) rfl ?_
    show Steps p.tables e below (T11.setTop (mkF m 66 #[.val (.ref ar), .val (.int pp), .val (.int (250 : Int32)), .val (.int (10 : Int32)), .val (.long o3), .second, .val (.int ((((1 : Int32) + (1 : Int32)) + (1 : Int32)) + (1 : Int32)))] [(.int (10 : Int32)), (.ref s_L)])) _
    refine X11.laload hx (j := (10 : Int32)) (v := (.long (72096 : Int64))) (by rw [e11]; exact Ar12.1) (State.isArrayOf_alike hZ.alike Ar12.2.1) Ar12.2.2 hin12 hat12 (g := (mkF m 66 #[.val (.ref ar), .val (.int pp), .val (.int (250 : Int32)), .val (.int (10 : Int32)), .val (.long o3), .second, .val (.int ((((1 : Int32) + (1 : Int32)) + (1 : Int32)) + (1 : Int32)))] [(.int (10 : Int32)), (.ref s_L)])) rfl rfl (hb hby d3_66) _ ?_
    show Steps p.tables e below (T11.setTop (mkF m 67 #[.val (.ref ar), .val (.int pp), .val (.int (250 : Int32)), .val (.int (10 : Int32)), .val (.long o3), .second, .val (.int ((((1 : Int32) + (1 : Int32)) + (1 : Int32)) + (1 : Int32)))] [(.long (72096 : Int64))])) _
    refine XS.lload X11.here hx rfl (hb hby d3_67) rfl ?_
    refine XS.ladd X11.here hx rfl (hb hby d3_69) rfl ?_
    show Steps p.tables e below (T11.setTop (mkF m 70 #[.val (.ref ar), .val (.int pp), .val (.int (250 : Int32)), .val (.int (10 : Int32)), .val (.long o3), .second, .val (.int ((((1 : Int32) + (1 : Int32)) + (1 : Int32)) + (1 : Int32)))] [(.long ((72096 : Int64) + o3))])) _
    exact retOut X11 hx Bd.returns rfl (Or.inr (Or.inl ⟨rfl, rfl, _, rfl⟩)) (hb hby d3_70) hr
  · show own_Ql (own_val 250 t) h0 n0 _ T11.heap _
    rw [e11]
    exact ⟨_, rfl, N0, rfl, own_d_10 ht0 ht1 ho0 ho1 ho2 ho3 hy1 hy2 hy3⟩
theorem own_d_11 {o0 o1 o2 o3 o4 : Int64} {y1 y2 y3 y4 : Int32} {t : Int} (ht0 : 0 ≤ t) (ht1 : t < 72057594037927936) (ho0 : o0 = (((251 : Int32) - (251 : Int32)).toInt64)) (ho1 : o1 = ((o0 <<< ((8 : Int32) &&& 0x3f).toInt64) ||| ((y1 &&& (255 : Int32)).toInt64))) (ho2 : o2 = ((o1 <<< ((8 : Int32) &&& 0x3f).toInt64) ||| ((y2 &&& (255 : Int32)).toInt64))) (ho3 : o3 = ((o2 <<< ((8 : Int32) &&& 0x3f).toInt64) ||| ((y3 &&& (255 : Int32)).toInt64))) (ho4 : o4 = ((o3 <<< ((8 : Int32) &&& 0x3f).toInt64) ||| ((y4 &&& (255 : Int32)).toInt64))) (hy1 : y1.toInt % 256 = (t / 281474976710656) % 256) (hy2 : y2.toInt % 256 = (t / 1099511627776) % 256) (hy3 : y3.toInt % 256 = (t / 4294967296) % 256) (hy4 : y4.toInt % 256 = (t / 16777216) % 256) : ((16849312 : Int64) + o4).toInt = own_val 251 t := by
  rw [own_val_11 (by decide) (by decide)]
  have cL : ((16849312 : Int64)).toInt = 16849312 := rfl
  have x0 : o0.toInt = 0 := by rw [ho0]; rfl
  have x1 : o1.toInt = (t / 281474976710656) := by
    rw [ho1, own_step (X := (t / 72057594037927936)) (by omega) (by omega) (by omega), hy1]; omega
  have x2 : o2.toInt = (t / 1099511627776) := by
    rw [ho2, own_step (X := (t / 281474976710656)) (by omega) (by omega) (by omega), hy2]; omega
  have x3 : o3.toInt = (t / 4294967296) := by
    rw [ho3, own_step (X := (t / 1099511627776)) (by omega) (by omega) (by omega), hy3]; omega
  have x4 : o4.toInt = (t / 16777216) := by
    rw [ho4, own_step (X := (t / 4294967296)) (by omega) (by omega) (by omega), hy4]; omega
  rw [Jvm.Kit.i64_add (by omega) (by omega), cL, x4]
  omega
set_option maxRecDepth 65536 in
set_option maxHeartbeats 40000000 in
theorem r_dec_11 (l : Launch) (Z : State) (a0 : Array Value) (hw : ∀ d ∈ tables_1, d.before a0 Z = true) (ws : List Jvm.Cond) (s_R s_F s_E s_L : Addr) (cl_R cl_F cl_E : Cell) (k_L : ClassId) (h0 : Heap) (n0 : Nat) (O0 : Old Z n0 h0) (G : own_Ctx Z Z.heap s_R s_F s_E s_L cl_R cl_F cl_E k_L) (ar : Addr) (kk : ClassId) (vs : List Value) (pp : Int32) (y0 y1 y2 y3 y4 y5 y6 y7 : Int32) (t : Int) (Va : Arv Z h0 ar kk .byte (11 : Int32) vs (.int (0 : Int32))) (hg : y0 &&& (255 : Int32) = (251 : Int32)) (ht0 : 0 ≤ t) (ht1 : t < 72057594037927936) (hp0 : ¬ (pp < 0) ∧ pp < (11 : Int32)) (hv0 : vs.getD (pp).toNatClampNeg (.int (0 : Int32)) = .int y0) (hp1 : ¬ ((pp + (1 : Int32)) < 0) ∧ (pp + (1 : Int32)) < (11 : Int32)) (hv1 : vs.getD ((pp + (1 : Int32))).toNatClampNeg (.int (0 : Int32)) = .int y1) (hp2 : ¬ ((pp + ((1 : Int32) + (1 : Int32))) < 0) ∧ (pp + ((1 : Int32) + (1 : Int32))) < (11 : Int32)) (hv2 : vs.getD ((pp + ((1 : Int32) + (1 : Int32)))).toNatClampNeg (.int (0 : Int32)) = .int y2) (hp3 : ¬ ((pp + (((1 : Int32) + (1 : Int32)) + (1 : Int32))) < 0) ∧ (pp + (((1 : Int32) + (1 : Int32)) + (1 : Int32))) < (11 : Int32)) (hv3 : vs.getD ((pp + (((1 : Int32) + (1 : Int32)) + (1 : Int32)))).toNatClampNeg (.int (0 : Int32)) = .int y3) (hp4 : ¬ ((pp + ((((1 : Int32) + (1 : Int32)) + (1 : Int32)) + (1 : Int32))) < 0) ∧ (pp + ((((1 : Int32) + (1 : Int32)) + (1 : Int32)) + (1 : Int32))) < (11 : Int32)) (hv4 : vs.getD ((pp + ((((1 : Int32) + (1 : Int32)) + (1 : Int32)) + (1 : Int32)))).toNatClampNeg (.int (0 : Int32)) = .int y4) (hy1 : y1.toInt % 256 = (t / 281474976710656) % 256) (hy2 : y2.toInt % 256 = (t / 1099511627776) % 256) (hy3 : y3.toInt % 256 = (t / 4294967296) % 256) (hy4 : y4.toInt % 256 = (t / 16777216) % 256) (hR : atv cl_R (251 : Int32) = (11 : Int32)) :
    MetFree l (⟨"com/example/rattan/rattan/storage/label/ComponentCode", "decode", "([BI)J"⟩ : MethodName) (head1 (Jvm.Cond.code (⟨"com/example/rattan/rattan/storage/label/ComponentCode", "decode", "([BI)J"⟩ : MethodName) prog_41_method_4_code 7 (some .long) :: ws) ({ frames := 0, cells := 0, slots := 0, locals := 0 } : Room)) (fun a U => a = #[(.ref ar), (.int pp)] ∧ Z.Warmed39 U.vm ∧ U.heap = h0) (fun _ _ _ _ _ => True) (fun _ U o U' => ∃ v L, o = .returned v ∧ own_Ql (own_val 251 t) h0 n0 v U'.heap L ∧ FrameEnd U o U' L ({ frames := 0, cells := 0, slots := 0, locals := 0 } : Room).cells ({ frames := 0, cells := 0, slots := 0, locals := 0 } : Room).slots) := by
  have G0 := G
  obtain ⟨S_R, C_R, S_F, C_F, S_E, C_E, S_L, V_L, R_1, R_2, R_3, R_4, R_5, F_0, F_1, F_2, F_3, F_4, F_5, F_6, F_7, F_8, F_9, F_10, F_11, F_12, F_13, F_14, E_0, E_1, E_2, E_3, E_4, E_5, E_6, E_7, E_8, E_9, E_10, E_11, E_12, E_13, E_14⟩ := G
  refine MetFree.of_bodySF (plainFor_of_name pn_1) hisR ?_
  intro p e s m args below meth c s₁ Bd hml0 hP hK
  obtain ⟨rfl, hZ, hh⟩ := hP
  have hx := Bd.exec
  have hby := Bd.bytes
  have hml : c.maxLocals = 7 := hml0
  have hown : s.vm.findClass "com/example/rattan/rattan/storage/label/ComponentCode" = some m.cls := findClass_of_methodNamed Bd.named
  have hnm := (name_of_methodNamed Bd.named Bd.method).1
  have X0 : Stand p l e ({ frames := 0, cells := 0, slots := 0, locals := 0 } : Room) s m #[(.ref ar), (.int pp)] below meth c s₁ [] 0 0 := Stand.of_body Bd
  have e0 : s₁.heap = h0 := by rw [← hh, Bd.state]; rfl
  have N0 := Fr.nil n0
  have pre0 : ∀ t, Steps p.tables e below (s₁.setTop (mkF m 0 #[.val (.ref ar), .val (.int pp), .unset, .unset, .unset, .unset, .unset] [])) t → Steps p.tables e below (s₁.setTop (entryFrame m #[(.ref ar), (.int pp)] 7)) t := fun t k => castTop (ef_3_2 m ar pp) k
  have vc1 := Va
  obtain ⟨cl1, Ar1, qk1, S1, Nn1, Hs1, Gf1⟩ := vc1
  have hin1 : ¬ (pp < 0 ∨ cl1.slots.size ≤ (pp).toNatClampNeg) := inb_of S1 hp0
  have hat1 : cl1.slots[(pp).toNatClampNeg]? = some (.int y0) := Has.at Hs1 hin1 hv0
  obtain ⟨T2, X2, e2, st2⟩ := getS2 X0 hx hZ hown (host := "") (Or.inl (hw _ (List.mem_of_getElem? (i := 15) rfl))) Via.refl e0 (S_R.ext O0.2) (g := (mkF m 8 #[.val (.ref ar), .val (.int pp), .val (.int (251 : Int32)), .unset, .unset, .unset, .unset] [])) rfl (hb hby d3_8)
  have Sc3 := (C_R.ext O0.2)
  have hin3 : ¬ ((251 : Int32) < 0 ∨ cl_R.slots.size ≤ ((251 : Int32)).toNatClampNeg) := inb_of Sc3.2.1 ⟨by decide, by decide⟩
  obtain ⟨T4, X4, e4, st4⟩ := getS2 X2 hx hZ hown (host := "") (Or.inl (hw _ (List.mem_of_getElem? (i := 17) rfl))) Via.refl e2 (S_F.ext O0.2) (g := (mkF m 15 #[.val (.ref ar), .val (.int pp), .val (.int (251 : Int32)), .val (.int (11 : Int32)), .unset, .unset, .unset] [(.int (251 : Int32))])) rfl (hb hby d3_15)
  have Sc5 := (C_F.ext O0.2)
  have hin5 : ¬ ((11 : Int32) < 0 ∨ cl_F.slots.size ≤ ((11 : Int32)).toNatClampNeg) := inb_of Sc5.2.1 ⟨by decide, by decide⟩
  obtain ⟨o0, ho0⟩ : ∃ z : Int64, z = (((251 : Int32) - (251 : Int32)).toInt64) := ⟨_, rfl⟩
  obtain ⟨T6, X6, e6, st6⟩ := t_dec s_R s_F s_E s_L cl_R cl_F cl_E k_L ar kk vs pp (251 : Int32) (11 : Int32) o0 (1 : Int32) (4 : Int32) y1 X4 hx hZ hw hby hml hown e4 O0 G0 Va ⟨by decide, by decide⟩ E_11 (by decide) hp1 hv1
  obtain ⟨o1, ho1⟩ : ∃ z : Int64, z = ((o0 <<< ((8 : Int32) &&& 0x3f).toInt64) ||| ((y1 &&& (255 : Int32)).toInt64)) := ⟨_, rfl⟩
  obtain ⟨T7, X7, e7, st7⟩ := t_dec s_R s_F s_E s_L cl_R cl_F cl_E k_L ar kk vs pp (251 : Int32) (11 : Int32) o1 ((1 : Int32) + (1 : Int32)) (4 : Int32) y2 X6 hx hZ hw hby hml hown e6 O0 G0 Va ⟨by decide, by decide⟩ E_11 (by decide) hp2 hv2
  obtain ⟨o2, ho2⟩ : ∃ z : Int64, z = ((o1 <<< ((8 : Int32) &&& 0x3f).toInt64) ||| ((y2 &&& (255 : Int32)).toInt64)) := ⟨_, rfl⟩
  obtain ⟨T8, X8, e8, st8⟩ := t_dec s_R s_F s_E s_L cl_R cl_F cl_E k_L ar kk vs pp (251 : Int32) (11 : Int32) o2 (((1 : Int32) + (1 : Int32)) + (1 : Int32)) (4 : Int32) y3 X7 hx hZ hw hby hml hown e7 O0 G0 Va ⟨by decide, by decide⟩ E_11 (by decide) hp3 hv3
  obtain ⟨o3, ho3⟩ : ∃ z : Int64, z = ((o2 <<< ((8 : Int32) &&& 0x3f).toInt64) ||| ((y3 &&& (255 : Int32)).toInt64)) := ⟨_, rfl⟩
  obtain ⟨T9, X9, e9, st9⟩ := t_dec s_R s_F s_E s_L cl_R cl_F cl_E k_L ar kk vs pp (251 : Int32) (11 : Int32) o3 ((((1 : Int32) + (1 : Int32)) + (1 : Int32)) + (1 : Int32)) (4 : Int32) y4 X8 hx hZ hw hby hml hown e8 O0 G0 Va ⟨by decide, by decide⟩ E_11 (by decide) hp4 hv4
  obtain ⟨o4, ho4⟩ : ∃ z : Int64, z = ((o3 <<< ((8 : Int32) &&& 0x3f).toInt64) ||| ((y4 &&& (255 : Int32)).toInt64)) := ⟨_, rfl⟩
  obtain ⟨T10, X10, e10, st10⟩ := getS2 X9 hx hZ hown (host := "") (Or.inl (hw _ (List.mem_of_getElem? (i := 19) rfl))) Via.refl e9 (S_E.ext O0.2) (g := (mkF m 29 #[.val (.ref ar), .val (.int pp), .val (.int (251 : Int32)), .val (.int (11 : Int32)), .val (.long o4), .second, .val (.int (((((1 : Int32) + (1 : Int32)) + (1 : Int32)) + (1 : Int32)) + (1 : Int32)))] [(.int (((((1 : Int32) + (1 : Int32)) + (1 : Int32)) + (1 : Int32)) + (1 : Int32)))])) rfl (hb hby d3_29)
  have Sc11 := (C_E.ext O0.2)
  have hin11 : ¬ ((11 : Int32) < 0 ∨ cl_E.slots.size ≤ ((11 : Int32)).toNatClampNeg) := inb_of Sc11.2.1 ⟨by decide, by decide⟩
  obtain ⟨T12, X12, e12, st12⟩ := getS2 X10 hx hZ hown (host := "") (Or.inl (hw _ (List.mem_of_getElem? (i := 21) rfl))) Via.refl e10 (S_L.ext O0.2) (g := (mkF m 62 #[.val (.ref ar), .val (.int pp), .val (.int (251 : Int32)), .val (.int (11 : Int32)), .val (.long o4), .second, .val (.int (((((1 : Int32) + (1 : Int32)) + (1 : Int32)) + (1 : Int32)) + (1 : Int32)))] [])) rfl (hb hby d3_62)
  have vc13 := (V_L.ext O0.2)
  obtain ⟨cl13, Ar13, qk13, S13, Nn13, Hs13, Gf13⟩ := vc13
  have hin13 : ¬ ((11 : Int32) < 0 ∨ cl13.slots.size ≤ ((11 : Int32)).toNatClampNeg) := inb_of S13 ⟨by decide, by decide⟩
  have hat13 : cl13.slots[((11 : Int32)).toNatClampNeg]? = some (.long (16849312 : Int64)) := Has.at Hs13 hin13 rfl
  obtain ⟨fs, hr, hrun, hended, hW, hsame⟩ := X12.leave (v := some (.long ((16849312 : Int64) + o4))) (fun h => by rw [Bd.returns] at h; cases h)
  refine ⟨_, _, pre0 _ ?_, hrun, hended, _, _, rfl, ?_, ⟨_, rfl⟩, hW, hsame.mono (by decide) (by decide)⟩
  · show Steps p.tables e below (s₁.setTop (mkF m 0 #[.val (.ref ar), .val (.int pp), .unset, .unset, .unset, .unset, .unset] [])) _
    refine XS.aloadN X0.here hx rfl (hb hby d3_0) rfl rfl ?_
    refine XS.iloadN X0.here hx rfl (hb hby d3_1) rfl ?_
    show Steps p.tables e below (s₁.setTop (mkF m 2 #[.val (.ref ar), .val (.int pp), .unset, .unset, .unset, .unset, .unset] [(.int pp), (.ref ar)])) _
    refine X0.baloadBytes hx (j := pp) (v := (.int y0)) (by rw [e0]; exact Ar1.1) (State.isArrayOf_alike hZ.alike Ar1.2.1) Ar1.2.2 hin1 hat1 (g := (mkF m 2 #[.val (.ref ar), .val (.int pp), .unset, .unset, .unset, .unset, .unset] [(.int pp), (.ref ar)])) rfl rfl (hb hby d3_2) _ ?_
    show Steps p.tables e below (s₁.setTop (mkF m 3 #[.val (.ref ar), .val (.int pp), .unset, .unset, .unset, .unset, .unset] [(.int y0)])) _
    refine XS.sipush X0.here hx rfl (hb hby d3_3) ?_
    refine XS.iand X0.here hx rfl (hb hby d3_6) rfl ?_
    show Steps p.tables e below (s₁.setTop (mkF m 7 #[.val (.ref ar), .val (.int pp), .unset, .unset, .unset, .unset, .unset] [(.int (y0 &&& (255 : Int32)))])) _
    rw [hg]
    refine XS.istoreN X0.here hx rfl (hb hby d3_7) rfl (l' := #[.val (.ref ar), .val (.int pp), .val (.int (251 : Int32)), .unset, .unset, .unset, .unset]) rfl ?_
    show Steps p.tables e below (s₁.setTop (mkF m 8 #[.val (.ref ar), .val (.int pp), .val (.int (251 : Int32)), .unset, .unset, .unset, .unset] [])) _
    refine st2 _ ?_
    show Steps p.tables e below (T2.setTop (mkF m 11 #[.val (.ref ar), .val (.int pp), .val (.int (251 : Int32)), .unset, .unset, .unset, .unset] [(.ref s_R)])) _
    refine XS.iloadN X2.here hx rfl (hb hby d3_11) rfl ?_
    show Steps p.tables e below (T2.setTop (mkF m 12 #[.val (.ref ar), .val (.int pp), .val (.int (251 : Int32)), .unset, .unset, .unset, .unset] [(.int (251 : Int32)), (.ref s_R)])) _
    refine X2.iaload hx (j := (251 : Int32)) (v := (.int (atv cl_R (251 : Int32)))) (by rw [e2]; exact Sc3.1.1) (State.isArrayOf_alike hZ.alike Sc3.1.2.1) Sc3.1.2.2 hin3 (Sc3.2.2.2 _ hin3) (g := (mkF m 12 #[.val (.ref ar), .val (.int pp), .val (.int (251 : Int32)), .unset, .unset, .unset, .unset] [(.int (251 : Int32)), (.ref s_R)])) rfl rfl (hb hby d3_12) _ ?_
    show Steps p.tables e below (T2.setTop (mkF m 13 #[.val (.ref ar), .val (.int pp), .val (.int (251 : Int32)), .unset, .unset, .unset, .unset] [(.int (atv cl_R (251 : Int32)))])) _
    rw [hR]
    show Steps p.tables e below (T2.setTop (mkF m 13 #[.val (.ref ar), .val (.int pp), .val (.int (251 : Int32)), .unset, .unset, .unset, .unset] [(.int (11 : Int32))])) _
    refine XS.istoreN X2.here hx rfl (hb hby d3_13) rfl (l' := #[.val (.ref ar), .val (.int pp), .val (.int (251 : Int32)), .val (.int (11 : Int32)), .unset, .unset, .unset]) rfl ?_
    show Steps p.tables e below (T2.setTop (mkF m 14 #[.val (.ref ar), .val (.int pp), .val (.int (251 : Int32)), .val (.int (11 : Int32)), .unset, .unset, .unset] [])) _
    refine XS.iloadN X2.here hx rfl (hb hby d3_14) rfl ?_
    show Steps p.tables e below (T2.setTop (mkF m 15 #[.val (.ref ar), .val (.int pp), .val (.int (251 : Int32)), .val (.int (11 : Int32)), .unset, .unset, .unset] [(.int (251 : Int32))])) _
    refine st4 _ ?_
    show Steps p.tables e below (T4.setTop (mkF m 18 #[.val (.ref ar), .val (.int pp), .val (.int (251 : Int32)), .val (.int (11 : Int32)), .unset, .unset, .unset] [(.ref s_F), (.int (251 : Int32))])) _
    refine XS.iloadN X4.here hx rfl (hb hby d3_18) rfl ?_
    show Steps p.tables e below (T4.setTop (mkF m 19 #[.val (.ref ar), .val (.int pp), .val (.int (251 : Int32)), .val (.int (11 : Int32)), .unset, .unset, .unset] [(.int (11 : Int32)), (.ref s_F), (.int (251 : Int32))])) _
    refine X4.iaload hx (j := (11 : Int32)) (v := (.int (atv cl_F (11 : Int32)))) (by rw [e4]; exact Sc5.1.1) (State.isArrayOf_alike hZ.alike Sc5.1.2.1) Sc5.1.2.2 hin5 (Sc5.2.2.2 _ hin5) (g := (mkF m 19 #[.val (.ref ar), .val (.int pp), .val (.int (251 : Int32)), .val (.int (11 : Int32)), .unset, .unset, .unset] [(.int (11 : Int32)), (.ref s_F), (.int (251 : Int32))])) rfl rfl (hb hby d3_19) _ ?_
    show Steps p.tables e below (T4.setTop (mkF m 20 #[.val (.ref ar), .val (.int pp), .val (.int (251 : Int32)), .val (.int (11 : Int32)), .unset, .unset, .unset] [(.int (atv cl_F (11 : Int32))), (.int (251 : Int32))])) _
    rw [F_11]
    show Steps p.tables e below (T4.setTop (mkF m 20 #[.val (.ref ar), .val (.int pp), .val (.int (251 : Int32)), .val (.int (11 : Int32)), .unset, .unset, .unset] [(.int (251 : Int32)), (.int (251 : Int32))])) _
    refine XS.isub X4.here hx rfl (hb hby d3_20) rfl ?_
    show Steps p.tables e below (T4.setTop (mkF m 21 #[.val (.ref ar), .val (.int pp), .val (.int (251 : Int32)), .val (.int (11 : Int32)), .unset, .unset, .unset] [(.int ((251 : Int32) - (251 : Int32)))])) _
    refine XS.i2l X4.here hx rfl (hb hby d3_21) rfl ?_
    show Steps p.tables e below (T4.setTop (mkF m 22 #[.val (.ref ar), .val (.int pp), .val (.int (251 : Int32)), .val (.int (11 : Int32)), .unset, .unset, .unset] [(.long (((251 : Int32) - (251 : Int32)).toInt64))])) _
    refine XS.lstore X4.here hx rfl (hb hby d3_22) rfl (l' := #[.val (.ref ar), .val (.int pp), .val (.int (251 : Int32)), .val (.int (11 : Int32)), .val (.long (((251 : Int32) - (251 : Int32)).toInt64)), .second, .unset]) rfl ?_
    show Steps p.tables e below (T4.setTop (mkF m 24 #[.val (.ref ar), .val (.int pp), .val (.int (251 : Int32)), .val (.int (11 : Int32)), .val (.long (((251 : Int32) - (251 : Int32)).toInt64)), .second, .unset] [])) _
    refine XS.iconst X4.here hx rfl (hb hby d3_24) ?_
    refine XS.istore X4.here hx rfl (hb hby d3_25) rfl (l' := #[.val (.ref ar), .val (.int pp), .val (.int (251 : Int32)), .val (.int (11 : Int32)), .val (.long (((251 : Int32) - (251 : Int32)).toInt64)), .second, .val (.int (1 : Int32))]) rfl ?_
    show Steps p.tables e below (T4.setTop (mkF m 27 #[.val (.ref ar), .val (.int pp), .val (.int (251 : Int32)), .val (.int (11 : Int32)), .val (.long (((251 : Int32) - (251 : Int32)).toInt64)), .second, .val (.int (1 : Int32))] [])) _
    rw [← ho0]
    show Steps p.tables e below (T4.setTop (mkF m 27 #[.val (.ref ar), .val (.int pp), .val (.int (251 : Int32)), .val (.int (11 : Int32)), .val (.long o0), .second, .val (.int (1 : Int32))] [])) _
    refine st6 _ ?_
    show Steps p.tables e below (T6.setTop (mkF m 27 #[.val (.ref ar), .val (.int pp), .val (.int (251 : Int32)), .val (.int (11 : Int32)), .val (.long ((o0 <<< ((8 : Int32) &&& 0x3f).toInt64) ||| ((y1 &&& (255 : Int32)).toInt64))), .second, .val (.int ((1 : Int32) + (1 : Int32)))] [])) _
    rw [← ho1]
    show Steps p.tables e below (T6.setTop (mkF m 27 #[.val (.ref ar), .val (.int pp), .val (.int (251 : Int32)), .val (.int (11 : Int32)), .val (.long o1), .second, .val (.int ((1 : Int32) + (1 : Int32)))] [])) _
    refine st7 _ ?_
    show Steps p.tables e below (T7.setTop (mkF m 27 #[.val (.ref ar), .val (.int pp), .val (.int (251 : Int32)), .val (.int (11 : Int32)), .val (.long ((o1 <<< ((8 : Int32) &&& 0x3f).toInt64) ||| ((y2 &&& (255 : Int32)).toInt64))), .second, .val (.int (((1 : Int32) + (1 : Int32)) + (1 : Int32)))] [])) _
    rw [← ho2]
    show Steps p.tables e below (T7.setTop (mkF m 27 #[.val (.ref ar), .val (.int pp), .val (.int (251 : Int32)), .val (.int (11 : Int32)), .val (.long o2), .second, .val (.int (((1 : Int32) + (1 : Int32)) + (1 : Int32)))] [])) _
    refine st8 _ ?_
    show Steps p.tables e below (T8.setTop (mkF m 27 #[.val (.ref ar), .val (.int pp), .val (.int (251 : Int32)), .val (.int (11 : Int32)), .val (.long ((o2 <<< ((8 : Int32) &&& 0x3f).toInt64) ||| ((y3 &&& (255 : Int32)).toInt64))), .second, .val (.int ((((1 : Int32) + (1 : Int32)) + (1 : Int32)) + (1 : Int32)))] [])) _
    rw [← ho3]
    show Steps p.tables e below (T8.setTop (mkF m 27 #[.val (.ref ar), .val (.int pp), .val (.int (251 : Int32)), .val (.int (11 : Int32)), .val (.long o3), .second, .val (.int ((((1 : Int32) + (1 : Int32)) + (1 : Int32)) + (1 : Int32)))] [])) _
    refine st9 _ ?_
    show Steps p.tables e below (T9.setTop (mkF m 27 #[.val (.ref ar), .val (.int pp), .val (.int (251 : Int32)), .val (.int (11 : Int32)), .val (.long ((o3 <<< ((8 : Int32) &&& 0x3f).toInt64) ||| ((y4 &&& (255 : Int32)).toInt64))), .second, .val (.int (((((1 : Int32) + (1 : Int32)) + (1 : Int32)) + (1 : Int32)) + (1 : Int32)))] [])) _
    rw [← ho4]
    show Steps p.tables e below (T9.setTop (mkF m 27 #[.val (.ref ar), .val (.int pp), .val (.int (251 : Int32)), .val (.int (11 : Int32)), .val (.long o4), .second, .val (.int (((((1 : Int32) + (1 : Int32)) + (1 : Int32)) + (1 : Int32)) + (1 : Int32)))] [])) _
    refine XS.iload X9.here hx rfl (hb hby d3_27) rfl ?_
    show Steps p.tables e below (T9.setTop (mkF m 29 #[.val (.ref ar), .val (.int pp), .val (.int (251 : Int32)), .val (.int (11 : Int32)), .val (.long o4), .second, .val (.int (((((1 : Int32) + (1 : Int32)) + (1 : Int32)) + (1 : Int32)) + (1 : Int32)))] [(.int (((((1 : Int32) + (1 : Int32)) + (1 : Int32)) + (1 : Int32)) + (1 : Int32)))])) _
    refine st10 _ ?_
    show Steps p.tables e below (T10.setTop (mkF m 32 #[.val (.ref ar), .val (.int pp), .val (.int (251 : Int32)), .val (.int (11 : Int32)), .val (.long o4), .second, .val (.int (((((1 : Int32) + (1 : Int32)) + (1 : Int32)) + (1 : Int32)) + (1 : Int32)))] [(.ref s_E), (.int (((((1 : Int32) + (1 : Int32)) + (1 : Int32)) + (1 : Int32)) + (1 : Int32)))])) _
    refine XS.iloadN X10.here hx rfl (hb hby d3_32) rfl ?_
    show Steps p.tables e below (T10.setTop (mkF m 33 #[.val (.ref ar), .val (.int pp), .val (.int (251 : Int32)), .val (.int (11 : Int32)), .val (.long o4), .second, .val (.int (((((1 : Int32) + (1 : Int32)) + (1 : Int32)) + (1 : Int32)) + (1 : Int32)))] [(.int (11 : Int32)), (.ref s_E), (.int (((((1 : Int32) + (1 : Int32)) + (1 : Int32)) + (1 : Int32)) + (1 : Int32)))])) _
    refine X10.iaload hx (j := (11 : Int32)) (v := (.int (atv cl_E (11 : Int32)))) (by rw [e10]; exact Sc11.1.1) (State.isArrayOf_alike hZ.alike Sc11.1.2.1) Sc11.1.2.2 hin11 (Sc11.2.2.2 _ hin11) (g := (mkF m 33 #[.val (.ref ar), .val (.int pp), .val (.int (251 : Int32)), .val (.int (11 : Int32)), .val (.long o4), .second, .val (.int (((((1 : Int32) + (1 : Int32)) + (1 : Int32)) + (1 : Int32)) + (1 : Int32)))] [(.int (11 : Int32)), (.ref s_E), (.int (((((1 : Int32) + (1 : Int32)) + (1 : Int32)) + (1 : Int32)) + (1 : Int32)))])) rfl rfl (hb hby d3_33) _ ?_
    show Steps p.tables e below (T10.setTop (mkF m 34 #[.val (.ref ar), .val (.int pp), .val (.int (251 : Int32)), .val (.int (11 : Int32)), .val (.long o4), .second, .val (.int (((((1 : Int32) + (1 : Int32)) + (1 : Int32)) + (1 : Int32)) + (1 : Int32)))] [(.int (atv cl_E (11 : Int32))), (.int (((((1 : Int32) + (1 : Int32)) + (1 : Int32)) + (1 : Int32)) + (1 : Int32)))])) _
    rw [E_11]
    show Steps p.tables e below (T10.setTop (mkF m 34 #[.val (.ref ar), .val (.int pp), .val (.int (251 : Int32)), .val (.int (11 : Int32)), .val (.long o4), .second, .val (.int (((((1 : Int32) + (1 : Int32)) + (1 : Int32)) + (1 : Int32)) + (1 : Int32)))] [(.int (4 : Int32)), (.int (((((1 : Int32) + (1 : Int32)) + (1 : Int32)) + (1 : Int32)) + (1 : Int32)))])) _
    refine XS.icmpYes X10.here hx rfl (pc0 := 34) (pc' := 62) rfl (hb hby d3_34) rfl (tlt (by decide : (4 : Int32) < (((((1 : Int32) + (1 : Int32)) + (1 : Int32)) + (1 : Int32)) + (1 : Int32)))).2.2.1 (by decide) (by decide) ?_
    show Steps p.tables e below (T10.setTop (mkF m 62 #[.val (.ref ar), .val (.int pp), .val (.int (251 : Int32)), .val (.int (11 : Int32)), .val (.long o4), .second, .val (.int (((((1 : Int32) + (1 : Int32)) + (1 : Int32)) + (1 : Int32)) + (1 : Int32)))] [])) _
    refine st12 _ ?_
    show Steps p.tables e below (T12.setTop (mkF m 65 #[.val (.ref ar), .val (.int pp), .val (.int (251 : Int32)), .val (.int (11 : Int32)), .val (.long o4), .second, .val (.int (((((1 : Int32) + (1 : Int32)) + (1 : Int32)) + (1 : Int32)) + (1 : Int32)))] [(.ref s_L)])) _
    refine XS.iloadN X12.here hx rfl (hb hby d3_65) rfl ?_
    show Steps p.tables e below (T12.setTop (mkF m 66 #[.val (.ref ar), .val (.int pp), .val (.int (251 : Int32)), .val (.int (11 : Int32)), .val (.long o4), .second, .val (.int (((((1 : Int32) + (1 : Int32)) + (1 : Int32)) + (1 : Int32)) + (1 : Int32)))] [(.int (11 : Int32)), (.ref s_L)])) _
    refine X12.laload hx (j := (11 : Int32)) (v := (.long (16849312 : Int64))) (by rw [e12]; exact Ar13.1) (State.isArrayOf_alike hZ.alike Ar13.2.1) Ar13.2.2 hin13 hat13 (g := (mkF m 66 #[.val (.ref ar), .val (.int pp), .val (.int (251 : Int32)), .val (.int (11 : Int32)), .val (.long o4), .second, .val (.int (((((1 : Int32) + (1 : Int32)) + (1 : Int32)) + (1 : Int32)) + (1 : Int32)))] [(.int (11 : Int32)), (.ref s_L)])) rfl rfl (hb hby d3_66) _ ?_
    show Steps p.tables e below (T12.setTop (mkF m 67 #[.val (.ref ar), .val (.int pp), .val (.int (251 : Int32)), .val (.int (11 : Int32)), .val (.long o4), .second, .val (.int (((((1 : Int32) + (1 : Int32)) + (1 : Int32)) + (1 : Int32)) + (1 : Int32)))] [(.long (16849312 : Int64))])) _
    refine XS.lload X12.here hx rfl (hb hby d3_67) rfl ?_
    refine XS.ladd X12.here hx rfl (hb hby d3_69) rfl ?_
    show Steps p.tables e below (T12.setTop (mkF m 70 #[.val (.ref ar), .val (.int pp), .val (.int (251 : Int32)), .val (.int (11 : Int32)), .val (.long o4), .second, .val (.int (((((1 : Int32) + (1 : Int32)) + (1 : Int32)) + (1 : Int32)) + (1 : Int32)))] [(.long ((16849312 : Int64) + o4))])) _
    exact retOut X12 hx Bd.returns rfl (Or.inr (Or.inl ⟨rfl, rfl, _, rfl⟩)) (hb hby d3_70) hr
  · show own_Ql (own_val 251 t) h0 n0 _ T12.heap _
    rw [e12]
    exact ⟨_, rfl, N0, rfl, own_d_11 ht0 ht1 ho0 ho1 ho2 ho3 ho4 hy1 hy2 hy3 hy4⟩
theorem own_d_12 {o0 o1 o2 o3 o4 o5 : Int64} {y1 y2 y3 y4 y5 : Int32} {t : Int} (ht0 : 0 ≤ t) (ht1 : t < 72057594037927936) (ho0 : o0 = (((252 : Int32) - (252 : Int32)).toInt64)) (ho1 : o1 = ((o0 <<< ((8 : Int32) &&& 0x3f).toInt64) ||| ((y1 &&& (255 : Int32)).toInt64))) (ho2 : o2 = ((o1 <<< ((8 : Int32) &&& 0x3f).toInt64) ||| ((y2 &&& (255 : Int32)).toInt64))) (ho3 : o3 = ((o2 <<< ((8 : Int32) &&& 0x3f).toInt64) ||| ((y3 &&& (255 : Int32)).toInt64))) (ho4 : o4 = ((o3 <<< ((8 : Int32) &&& 0x3f).toInt64) ||| ((y4 &&& (255 : Int32)).toInt64))) (ho5 : o5 = ((o4 <<< ((8 : Int32) &&& 0x3f).toInt64) ||| ((y5 &&& (255 : Int32)).toInt64))) (hy1 : y1.toInt % 256 = (t / 281474976710656) % 256) (hy2 : y2.toInt % 256 = (t / 1099511627776) % 256) (hy3 : y3.toInt % 256 = (t / 4294967296) % 256) (hy4 : y4.toInt % 256 = (t / 16777216) % 256) (hy5 : y5.toInt % 256 = (t / 65536) % 256) : ((4311816608 : Int64) + o5).toInt = own_val 252 t := by
  rw [own_val_12 (by decide) (by decide)]
  have cL : ((4311816608 : Int64)).toInt = 4311816608 := rfl
  have x0 : o0.toInt = 0 := by rw [ho0]; rfl
  have x1 : o1.toInt = (t / 281474976710656) := by
    rw [ho1, own_step (X := (t / 72057594037927936)) (by omega) (by omega) (by omega), hy1]; omega
  have x2 : o2.toInt = (t / 1099511627776) := by
    rw [ho2, own_step (X := (t / 281474976710656)) (by omega) (by omega) (by omega), hy2]; omega
  have x3 : o3.toInt = (t / 4294967296) := by
    rw [ho3, own_step (X := (t / 1099511627776)) (by omega) (by omega) (by omega), hy3]; omega
  have x4 : o4.toInt = (t / 16777216) := by
    rw [ho4, own_step (X := (t / 4294967296)) (by omega) (by omega) (by omega), hy4]; omega
  have x5 : o5.toInt = (t / 65536) := by
    rw [ho5, own_step (X := (t / 16777216)) (by omega) (by omega) (by omega), hy5]; omega
  rw [Jvm.Kit.i64_add (by omega) (by omega), cL, x5]
  omega
set_option maxRecDepth 65536 in
set_option maxHeartbeats 40000000 in
theorem r_dec_12 (l : Launch) (Z : State) (a0 : Array Value) (hw : ∀ d ∈ tables_1, d.before a0 Z = true) (ws : List Jvm.Cond) (s_R s_F s_E s_L : Addr) (cl_R cl_F cl_E : Cell) (k_L : ClassId) (h0 : Heap) (n0 : Nat) (O0 : Old Z n0 h0) (G : own_Ctx Z Z.heap s_R s_F s_E s_L cl_R cl_F cl_E k_L) (ar : Addr) (kk : ClassId) (vs : List Value) (pp : Int32) (y0 y1 y2 y3 y4 y5 y6 y7 : Int32) (t : Int) (Va : Arv Z h0 ar kk .byte (11 : Int32) vs (.int (0 : Int32))) (hg : y0 &&& (255 : Int32) = (252 : Int32)) (ht0 : 0 ≤ t) (ht1 : t < 72057594037927936) (hp0 : ¬ (pp < 0) ∧ pp < (11 : Int32)) (hv0 : vs.getD (pp).toNatClampNeg (.int (0 : Int32)) = .int y0) (hp1 : ¬ ((pp + (1 : Int32)) < 0) ∧ (pp + (1 : Int32)) < (11 : Int32)) (hv1 : vs.getD ((pp + (1 : Int32))).toNatClampNeg (.int (0 : Int32)) = .int y1) (hp2 : ¬ ((pp + ((1 : Int32) + (1 : Int32))) < 0) ∧ (pp + ((1 : Int32) + (1 : Int32))) < (11 : Int32)) (hv2 : vs.getD ((pp + ((1 : Int32) + (1 : Int32)))).toNatClampNeg (.int (0 : Int32)) = .int y2) (hp3 : ¬ ((pp + (((1 : Int32) + (1 : Int32)) + (1 : Int32))) < 0) ∧ (pp + (((1 : Int32) + (1 : Int32)) + (1 : Int32))) < (11 : Int32)) (hv3 : vs.getD ((pp + (((1 : Int32) + (1 : Int32)) + (1 : Int32)))).toNatClampNeg (.int (0 : Int32)) = .int y3) (hp4 : ¬ ((pp + ((((1 : Int32) + (1 : Int32)) + (1 : Int32)) + (1 : Int32))) < 0) ∧ (pp + ((((1 : Int32) + (1 : Int32)) + (1 : Int32)) + (1 : Int32))) < (11 : Int32)) (hv4 : vs.getD ((pp + ((((1 : Int32) + (1 : Int32)) + (1 : Int32)) + (1 : Int32)))).toNatClampNeg (.int (0 : Int32)) = .int y4) (hp5 : ¬ ((pp + (((((1 : Int32) + (1 : Int32)) + (1 : Int32)) + (1 : Int32)) + (1 : Int32))) < 0) ∧ (pp + (((((1 : Int32) + (1 : Int32)) + (1 : Int32)) + (1 : Int32)) + (1 : Int32))) < (11 : Int32)) (hv5 : vs.getD ((pp + (((((1 : Int32) + (1 : Int32)) + (1 : Int32)) + (1 : Int32)) + (1 : Int32)))).toNatClampNeg (.int (0 : Int32)) = .int y5) (hy1 : y1.toInt % 256 = (t / 281474976710656) % 256) (hy2 : y2.toInt % 256 = (t / 1099511627776) % 256) (hy3 : y3.toInt % 256 = (t / 4294967296) % 256) (hy4 : y4.toInt % 256 = (t / 16777216) % 256) (hy5 : y5.toInt % 256 = (t / 65536) % 256) (hR : atv cl_R (252 : Int32) = (12 : Int32)) :
    MetFree l (⟨"com/example/rattan/rattan/storage/label/ComponentCode", "decode", "([BI)J"⟩ : MethodName) (head1 (Jvm.Cond.code (⟨"com/example/rattan/rattan/storage/label/ComponentCode", "decode", "([BI)J"⟩ : MethodName) prog_41_method_4_code 7 (some .long) :: ws) ({ frames := 0, cells := 0, slots := 0, locals := 0 } : Room)) (fun a U => a = #[(.ref ar), (.int pp)] ∧ Z.Warmed39 U.vm ∧ U.heap = h0) (fun _ _ _ _ _ => True) (fun _ U o U' => ∃ v L, o = .returned v ∧ own_Ql (own_val 252 t) h0 n0 v U'.heap L ∧ FrameEnd U o U' L ({ frames := 0, cells := 0, slots := 0, locals := 0 } : Room).cells ({ frames := 0, cells := 0, slots := 0, locals := 0 } : Room).slots) := by
  have G0 := G
  obtain ⟨S_R, C_R, S_F, C_F, S_E, C_E, S_L, V_L, R_1, R_2, R_3, R_4, R_5, F_0, F_1, F_2, F_3, F_4, F_5, F_6, F_7, F_8, F_9, F_10, F_11, F_12, F_13, F_14, E_0, E_1, E_2, E_3, E_4, E_5, E_6, E_7, E_8, E_9, E_10, E_11, E_12, E_13, E_14⟩ := G
  refine MetFree.of_bodySF (plainFor_of_name pn_1) hisR ?_
  intro p e s m args below meth c s₁ Bd hml0 hP hK
  obtain ⟨rfl, hZ, hh⟩ := hP
  have hx := Bd.exec
  have hby := Bd.bytes
  have hml : c.maxLocals = 7 := hml0
  have hown : s.vm.findClass "com/example/rattan/rattan/storage/label/ComponentCode" = some m.cls := findClass_of_methodNamed Bd.named
  have hnm := (name_of_methodNamed Bd.named Bd.method).1
  have X0 : Stand p l e ({ frames := 0, cells := 0, slots := 0, locals := 0 } : Room) s m #[(.ref ar), (.int pp)] below meth c s₁ [] 0 0 := Stand.of_body Bd
  have e0 : s₁.heap = h0 := by rw [← hh, Bd.state]; rfl
  have N0 := Fr.nil n0
  have pre0 : ∀ t, Steps p.tables e below (s₁.setTop (mkF m 0 #[.val (.ref ar), .val (.int pp), .unset, .unset, .unset, .unset, .unset] [])) t → Steps p.tables e below (s₁.setTop (entryFrame m #[(.ref ar), (.int pp)] 7)) t := fun t k => castTop (ef_3_2 m ar pp) k
  have vc1 := Va
  obtain ⟨cl1, Ar1, qk1, S1, Nn1, Hs1, Gf1⟩ := vc1
  have hin1 : ¬ (pp < 0 ∨ cl1.slots.size ≤ (pp).toNatClampNeg) := inb_of S1 hp0
  have hat1 : cl1.slots[(pp).toNatClampNeg]? = some (.int y0) := Has.at Hs1 hin1 hv0
  obtain ⟨T2, X2, e2, st2⟩ := getS2 X0 hx hZ hown (host := "") (Or.inl (hw _ (List.mem_of_getElem? (i := 15) rfl))) Via.refl e0 (S_R.ext O0.2) (g := (mkF m 8 #[.val (.ref ar), .val (.int pp), .val (.int (252 : Int32)), .unset, .unset, .unset, .unset] [])) rfl (hb hby d3_8)
  have Sc3 := (C_R.ext O0.2)
  have hin3 : ¬ ((252 : Int32) < 0 ∨ cl_R.slots.size ≤ ((252 : Int32)).toNatClampNeg) := inb_of Sc3.2.1 ⟨by decide, by decide⟩
  obtain ⟨T4, X4, e4, st4⟩ := getS2 X2 hx hZ hown (host := "") (Or.inl (hw _ (List.mem_of_getElem? (i := 17) rfl))) Via.refl e2 (S_F.ext O0.2) (g := (mkF m 15 #[.val (.ref ar), .val (.int pp), .val (.int (252 : Int32)), .val (.int (12 : Int32)), .unset, .unset, .unset] [(.int (252 : Int32))])) rfl (hb hby d3_15)
  have Sc5 := (C_F.ext O0.2)
  have hin5 : ¬ ((12 : Int32) < 0 ∨ cl_F.slots.size ≤ ((12 : Int32)).toNatClampNeg) := inb_of Sc5.2.1 ⟨by decide, by decide⟩
  obtain ⟨o0, ho0⟩ : ∃ z : Int64, z = (((252 : Int32) - (252 : Int32)).toInt64) := ⟨_, rfl⟩
  obtain ⟨T6, X6, e6, st6⟩ := t_dec s_R s_F s_E s_L cl_R cl_F cl_E k_L ar kk vs pp (252 : Int32) (12 : Int32) o0 (1 : Int32) (5 : Int32) y1 X4 hx hZ hw hby hml hown e4 O0 G0 Va ⟨by decide, by decide⟩ E_12 (by decide) hp1 hv1
  obtain ⟨o1, ho1⟩ : ∃ z : Int64, z = ((o0 <<< ((8 : Int32) &&& 0x3f).toInt64) ||| ((y1 &&& (255 : Int32)).toInt64)) := ⟨_, rfl⟩
  obtain ⟨T7, X7, e7, st7⟩ := t_dec s_R s_F s_E s_L cl_R cl_F cl_E k_L ar kk vs pp (252 : Int32) (12 : Int32) o1 ((1 : Int32) + (1 : Int32)) (5 : Int32) y2 X6 hx hZ hw hby hml hown e6 O0 G0 Va ⟨by decide, by decide⟩ E_12 (by decide) hp2 hv2
  obtain ⟨o2, ho2⟩ : ∃ z : Int64, z = ((o1 <<< ((8 : Int32) &&& 0x3f).toInt64) ||| ((y2 &&& (255 : Int32)).toInt64)) := ⟨_, rfl⟩
  obtain ⟨T8, X8, e8, st8⟩ := t_dec s_R s_F s_E s_L cl_R cl_F cl_E k_L ar kk vs pp (252 : Int32) (12 : Int32) o2 (((1 : Int32) + (1 : Int32)) + (1 : Int32)) (5 : Int32) y3 X7 hx hZ hw hby hml hown e7 O0 G0 Va ⟨by decide, by decide⟩ E_12 (by decide) hp3 hv3
  obtain ⟨o3, ho3⟩ : ∃ z : Int64, z = ((o2 <<< ((8 : Int32) &&& 0x3f).toInt64) ||| ((y3 &&& (255 : Int32)).toInt64)) := ⟨_, rfl⟩
  obtain ⟨T9, X9, e9, st9⟩ := t_dec s_R s_F s_E s_L cl_R cl_F cl_E k_L ar kk vs pp (252 : Int32) (12 : Int32) o3 ((((1 : Int32) + (1 : Int32)) + (1 : Int32)) + (1 : Int32)) (5 : Int32) y4 X8 hx hZ hw hby hml hown e8 O0 G0 Va ⟨by decide, by decide⟩ E_12 (by decide) hp4 hv4
  obtain ⟨o4, ho4⟩ : ∃ z : Int64, z = ((o3 <<< ((8 : Int32) &&& 0x3f).toInt64) ||| ((y4 &&& (255 : Int32)).toInt64)) := ⟨_, rfl⟩
  obtain ⟨T10, X10, e10, st10⟩ := t_dec s_R s_F s_E s_L cl_R cl_F cl_E k_L ar kk vs pp (252 : Int32) (12 : Int32) o4 (((((1 : Int32) + (1 : Int32)) + (1 : Int32)) + (1 : Int32)) + (1 : Int32)) (5 : Int32) y5 X9 hx hZ hw hby hml hown e9 O0 G0 Va ⟨by decide, by decide⟩ E_12 (by decide) hp5 hv5
  obtain ⟨o5, ho5⟩ : ∃ z : Int64, z = ((o4 <<< ((8 : Int32) &&& 0x3f).toInt64) ||| ((y5 &&& (255 : Int32)).toInt64)) := ⟨_, rfl⟩
  obtain ⟨T11, X11, e11, st11⟩ := getS2 X10 hx hZ hown (host := "") (Or.inl (hw _ (List.mem_of_getElem? (i := 19) rfl))) Via.refl e10 (S_E.ext O0.2) (g := (mkF m 29 #[.val (.ref ar), .val (.int pp), .val (.int (252 : Int32)), .val (.int (12 : Int32)), .val (.long o5), .second, .val (.int ((((((1 : Int32) + (1 : Int32)) + (1 : Int32)) + (1 : Int32)) + (1 : Int32)) + (1 : Int32)))] [(.int ((((((1 : Int32) + (1 : Int32)) + (1 : Int32)) + (1 : Int32)) + (1 : Int32)) + (1 : Int32)))])) rfl (hb hby d3_29)
  have Sc12 := (C_E.ext O0.2)
  have hin12 : ¬ ((12 : Int32) < 0 ∨ cl_E.slots.size ≤ ((12 : Int32)).toNatClampNeg) := inb_of Sc12.2.1 ⟨by decide, by decide⟩
  obtain ⟨T13, X13, e13, st13⟩ := getS2 X11 hx hZ hown (host := "") (Or.inl (hw _ (List.mem_of_getElem? (i := 21) rfl))) Via.refl e11 (S_L.ext O0.2) (g := (mkF m 62 #[.val (.ref ar), .val (.int pp), .val (.int (252 : Int32)), .val (.int (12 : Int32)), .val (.long o5), .second, .val (.int ((((((1 : Int32) + (1 : Int32)) + (1 : Int32)) + (1 : Int32)) + (1 : Int32)) + (1 : Int32)))] [])) rfl (hb hby d3_62)
  have vc14 := (V_L.ext O0.2)
  obtain ⟨cl14, Ar14, qk14, S14, Nn14, Hs14, Gf14⟩ := vc14
  have hin14 : ¬ ((12 : Int32) < 0 ∨ cl14.slots.size ≤ ((12 : Int32)).toNatClampNeg) := inb_of S14 ⟨by decide, by decide⟩
  have hat14 : cl14.slots[((12 : Int32)).toNatClampNeg]? = some (.long (4311816608 : Int64)) := Has.at Hs14 hin14 rfl
  obtain ⟨fs, hr, hrun, hended, hW, hsame⟩ := X13.leave (v := some (.long ((4311816608 : Int64) + o5))) (fun h => by rw [Bd.returns] at h; cases h)
  refine ⟨_, _, pre0 _ ?_, hrun, hended, _, _, rfl, ?_, ⟨_, rfl⟩, hW, hsame.mono (by decide) (by decide)⟩
  · show Steps p.tables e below (s₁.setTop (mkF m 0 #[.val (.ref ar), .val (.int pp), .unset, .unset, .unset, .unset, .unset] [])) _
    refine XS.aloadN X0.here hx rfl (hb hby d3_0) rfl rfl ?_
    refine XS.iloadN X0.here hx rfl (hb hby d3_1) rfl ?_
    show Steps p.tables e below (s₁.setTop (mkF m 2 #[.val (.ref ar), .val (.int pp), .unset, .unset, .unset, .unset, .unset] [(.int pp), (.ref ar)])) _
    refine X0.baloadBytes hx (j := pp) (v := (.int y0)) (by rw [e0]; exact Ar1.1) (State.isArrayOf_alike hZ.alike Ar1.2.1) Ar1.2.2 hin1 hat1 (g := (mkF m 2 #[.val (.ref ar), .val (.int pp), .unset, .unset, .unset, .unset, .unset] [(.int pp), (.ref ar)])) rfl rfl (hb hby d3_2) _ ?_
    show Steps p.tables e below (s₁.setTop (mkF m 3 #[.val (.ref ar), .val (.int pp), .unset, .unset, .unset, .unset, .unset] [(.int y0)])) _
    refine XS.sipush X0.here hx rfl (hb hby d3_3) ?_
    refine XS.iand X0.here hx rfl (hb hby d3_6) rfl ?_
    show Steps p.tables e below (s₁.setTop (mkF m 7 #[.val (.ref ar), .val (.int pp), .unset, .unset, .unset, .unset, .unset] [(.int (y0 &&& (255 : Int32)))])) _
    rw [hg]
    refine XS.istoreN X0.here hx rfl (hb hby d3_7) rfl (l' := #[.val (.ref ar), .val (.int pp), .val (.int (252 : Int32)), .unset, .unset, .unset, .unset]) rfl ?_
    show Steps p.tables e below (s₁.setTop (mkF m 8 #[.val (.ref ar), .val (.int pp), .val (.int (252 : Int32)), .unset, .unset, .unset, .unset] [])) _
    refine st2 _ ?_
    show Steps p.tables e below (T2.setTop (mkF m 11 #[.val (.ref ar), .val (.int pp), .val (.int (252 : Int32)), .unset, .unset, .unset, .unset] [(.ref s_R)])) _
    refine XS.iloadN X2.here hx rfl (hb hby d3_11) rfl ?_
    show Steps p.tables e below (T2.setTop (mkF m 12 #[.val (.ref ar), .val (.int pp), .val (.int (252 : Int32)), .unset, .unset, .unset, .unset] [(.int (252 : Int32)), (.ref s_R)])) _
    refine X2.iaload hx (j := (252 : Int32)) (v := (.int (atv cl_R (252 : Int32)))) (by rw [e2]; exact Sc3.1.1) (State.isArrayOf_alike hZ.alike Sc3.1.2.1) Sc3.1.2.2 hin3 (Sc3.2.2.2 _ hin3) (g := (mkF m 12 #[.val (.ref ar), .val (.int pp), .val (.int (252 : Int32)), .unset, .unset, .unset, .unset] [(.int (252 : Int32)), (.ref s_R)])) rfl rfl (hb hby d3_12) _ ?_
    show Steps p.tables e below (T2.setTop (mkF m 13 #[.val (.ref ar), .val (.int pp), .val (.int (252 : Int32)), .unset, .unset, .unset, .unset] [(.int (atv cl_R (252 : Int32)))])) _
    rw [hR]
    show Steps p.tables e below (T2.setTop (mkF m 13 #[.val (.ref ar), .val (.int pp), .val (.int (252 : Int32)), .unset, .unset, .unset, .unset] [(.int (12 : Int32))])) _
    refine XS.istoreN X2.here hx rfl (hb hby d3_13) rfl (l' := #[.val (.ref ar), .val (.int pp), .val (.int (252 : Int32)), .val (.int (12 : Int32)), .unset, .unset, .unset]) rfl ?_
    show Steps p.tables e below (T2.setTop (mkF m 14 #[.val (.ref ar), .val (.int pp), .val (.int (252 : Int32)), .val (.int (12 : Int32)), .unset, .unset, .unset] [])) _
    refine XS.iloadN X2.here hx rfl (hb hby d3_14) rfl ?_
    show Steps p.tables e below (T2.setTop (mkF m 15 #[.val (.ref ar), .val (.int pp), .val (.int (252 : Int32)), .val (.int (12 : Int32)), .unset, .unset, .unset] [(.int (252 : Int32))])) _
    refine st4 _ ?_
    show Steps p.tables e below (T4.setTop (mkF m 18 #[.val (.ref ar), .val (.int pp), .val (.int (252 : Int32)), .val (.int (12 : Int32)), .unset, .unset, .unset] [(.ref s_F), (.int (252 : Int32))])) _
    refine XS.iloadN X4.here hx rfl (hb hby d3_18) rfl ?_
    show Steps p.tables e below (T4.setTop (mkF m 19 #[.val (.ref ar), .val (.int pp), .val (.int (252 : Int32)), .val (.int (12 : Int32)), .unset, .unset, .unset] [(.int (12 : Int32)), (.ref s_F), (.int (252 : Int32))])) _
    refine X4.iaload hx (j := (12 : Int32)) (v := (.int (atv cl_F (12 : Int32)))) (by rw [e4]; exact Sc5.1.1) (State.isArrayOf_alike hZ.alike Sc5.1.2.1) Sc5.1.2.2 hin5 (Sc5.2.2.2 _ hin5) (g := (mkF m 19 #[.val (.ref ar), .val (.int pp), .val (.int (252 : Int32)), .val (.int (12 : Int32)), .unset, .unset, .unset] [(.int (12 : Int32)), (.ref s_F), (.int (252 : Int32))])) rfl rfl (hb hby d3_19) _ ?_
    show Steps p.tables e below (T4.setTop (mkF m 20 #[.val (.ref ar), .val (.int pp), .val (.int (252 : Int32)), .val (.int (12 : Int32)), .unset, .unset, .unset] [(.int (atv cl_F (12 : Int32))), (.int (252 : Int32))])) _
    rw [F_12]
    show Steps p.tables e below (T4.setTop (mkF m 20 #[.val (.ref ar), .val (.int pp), .val (.int (252 : Int32)), .val (.int (12 : Int32)), .unset, .unset, .unset] [(.int (252 : Int32)), (.int (252 : Int32))])) _
    refine XS.isub X4.here hx rfl (hb hby d3_20) rfl ?_
    show Steps p.tables e below (T4.setTop (mkF m 21 #[.val (.ref ar), .val (.int pp), .val (.int (252 : Int32)), .val (.int (12 : Int32)), .unset, .unset, .unset] [(.int ((252 : Int32) - (252 : Int32)))])) _
    refine XS.i2l X4.here hx rfl (hb hby d3_21) rfl ?_
    show Steps p.tables e below (T4.setTop (mkF m 22 #[.val (.ref ar), .val (.int pp), .val (.int (252 : Int32)), .val (.int (12 : Int32)), .unset, .unset, .unset] [(.long (((252 : Int32) - (252 : Int32)).toInt64))])) _
    refine XS.lstore X4.here hx rfl (hb hby d3_22) rfl (l' := #[.val (.ref ar), .val (.int pp), .val (.int (252 : Int32)), .val (.int (12 : Int32)), .val (.long (((252 : Int32) - (252 : Int32)).toInt64)), .second, .unset]) rfl ?_
    show Steps p.tables e below (T4.setTop (mkF m 24 #[.val (.ref ar), .val (.int pp), .val (.int (252 : Int32)), .val (.int (12 : Int32)), .val (.long (((252 : Int32) - (252 : Int32)).toInt64)), .second, .unset] [])) _
    refine XS.iconst X4.here hx rfl (hb hby d3_24) ?_
    refine XS.istore X4.here hx rfl (hb hby d3_25) rfl (l' := #[.val (.ref ar), .val (.int pp), .val (.int (252 : Int32)), .val (.int (12 : Int32)), .val (.long (((252 : Int32) - (252 : Int32)).toInt64)), .second, .val (.int (1 : Int32))]) rfl ?_
    show Steps p.tables e below (T4.setTop (mkF m 27 #[.val (.ref ar), .val (.int pp), .val (.int (252 : Int32)), .val (.int (12 : Int32)), .val (.long (((252 : Int32) - (252 : Int32)).toInt64)), .second, .val (.int (1 : Int32))] [])) _
    rw [← ho0]
    show Steps p.tables e below (T4.setTop (mkF m 27 #[.val (.ref ar), .val (.int pp), .val (.int (252 : Int32)), .val (.int (12 : Int32)), .val (.long o0), .second, .val (.int (1 : Int32))] [])) _
    refine st6 _ ?_
    show Steps p.tables e below (T6.setTop (mkF m 27 #[.val (.ref ar), .val (.int pp), .val (.int (252 : Int32)), .val (.int (12 : Int32)), .val (.long ((o0 <<< ((8 : Int32) &&& 0x3f).toInt64) ||| ((y1 &&& (255 : Int32)).toInt64))), .second, .val (.int ((1 : Int32) + (1 : Int32)))] [])) _
    rw [← ho1]
    show Steps p.tables e below (T6.setTop (mkF m 27 #[.val (.ref ar), .val (.int pp), .val (.int (252 : Int32)), .val (.int (12 : Int32)), .val (.long o1), .second, .val (.int ((1 : Int32) + (1 : Int32)))] [])) _
    refine st7 _ ?_
    show Steps p.tables e below (T7.setTop (mkF m 27 #[.val (.ref ar), .val (.int pp), .val (.int (252 : Int32)), .val (.int (12 : Int32)), .val (.long ((o1 <<< ((8 : Int32) &&& 0x3f).toInt64) ||| ((y2 &&& (255 : Int32)).toInt64))), .second, .val (.int (((1 : Int32) + (1 : Int32)) + (1 : Int32)))] [])) _
    rw [← ho2]
    show Steps p.tables e below (T7.setTop (mkF m 27 #[.val (.ref ar), .val (.int pp), .val (.int (252 : Int32)), .val (.int (12 : Int32)), .val (.long o2), .second, .val (.int (((1 : Int32) + (1 : Int32)) + (1 : Int32)))] [])) _
    refine st8 _ ?_
    show Steps p.tables e below (T8.setTop (mkF m 27 #[.val (.ref ar), .val (.int pp), .val (.int (252 : Int32)), .val (.int (12 : Int32)), .val (.long ((o2 <<< ((8 : Int32) &&& 0x3f).toInt64) ||| ((y3 &&& (255 : Int32)).toInt64))), .second, .val (.int ((((1 : Int32) + (1 : Int32)) + (1 : Int32)) + (1 : Int32)))] [])) _
    rw [← ho3]
    show Steps p.tables e below (T8.setTop (mkF m 27 #[.val (.ref ar), .val (.int pp), .val (.int (252 : Int32)), .val (.int (12 : Int32)), .val (.long o3), .second, .val (.int ((((1 : Int32) + (1 : Int32)) + (1 : Int32)) + (1 : Int32)))] [])) _
    refine st9 _ ?_
    show Steps p.tables e below (T9.setTop (mkF m 27 #[.val (.ref ar), .val (.int pp), .val (.int (252 : Int32)), .val (.int (12 : Int32)), .val (.long ((o3 <<< ((8 : Int32) &&& 0x3f).toInt64) ||| ((y4 &&& (255 : Int32)).toInt64))), .second, .val (.int (((((1 : Int32) + (1 : Int32)) + (1 : Int32)) + (1 : Int32)) + (1 : Int32)))] [])) _
    rw [← ho4]
    show Steps p.tables e below (T9.setTop (mkF m 27 #[.val (.ref ar), .val (.int pp), .val (.int (252 : Int32)), .val (.int (12 : Int32)), .val (.long o4), .second, .val (.int (((((1 : Int32) + (1 : Int32)) + (1 : Int32)) + (1 : Int32)) + (1 : Int32)))] [])) _
    refine st10 _ ?_
    show Steps p.tables e below (T10.setTop (mkF m 27 #[.val (.ref ar), .val (.int pp), .val (.int (252 : Int32)), .val (.int (12 : Int32)), .val (.long ((o4 <<< ((8 : Int32) &&& 0x3f).toInt64) ||| ((y5 &&& (255 : Int32)).toInt64))), .second, .val (.int ((((((1 : Int32) + (1 : Int32)) + (1 : Int32)) + (1 : Int32)) + (1 : Int32)) + (1 : Int32)))] [])) _
    rw [← ho5]
    show Steps p.tables e below (T10.setTop (mkF m 27 #[.val (.ref ar), .val (.int pp), .val (.int (252 : Int32)), .val (.int (12 : Int32)), .val (.long o5), .second, .val (.int ((((((1 : Int32) + (1 : Int32)) + (1 : Int32)) + (1 : Int32)) + (1 : Int32)) + (1 : Int32)))] [])) _
    refine XS.iload X10.here hx rfl (hb hby d3_27) rfl ?_
    show Steps p.tables e below (T10.setTop (mkF m 29 #[.val (.ref ar), .val (.int pp), .val (.int (252 : Int32)), .val (.int (12 : Int32)), .val (.long o5), .second, .val (.int ((((((1 : Int32) + (1 : Int32)) + (1 : Int32)) + (1 : Int32)) + (1 : Int32)) + (1 : Int32)))] [(.int ((((((1 : Int32) + (1 : Int32)) + (1 : Int32)) + (1 : Int32)) + (1 : Int32)) + (1 : Int32)))])) _
    refine st11 _ ?_
    show Steps p.tables e below (T11.setTop (mkF m 32 #[.val (.ref ar), .val (.int pp), .val (.int (252 : Int32)), .val (.int (12 : Int32)), .val (.long o5), .second, .val (.int ((((((1 : Int32) + (1 : Int32)) + (1 : Int32)) + (1 : Int32)) + (1 : Int32)) + (1 : Int32)))] [(.ref s_E), (.int ((((((1 : Int32) + (1 : Int32)) + (1 : Int32)) + (1 : Int32)) + (1 : Int32)) + (1 : Int32)))])) _
    refine XS.iloadN X11.here hx rfl (hb hby d3_32) rfl ?_
    show Steps p.tables e below (T11.setTop (mkF m 33 #[.val (.ref ar), .val (.int pp), .val (.int (252 : Int32)), .val (.int (12 : Int32)), .val (.long o5), .second, .val (.int ((((((1 : Int32) + (1 : Int32)) + (1 : Int32)) + (1 : Int32)) + (1 : Int32)) + (1 : Int32)))] [(.int (12 : Int32)), (.ref s_E), (.int ((((((1 : Int32) + (1 : Int32)) + (1 : Int32)) + (1 : Int32)) + (1 : Int32)) + (1 : Int32)))])) _
    refine X11.iaload hx (j := (12 : Int32)) (v := (.int (atv cl_E (12 : Int32)))) (by rw [e11]; exact Sc12.1.1) (State.isArrayOf_alike hZ.alike Sc12.1.2.1) Sc12.1.2.2 hin12 (Sc12.2.2.2 _ hin12) (g := (mkF m 33 #[.val (.ref ar), .val (.int pp), .val (.int (252 : Int32)), .val (.int (12 : Int32)), .val (.long o5), .second, .val (.int ((((((1 : Int32) + (1 : Int32)) + (1 : Int32)) + (1 : Int32)) + (1 : Int32)) + (1 : Int32)))] [(.int (12 : Int32)), (.ref s_E), (.int ((((((1 : Int32) + (1 : Int32)) + (1 : Int32)) + (1 : Int32)) + (1 : Int32)) + (1 : Int32)))])) rfl rfl (hb hby d3_33) _ ?_
    show Steps p.tables e below (T11.setTop (mkF m 34 #[.val (.ref ar), .val (.int pp), .val (.int (252 : Int32)), .val (.int (12 : Int32)), .val (.long o5), .second, .val (.int ((((((1 : Int32) + (1 : Int32)) + (1 : Int32)) + (1 : Int32)) + (1 : Int32)) + (1 : Int32)))] [(.int (atv cl_E (12 : Int32))), (.int ((((((1 : Int32) + (1 : Int32)) + (1 : Int32)) + (1 : Int32)) + (1 : Int32)) + (1 : Int32)))])) _
    rw [E_12]
    show Steps p.tables e below (T11.setTop (mkF m 34 #[.val (.ref ar), .val (.int pp), .val (.int (252 : Int32)), .val (.int (12 : Int32)), .val (.long o5), .second, .val (.int ((((((1 : Int32) + (1 : Int32)) + (1 : Int32)) + (1 : Int32)) + (1 : Int32)) + (1 : Int32)))] [(.int (5 : Int32)), (.int ((((((1 : Int32) + (1 : Int32)) + (1 : Int32)) + (1 : Int32)) + (1 : Int32)) + (1 : Int32)))])) _
    refine XS.icmpYes X11.here hx rfl (pc0 := 34) (pc' := 62) rfl (hb hby d3_34) rfl (tlt (by decide : (5 : Int32) < ((((((1 : Int32) + (1 : Int32)) + (1 : Int32)) + (1 : Int32)) + (1 : Int32)) + (1 : Int32)))).2.2.1 (by decide) (by decide) ?_
    show Steps p.tables e below (T11.setTop (mkF m 62 #[.val (.ref ar), .val (.int pp), .val (.int (252 : Int32)), .val (.int (12 : Int32)), .val (.long o5), .second, .val (.int ((((((1 : Int32) + (1 : Int32)) + (1 : Int32)) + (1 : Int32)) + (1 : Int32)) + (1 : Int32)))] [])) _
    refine st13 _ ?_
    show Steps p.tables e below (T13.setTop (mkF m 65 #[.val (.ref ar), .val (.int pp), .val (.int (252 : Int32)), .val (.int (12 : Int32)), .val (.long o5), .second, .val (.int ((((((1 : Int32) + (1 : Int32)) + (1 : Int32)) + (1 : Int32)) + (1 : Int32)) + (1 : Int32)))] [(.ref s_L)])) _
    refine XS.iloadN X13.here hx rfl (hb hby d3_65) rfl ?_
    show Steps p.tables e below (T13.setTop (mkF m 66 #[.val (.ref ar), .val (.int pp), .val (.int (252 : Int32)), .val (.int (12 : Int32)), .val (.long o5), .second, .val (.int ((((((1 : Int32) + (1 : Int32)) + (1 : Int32)) + (1 : Int32)) + (1 : Int32)) + (1 : Int32)))] [(.int (12 : Int32)), (.ref s_L)])) _
    refine X13.laload hx (j := (12 : Int32)) (v := (.long (4311816608 : Int64))) (by rw [e13]; exact Ar14.1) (State.isArrayOf_alike hZ.alike Ar14.2.1) Ar14.2.2 hin14 hat14 (g := (mkF m 66 #[.val (.ref ar), .val (.int pp), .val (.int (252 : Int32)), .val (.int (12 : Int32)), .val (.long o5), .second, .val (.int ((((((1 : Int32) + (1 : Int32)) + (1 : Int32)) + (1 : Int32)) + (1 : Int32)) + (1 : Int32)))] [(.int (12 : Int32)), (.ref s_L)])) rfl rfl (hb hby d3_66) _ ?_
    show Steps p.tables e below (T13.setTop (mkF m 67 #[.val (.ref ar), .val (.int pp), .val (.int (252 : Int32)), .val (.int (12 : Int32)), .val (.long o5), .second, .val (.int ((((((1 : Int32) + (1 : Int32)) + (1 : Int32)) + (1 : Int32)) + (1 : Int32)) + (1 : Int32)))] [(.long (4311816608 : Int64))])) _
    refine XS.lload X13.here hx rfl (hb hby d3_67) rfl ?_
    refine XS.ladd X13.here hx rfl (hb hby d3_69) rfl ?_
    show Steps p.tables e below (T13.setTop (mkF m 70 #[.val (.ref ar), .val (.int pp), .val (.int (252 : Int32)), .val (.int (12 : Int32)), .val (.long o5), .second, .val (.int ((((((1 : Int32) + (1 : Int32)) + (1 : Int32)) + (1 : Int32)) + (1 : Int32)) + (1 : Int32)))] [(.long ((4311816608 : Int64) + o5))])) _
    exact retOut X13 hx Bd.returns rfl (Or.inr (Or.inl ⟨rfl, rfl, _, rfl⟩)) (hb hby d3_70) hr
  · show own_Ql (own_val 252 t) h0 n0 _ T13.heap _
    rw [e13]
    exact ⟨_, rfl, N0, rfl, own_d_12 ht0 ht1 ho0 ho1 ho2 ho3 ho4 ho5 hy1 hy2 hy3 hy4 hy5⟩
theorem own_d_13 {o0 o1 o2 o3 o4 o5 o6 : Int64} {y1 y2 y3 y4 y5 y6 : Int32} {t : Int} (ht0 : 0 ≤ t) (ht1 : t < 72057594037927936) (ho0 : o0 = (((253 : Int32) - (253 : Int32)).toInt64)) (ho1 : o1 = ((o0 <<< ((8 : Int32) &&& 0x3f).toInt64) ||| ((y1 &&& (255 : Int32)).toInt64))) (ho2 : o2 = ((o1 <<< ((8 : Int32) &&& 0x3f).toInt64) ||| ((y2 &&& (255 : Int32)).toInt64))) (ho3 : o3 = ((o2 <<< ((8 : Int32) &&& 0x3f).toInt64) ||| ((y3 &&& (255 : Int32)).toInt64))) (ho4 : o4 = ((o3 <<< ((8 : Int32) &&& 0x3f).toInt64) ||| ((y4 &&& (255 : Int32)).toInt64))) (ho5 : o5 = ((o4 <<< ((8 : Int32) &&& 0x3f).toInt64) ||| ((y5 &&& (255 : Int32)).toInt64))) (ho6 : o6 = ((o5 <<< ((8 : Int32) &&& 0x3f).toInt64) ||| ((y6 &&& (255 : Int32)).toInt64))) (hy1 : y1.toInt % 256 = (t / 281474976710656) % 256) (hy2 : y2.toInt % 256 = (t / 1099511627776) % 256) (hy3 : y3.toInt % 256 = (t / 4294967296) % 256) (hy4 : y4.toInt % 256 = (t / 16777216) % 256) (hy5 : y5.toInt % 256 = (t / 65536) % 256) (hy6 : y6.toInt % 256 = (t / 256) % 256) : ((1103823444384 : Int64) + o6).toInt = own_val 253 t := by
  rw [own_val_13 (by decide) (by decide)]
  have cL : ((1103823444384 : Int64)).toInt = 1103823444384 := rfl
  have x0 : o0.toInt = 0 := by rw [ho0]; rfl
  have x1 : o1.toInt = (t / 281474976710656) := by
    rw [ho1, own_step (X := (t / 72057594037927936)) (by omega) (by omega) (by omega), hy1]; omega
  have x2 : o2.toInt = (t / 1099511627776) := by
    rw [ho2, own_step (X := (t / 281474976710656)) (by omega) (by omega) (by omega), hy2]; omega
  have x3 : o3.toInt = (t / 4294967296) := by
    rw [ho3, own_step (X := (t / 1099511627776)) (by omega) (by omega) (by omega), hy3]; omega
  have x4 : o4.toInt = (t / 16777216) := by
    rw [ho4, own_step (X := (t / 4294967296)) (by omega) (by omega) (by omega), hy4]; omega
  have x5 : o5.toInt = (t / 65536) := by
    rw [ho5, own_step (X := (t / 16777216)) (by omega) (by omega) (by omega), hy5]; omega
  have x6 : o6.toInt = (t / 256) := by
    rw [ho6, own_step (X := (t / 65536)) (by omega) (by omega) (by omega), hy6]; omega
  rw [Jvm.Kit.i64_add (by omega) (by omega), cL, x6]
  omega
set_option maxRecDepth 65536 in
set_option maxHeartbeats 40000000 in
theorem r_dec_13 (l : Launch) (Z : State) (a0 : Array Value) (hw : ∀ d ∈ tables_1, d.before a0 Z = true) (ws : List Jvm.Cond) (s_R s_F s_E s_L : Addr) (cl_R cl_F cl_E : Cell) (k_L : ClassId) (h0 : Heap) (n0 : Nat) (O0 : Old Z n0 h0) (G : own_Ctx Z Z.heap s_R s_F s_E s_L cl_R cl_F cl_E k_L) (ar : Addr) (kk : ClassId) (vs : List Value) (pp : Int32) (y0 y1 y2 y3 y4 y5 y6 y7 : Int32) (t : Int) (Va : Arv Z h0 ar kk .byte (11 : Int32) vs (.int (0 : Int32))) (hg : y0 &&& (255 : Int32) = (253 : Int32)) (ht0 : 0 ≤ t) (ht1 : t < 72057594037927936) (hp0 : ¬ (pp < 0) ∧ pp < (11 : Int32)) (hv0 : vs.getD (pp).toNatClampNeg (.int (0 : Int32)) = .int y0) (hp1 : ¬ ((pp + (1 : Int32)) < 0) ∧ (pp + (1 : Int32)) < (11 : Int32)) (hv1 : vs.getD ((pp + (1 : Int32))).toNatClampNeg (.int (0 : Int32)) = .int y1) (hp2 : ¬ ((pp + ((1 : Int32) + (1 : Int32))) < 0) ∧ (pp + ((1 : Int32) + (1 : Int32))) < (11 : Int32)) (hv2 : vs.getD ((pp + ((1 : Int32) + (1 : Int32)))).toNatClampNeg (.int (0 : Int32)) = .int y2) (hp3 : ¬ ((pp + (((1 : Int32) + (1 : Int32)) + (1 : Int32))) < 0) ∧ (pp + (((1 : Int32) + (1 : Int32)) + (1 : Int32))) < (11 : Int32)) (hv3 : vs.getD ((pp + (((1 : Int32) + (1 : Int32)) + (1 : Int32)))).toNatClampNeg (.int (0 : Int32)) = .int y3) (hp4 : ¬ ((pp + ((((1 : Int32) + (1 : Int32)) + (1 : Int32)) + (1 : Int32))) < 0) ∧ (pp + ((((1 : Int32) + (1 : Int32)) + (1 : Int32)) + (1 : Int32))) < (11 : Int32)) (hv4 : vs.getD ((pp + ((((1 : Int32) + (1 : Int32)) + (1 : Int32)) + (1 : Int32)))).toNatClampNeg (.int (0 : Int32)) = .int y4) (hp5 : ¬ ((pp + (((((1 : Int32) + (1 : Int32)) + (1 : Int32)) + (1 : Int32)) + (1 : Int32))) < 0) ∧ (pp + (((((1 : Int32) + (1 : Int32)) + (1 : Int32)) + (1 : Int32)) + (1 : Int32))) < (11 : Int32)) (hv5 : vs.getD ((pp + (((((1 : Int32) + (1 : Int32)) + (1 : Int32)) + (1 : Int32)) + (1 : Int32)))).toNatClampNeg (.int (0 : Int32)) = .int y5) (hp6 : ¬ ((pp + ((((((1 : Int32) + (1 : Int32)) + (1 : Int32)) + (1 : Int32)) + (1 : Int32)) + (1 : Int32))) < 0) ∧ (pp + ((((((1 : Int32) + (1 : Int32)) + (1 : Int32)) + (1 : Int32)) + (1 : Int32)) + (1 : Int32))) < (11 : Int32)) (hv6 : vs.getD ((pp + ((((((1 : Int32) + (1 : Int32)) + (1 : Int32)) + (1 : Int32)) + (1 : Int32)) + (1 : Int32)))).toNatClampNeg (.int (0 : Int32)) = .int y6) (hy1 : y1.toInt % 256 = (t / 281474976710656) % 256) (hy2 : y2.toInt % 256 = (t / 1099511627776) % 256) (hy3 : y3.toInt % 256 = (t / 4294967296) % 256) (hy4 : y4.toInt % 256 = (t / 16777216) % 256) (hy5 : y5.toInt % 256 = (t / 65536) % 256) (hy6 : y6.toInt % 256 = (t / 256) % 256) (hR : atv cl_R (253 : Int32) = (13 : Int32)) :
    MetFree l (⟨"com/example/rattan/rattan/storage/label/ComponentCode", "decode", "([BI)J"⟩ : MethodName) (head1 (Jvm.Cond.code (⟨"com/example/rattan/rattan/storage/label/ComponentCode", "decode", "([BI)J"⟩ : MethodName) prog_41_method_4_code 7 (some .long) :: ws) ({ frames := 0, cells := 0, slots := 0, locals := 0 } : Room)) (fun a U => a = #[(.ref ar), (.int pp)] ∧ Z.Warmed39 U.vm ∧ U.heap = h0) (fun _ _ _ _ _ => True) (fun _ U o U' => ∃ v L, o = .returned v ∧ own_Ql (own_val 253 t) h0 n0 v U'.heap L ∧ FrameEnd U o U' L ({ frames := 0, cells := 0, slots := 0, locals := 0 } : Room).cells ({ frames := 0, cells := 0, slots := 0, locals := 0 } : Room).slots) := by
  have G0 := G
  obtain ⟨S_R, C_R, S_F, C_F, S_E, C_E, S_L, V_L, R_1, R_2, R_3, R_4, R_5, F_0, F_1, F_2, F_3, F_4, F_5, F_6, F_7, F_8, F_9, F_10, F_11, F_12, F_13, F_14, E_0, E_1, E_2, E_3, E_4, E_5, E_6, E_7, E_8, E_9, E_10, E_11, E_12, E_13, E_14⟩ := G
  refine MetFree.of_bodySF (plainFor_of_name pn_1) hisR ?_
  intro p e s m args below meth c s₁ Bd hml0 hP hK
  obtain ⟨rfl, hZ, hh⟩ := hP
  have hx := Bd.exec
  have hby := Bd.bytes
  have hml : c.maxLocals = 7 := hml0
  have hown : s.vm.findClass "com/example/rattan/rattan/storage/label/ComponentCode" = some m.cls := findClass_of_methodNamed Bd.named
  have hnm := (name_of_methodNamed Bd.named Bd.method).1
  have X0 : Stand p l e ({ frames := 0, cells := 0, slots := 0, locals := 0 } : Room) s m #[(.ref ar), (.int pp)] below meth c s₁ [] 0 0 := Stand.of_body Bd
  have e0 : s₁.heap = h0 := by rw [← hh, Bd.state]; rfl
  have N0 := Fr.nil n0
  have pre0 : ∀ t, Steps p.tables e below (s₁.setTop (mkF m 0 #[.val (.ref ar), .val (.int pp), .unset, .unset, .unset, .unset, .unset] [])) t → Steps p.tables e below (s₁.setTop (entryFrame m #[(.ref ar), (.int pp)] 7)) t := fun t k => castTop (ef_3_2 m ar pp) k
  have vc1 := Va
  obtain ⟨cl1, Ar1, qk1, S1, Nn1, Hs1, Gf1⟩ := vc1
  have hin1 : ¬ (pp < 0 ∨ cl1.slots.size ≤ (pp).toNatClampNeg) := inb_of S1 hp0
  have hat1 : cl1.slots[(pp).toNatClampNeg]? = some (.int y0) := Has.at Hs1 hin1 hv0
  obtain ⟨T2, X2, e2, st2⟩ := getS2 X0 hx hZ hown (host := "") (Or.inl (hw _ (List.mem_of_getElem? (i := 15) rfl))) Via.refl e0 (S_R.ext O0.2) (g := (mkF m 8 #[.val (.ref ar), .val (.int pp), .val (.int (253 : Int32)), .unset, .unset, .unset, .unset] [])) rfl (hb hby d3_8)
  have Sc3 := (C_R.ext O0.2)
  have hin3 : ¬ ((253 : Int32) < 0 ∨ cl_R.slots.size ≤ ((253 : Int32)).toNatClampNeg) := inb_of Sc3.2.1 ⟨by decide, by decide⟩
  obtain ⟨T4, X4, e4, st4⟩ := getS2 X2 hx hZ hown (host := "") (Or.inl (hw _ (List.mem_of_getElem? (i := 17) rfl))) Via.refl e2 (S_F.ext O0.2) (g := (mkF m 15 #[.val (.ref ar), .val (.int pp), .val (.int (253 : Int32)), .val (.int (13 : Int32)), .unset, .unset, .unset] [(.int (253 : Int32))])) rfl (hb hby d3_15)
  have Sc5 := (C_F.ext O0.2)
  have hin5 : ¬ ((13 : Int32) < 0 ∨ cl_F.slots.size ≤ ((13 : Int32)).toNatClampNeg) := inb_of Sc5.2.1 ⟨by decide, by decide⟩
  obtain ⟨o0, ho0⟩ : ∃ z : Int64, z = (((253 : Int32) - (253 : Int32)).toInt64) := ⟨_, rfl⟩
  obtain ⟨T6, X6, e6, st6⟩ := t_dec s_R s_F s_E s_L cl_R cl_F cl_E k_L ar kk vs pp (253 : Int32) (13 : Int32) o0 (1 : Int32) (6 : Int32) y1 X4 hx hZ hw hby hml hown e4 O0 G0 Va ⟨by decide, by decide⟩ E_13 (by decide) hp1 hv1
  obtain ⟨o1, ho1⟩ : ∃ z : Int64, z = ((o0 <<< ((8 : Int32) &&& 0x3f).toInt64) ||| ((y1 &&& (255 : Int32)).toInt64)) := ⟨_, rfl⟩
  obtain ⟨T7, X7, e7, st7⟩ := t_dec s_R s_F s_E s_L cl_R cl_F cl_E k_L ar kk vs pp (253 : Int32) (13 : Int32) o1 ((1 : Int32) + (1 : Int32)) (6 : Int32) y2 X6 hx hZ hw hby hml hown e6 O0 G0 Va ⟨by decide, by decide⟩ E_13 (by decide) hp2 hv2
  obtain ⟨o2, ho2⟩ : ∃ z : Int64, z = ((o1 <<< ((8 : Int32) &&& 0x3f).toInt64) ||| ((y2 &&& (255 : Int32)).toInt64)) := ⟨_, rfl⟩
  obtain ⟨T8, X8, e8, st8⟩ := t_dec s_R s_F s_E s_L cl_R cl_F cl_E k_L ar kk vs pp (253 : Int32) (13 : Int32) o2 (((1 : Int32) + (1 : Int32)) + (1 : Int32)) (6 : Int32) y3 X7 hx hZ hw hby hml hown e7 O0 G0 Va ⟨by decide, by decide⟩ E_13 (by decide) hp3 hv3
  obtain ⟨o3, ho3⟩ : ∃ z : Int64, z = ((o2 <<< ((8 : Int32) &&& 0x3f).toInt64) ||| ((y3 &&& (255 : Int32)).toInt64)) := ⟨_, rfl⟩
  obtain ⟨T9, X9, e9, st9⟩ := t_dec s_R s_F s_E s_L cl_R cl_F cl_E k_L ar kk vs pp (253 : Int32) (13 : Int32) o3 ((((1 : Int32) + (1 : Int32)) + (1 : Int32)) + (1 : Int32)) (6 : Int32) y4 X8 hx hZ hw hby hml hown e8 O0 G0 Va ⟨by decide, by decide⟩ E_13 (by decide) hp4 hv4
  obtain ⟨o4, ho4⟩ : ∃ z : Int64, z = ((o3 <<< ((8 : Int32) &&& 0x3f).toInt64) ||| ((y4 &&& (255 : Int32)).toInt64)) := ⟨_, rfl⟩
  obtain ⟨T10, X10, e10, st10⟩ := t_dec s_R s_F s_E s_L cl_R cl_F cl_E k_L ar kk vs pp (253 : Int32) (13 : Int32) o4 (((((1 : Int32) + (1 : Int32)) + (1 : Int32)) + (1 : Int32)) + (1 : Int32)) (6 : Int32) y5 X9 hx hZ hw hby hml hown e9 O0 G0 Va ⟨by decide, by decide⟩ E_13 (by decide) hp5 hv5
  obtain ⟨o5, ho5⟩ : ∃ z : Int64, z = ((o4 <<< ((8 : Int32) &&& 0x3f).toInt64) ||| ((y5 &&& (255 : Int32)).toInt64)) := ⟨_, rfl⟩
  obtain ⟨T11, X11, e11, st11⟩ := t_dec s_R s_F s_E s_L cl_R cl_F cl_E k_L ar kk vs pp (253 : Int32) (13 : Int32) o5 ((((((1 : Int32) + (1 : Int32)) + (1 : Int32)) + (1 : Int32)) + (1 : Int32)) + (1 : Int32)) (6 : Int32) y6 X10 hx hZ hw hby hml hown e10 O0 G0 Va ⟨by decide, by decide⟩ E_13 (by decide) hp6 hv6
  obtain ⟨o6, ho6⟩ : ∃ z : Int64, z = ((o5 <<< ((8 : Int32) &&& 0x3f).toInt64) ||| ((y6 &&& (255 : Int32)).toInt64)) := ⟨_, rfl⟩
  obtain ⟨T12, X12, e12, st12⟩ := getS2 X11 hx hZ hown (host := "") (Or.inl (hw _ (List.mem_of_getElem? (i := 19) rfl))) Via.refl e11 (S_E.ext O0.2) (g := (mkF m 29 #[.val (.ref ar), .val (.int pp), .val (.int (253 : Int32)), .val (.int (13 : Int32)), .val (.long o6), .second, .val (.int (((((((1 : Int32) + (1 : Int32)) + (1 : Int32)) + (1 : Int32)) + (1 : Int32)) + (1 : Int32)) + (1 : Int32)))] [(.int (((((((1 : Int32) + (1 : Int32)) + (1 : Int32)) + (1 : Int32)) + (1 : Int32)) + (1 : Int32)) + (1 : Int32)))])) rfl (hb hby d3_29)
  have Sc13 := (C_E.ext O0.2)
  have hin13 : ¬ ((13 : Int32) < 0 ∨ cl_E.slots.size ≤ ((13 : Int32)).toNatClampNeg) := inb_of Sc13.2.1 ⟨by decide, by decide⟩
  obtain ⟨T14, X14, e14, st14⟩ := getS2 X12 hx hZ hown (host := "") (Or.inl (hw _ (List.mem_of_getElem? (i := 21) rfl))) Via.refl e12 (S_L.ext O0.2) (g := (mkF m 62 #[.val (.ref ar), .val (.int pp), .val (.int (253 : Int32)), .val (.int (13 : Int32)), .val (.long o6), .second, .val (.int (((((((1 : Int32) + (1 : Int32)) + (1 : Int32)) + (1 : Int32)) + (1 : Int32)) + (1 : Int32)) + (1 : Int32)))] [])) rfl (hb hby d3_62)
  have vc15 := (V_L.ext O0.2)
  obtain ⟨cl15, Ar15, qk15, S15, Nn15, Hs15, Gf15⟩ := vc15
  have hin15 : ¬ ((13 : Int32) < 0 ∨ cl15.slots.size ≤ ((13 : Int32)).toNatClampNeg) := inb_of S15 ⟨by decide, by decide⟩
  have hat15 : cl15.slots[((13 : Int32)).toNatClampNeg]? = some (.long (1103823444384 : Int64)) := Has.at Hs15 hin15 rfl
  obtain ⟨fs, hr, hrun, hended, hW, hsame⟩ := X14.leave (v := some (.long ((1103823444384 : Int64) + o6))) (fun h => by rw [Bd.returns] at h; cases h)
  refine ⟨_, _, pre0 _ ?_, hrun, hended, _, _, rfl, ?_, ⟨_, rfl⟩, hW, hsame.mono (by decide) (by decide)⟩
  · show Steps p.tables e below (s₁.setTop (mkF m 0 #[.val (.ref ar), .val (.int pp), .unset, .unset, .unset, .unset, .unset] [])) _
    refine XS.aloadN X0.here hx rfl (hb hby d3_0) rfl rfl ?_
    refine XS.iloadN X0.here hx rfl (hb hby d3_1) rfl ?_
    show Steps p.tables e below (s₁.setTop (mkF m 2 #[.val (.ref ar), .val (.int pp), .unset, .unset, .unset, .unset, .unset] [(.int pp), (.ref ar)])) _
    refine X0.baloadBytes hx (j := pp) (v := (.int y0)) (by rw [e0]; exact Ar1.1) (State.isArrayOf_alike hZ.alike Ar1.2.1) Ar1.2.2 hin1 hat1 (g := (mkF m 2 #[.val (.ref ar), .val (.int pp), .unset, .unset, .unset, .unset, .unset] [(.int pp), (.ref ar)])) rfl rfl (hb hby d3_2) _ ?_
    show Steps p.tables e below (s₁.setTop (mkF m 3 #[.val (.ref ar), .val (.int pp), .unset, .unset, .unset, .unset, .unset] [(.int y0)])) _
    refine XS.sipush X0.here hx rfl (hb hby d3_3) ?_
    refine XS.iand X0.here hx rfl (hb hby d3_6) rfl ?_
    show Steps p.tables e below (s₁.setTop (mkF m 7 #[.val (.ref ar), .val (.int pp), .unset, .unset, .unset, .unset, .unset] [(.int (y0 &&& (255 : Int32)))])) _
    rw [hg]
    refine XS.istoreN X0.here hx rfl (hb hby d3_7) rfl (l' := #[.val (.ref ar), .val (.int pp), .val (.int (253 : Int32)), .unset, .unset, .unset, .unset]) rfl ?_
    show Steps p.tables e below (s₁.setTop (mkF m 8 #[.val (.ref ar), .val (.int pp), .val (.int (253 : Int32)), .unset, .unset, .unset, .unset] [])) _
    refine st2 _ ?_
    show Steps p.tables e below (T2.setTop (mkF m 11 #[.val (.ref ar), .val (.int pp), .val (.int (253 : Int32)), .unset, .unset, .unset, .unset] [(.ref s_R)])) _
    refine XS.iloadN X2.here hx rfl (hb hby d3_11) rfl ?_
    show Steps p.tables e below (T2.setTop (mkF m 12 #[.val (.ref ar), .val (.int pp), .val (.int (253 : Int32)), .unset, .unset, .unset, .unset] [(.int (253 : Int32)), (.ref s_R)])) _
    refine X2.iaload hx (j := (253 : Int32)) (v := (.int (atv cl_R (253 : Int32)))) (by rw [e2]; exact Sc3.1.1) (State.isArrayOf_alike hZ.alike Sc3.1.2.1) Sc3.1.2.2 hin3 (Sc3.2.2.2 _ hin3) (g := (mkF m 12 #[.val (.ref ar), .val (.int pp), .val (.int (253 : Int32)), .unset, .unset, .unset, .unset] [(.int (253 : Int32)), (.ref s_R)])) rfl rfl (hb hby d3_12) _ ?_
    show Steps p.tables e below (T2.setTop (mkF m 13 #[.val (.ref ar), .val (.int pp), .val (.int (253 : Int32)), .unset, .unset, .unset, .unset] [(.int (atv cl_R (253 : Int32)))])) _
    rw [hR]
    show Steps p.tables e below (T2.setTop (mkF m 13 #[.val (.ref ar), .val (.int pp), .val (.int (253 : Int32)), .unset, .unset, .unset, .unset] [(.int (13 : Int32))])) _
    refine XS.istoreN X2.here hx rfl (hb hby d3_13) rfl (l' := #[.val (.ref ar), .val (.int pp), .val (.int (253 : Int32)), .val (.int (13 : Int32)), .unset, .unset, .unset]) rfl ?_
    show Steps p.tables e below (T2.setTop (mkF m 14 #[.val (.ref ar), .val (.int pp), .val (.int (253 : Int32)), .val (.int (13 : Int32)), .unset, .unset, .unset] [])) _
    refine XS.iloadN X2.here hx rfl (hb hby d3_14) rfl ?_
    show Steps p.tables e below (T2.setTop (mkF m 15 #[.val (.ref ar), .val (.int pp), .val (.int (253 : Int32)), .val (.int (13 : Int32)), .unset, .unset, .unset] [(.int (253 : Int32))])) _
    refine st4 _ ?_
    show Steps p.tables e below (T4.setTop (mkF m 18 #[.val (.ref ar), .val (.int pp), .val (.int (253 : Int32)), .val (.int (13 : Int32)), .unset, .unset, .unset] [(.ref s_F), (.int (253 : Int32))])) _
    refine XS.iloadN X4.here hx rfl (hb hby d3_18) rfl ?_
    show Steps p.tables e below (T4.setTop (mkF m 19 #[.val (.ref ar), .val (.int pp), .val (.int (253 : Int32)), .val (.int (13 : Int32)), .unset, .unset, .unset] [(.int (13 : Int32)), (.ref s_F), (.int (253 : Int32))])) _
    refine X4.iaload hx (j := (13 : Int32)) (v := (.int (atv cl_F (13 : Int32)))) (by rw [e4]; exact Sc5.1.1) (State.isArrayOf_alike hZ.alike Sc5.1.2.1) Sc5.1.2.2 hin5 (Sc5.2.2.2 _ hin5) (g := (mkF m 19 #[.val (.ref ar), .val (.int pp), .val (.int (253 : Int32)), .val (.int (13 : Int32)), .unset, .unset, .unset] [(.int (13 : Int32)), (.ref s_F), (.int (253 : Int32))])) rfl rfl (hb hby d3_19) _ ?_
    show Steps p.tables e below (T4.setTop (mkF m 20 #[.val (.ref ar), .val (.int pp), .val (.int (253 : Int32)), .val (.int (13 : Int32)), .unset, .unset, .unset] [(.int (atv cl_F (13 : Int32))), (.int (253 : Int32))])) _
    rw [F_13]
    show Steps p.tables e below (T4.setTop (mkF m 20 #[.val (.ref ar), .val (.int pp), .val (.int (253 : Int32)), .val (.int (13 : Int32)), .unset, .unset, .unset] [(.int (253 : Int32)), (.int (253 : Int32))])) _
    refine XS.isub X4.here hx rfl (hb hby d3_20) rfl ?_
    show Steps p.tables e below (T4.setTop (mkF m 21 #[.val (.ref ar), .val (.int pp), .val (.int (253 : Int32)), .val (.int (13 : Int32)), .unset, .unset, .unset] [(.int ((253 : Int32) - (253 : Int32)))])) _
    refine XS.i2l X4.here hx rfl (hb hby d3_21) rfl ?_
    show Steps p.tables e below (T4.setTop (mkF m 22 #[.val (.ref ar), .val (.int pp), .val (.int (253 : Int32)), .val (.int (13 : Int32)), .unset, .unset, .unset] [(.long (((253 : Int32) - (253 : Int32)).toInt64))])) _
    refine XS.lstore X4.here hx rfl (hb hby d3_22) rfl (l' := #[.val (.ref ar), .val (.int pp), .val (.int (253 : Int32)), .val (.int (13 : Int32)), .val (.long (((253 : Int32) - (253 : Int32)).toInt64)), .second, .unset]) rfl ?_
    show Steps p.tables e below (T4.setTop (mkF m 24 #[.val (.ref ar), .val (.int pp), .val (.int (253 : Int32)), .val (.int (13 : Int32)), .val (.long (((253 : Int32) - (253 : Int32)).toInt64)), .second, .unset] [])) _
    refine XS.iconst X4.here hx rfl (hb hby d3_24) ?_
    refine XS.istore X4.here hx rfl (hb hby d3_25) rfl (l' := #[.val (.ref ar), .val (.int pp), .val (.int (253 : Int32)), .val (.int (13 : Int32)), .val (.long (((253 : Int32) - (253 : Int32)).toInt64)), .second, .val (.int (1 : Int32))]) rfl ?_
    show Steps p.tables e below (T4.setTop (mkF m 27 #[.val (.ref ar), .val (.int pp), .val (.int (253 : Int32)), .val (.int (13 : Int32)), .val (.long (((253 : Int32) - (253 : Int32)).toInt64)), .second, .val (.int (1 : Int32))] [])) _
    rw [← ho0]
    show Steps p.tables e below (T4.setTop (mkF m 27 #[.val (.ref ar), .val (.int pp), .val (.int (253 : Int32)), .val (.int (13 : Int32)), .val (.long o0), .second, .val (.int (1 : Int32))] [])) _
    refine st6 _ ?_
    show Steps p.tables e below (T6.setTop (mkF m 27 #[.val (.ref ar), .val (.int pp), .val (.int (253 : Int32)), .val (.int (13 : Int32)), .val (.long ((o0 <<< ((8 : Int32) &&& 0x3f).toInt64) ||| ((y1 &&& (255 : Int32)).toInt64))), .second, .val (.int ((1 : Int32) + (1 : Int32)))] [])) _
    rw [← ho1]
    show Steps p.tables e below (T6.setTop (mkF m 27 #[.val (.ref ar), .val (.int pp), .val (.int (253 : Int32)), .val (.int (13 : Int32)), .val (.long o1), .second, .val (.int ((1 : Int32) + (1 : Int32)))] [])) _
    refine st7 _ ?_
    show Steps p.tables e below (T7.setTop (mkF m 27 #[.val (.ref ar), .val (.int pp), .val (.int (253 : Int32)), .val (.int (13 : Int32)), .val (.long ((o1 <<< ((8 : Int32) &&& 0x3f).toInt64) ||| ((y2 &&& (255 : Int32)).toInt64))), .second, .val (.int (((1 : Int32) + (1 : Int32)) + (1 : Int32)))] [])) _
    rw [← ho2]
    show Steps p.tables e below (T7.setTop (mkF m 27 #[.val (.ref ar), .val (.int pp), .val (.int (253 : Int32)), .val (.int (13 : Int32)), .val (.long o2), .second, .val (.int (((1 : Int32) + (1 : Int32)) + (1 : Int32)))] [])) _
    refine st8 _ ?_
    show Steps p.tables e below (T8.setTop (mkF m 27 #[.val (.ref ar), .val (.int pp), .val (.int (253 : Int32)), .val (.int (13 : Int32)), .val (.long ((o2 <<< ((8 : Int32) &&& 0x3f).toInt64) ||| ((y3 &&& (255 : Int32)).toInt64))), .second, .val (.int ((((1 : Int32) + (1 : Int32)) + (1 : Int32)) + (1 : Int32)))] [])) _
    rw [← ho3]
    show Steps p.tables e below (T8.setTop (mkF m 27 #[.val (.ref ar), .val (.int pp), .val (.int (253 : Int32)), .val (.int (13 : Int32)), .val (.long o3), .second, .val (.int ((((1 : Int32) + (1 : Int32)) + (1 : Int32)) + (1 : Int32)))] [])) _
    refine st9 _ ?_
    show Steps p.tables e below (T9.setTop (mkF m 27 #[.val (.ref ar), .val (.int pp), .val (.int (253 : Int32)), .val (.int (13 : Int32)), .val (.long ((o3 <<< ((8 : Int32) &&& 0x3f).toInt64) ||| ((y4 &&& (255 : Int32)).toInt64))), .second, .val (.int (((((1 : Int32) + (1 : Int32)) + (1 : Int32)) + (1 : Int32)) + (1 : Int32)))] [])) _
    rw [← ho4]
    show Steps p.tables e below (T9.setTop (mkF m 27 #[.val (.ref ar), .val (.int pp), .val (.int (253 : Int32)), .val (.int (13 : Int32)), .val (.long o4), .second, .val (.int (((((1 : Int32) + (1 : Int32)) + (1 : Int32)) + (1 : Int32)) + (1 : Int32)))] [])) _
    refine st10 _ ?_
    show Steps p.tables e below (T10.setTop (mkF m 27 #[.val (.ref ar), .val (.int pp), .val (.int (253 : Int32)), .val (.int (13 : Int32)), .val (.long ((o4 <<< ((8 : Int32) &&& 0x3f).toInt64) ||| ((y5 &&& (255 : Int32)).toInt64))), .second, .val (.int ((((((1 : Int32) + (1 : Int32)) + (1 : Int32)) + (1 : Int32)) + (1 : Int32)) + (1 : Int32)))] [])) _
    rw [← ho5]
    show Steps p.tables e below (T10.setTop (mkF m 27 #[.val (.ref ar), .val (.int pp), .val (.int (253 : Int32)), .val (.int (13 : Int32)), .val (.long o5), .second, .val (.int ((((((1 : Int32) + (1 : Int32)) + (1 : Int32)) + (1 : Int32)) + (1 : Int32)) + (1 : Int32)))] [])) _
    refine st11 _ ?_
    show Steps p.tables e below (T11.setTop (mkF m 27 #[.val (.ref ar), .val (.int pp), .val (.int (253 : Int32)), .val (.int (13 : Int32)), .val (.long ((o5 <<< ((8 : Int32) &&& 0x3f).toInt64) ||| ((y6 &&& (255 : Int32)).toInt64))), .second, .val (.int (((((((1 : Int32) + (1 : Int32)) + (1 : Int32)) + (1 : Int32)) + (1 : Int32)) + (1 : Int32)) + (1 : Int32)))] [])) _
    rw [← ho6]
    show Steps p.tables e below (T11.setTop (mkF m 27 #[.val (.ref ar), .val (.int pp), .val (.int (253 : Int32)), .val (.int (13 : Int32)), .val (.long o6), .second, .val (.int (((((((1 : Int32) + (1 : Int32)) + (1 : Int32)) + (1 : Int32)) + (1 : Int32)) + (1 : Int32)) + (1 : Int32)))] [])) _
    refine XS.iload X11.here hx rfl (hb hby d3_27) rfl ?_
    show Steps p.tables e below (T11.setTop (mkF m 29 #[.val (.ref ar), .val (.int pp), .val (.int (253 : Int32)), .val (.int (13 : Int32)), .val (.long o6), .second, .val (.int (((((((1 : Int32) + (1 : Int32)) + (1 : Int32)) + (1 : Int32)) + (1 : Int32)) + (1 : Int32)) + (1 : Int32)))] [(.int (((((((1 : Int32) + (1 : Int32)) + (1 : Int32)) + (1 : Int32)) + (1 : Int32)) + (1 : Int32)) + (1 : Int32)))])) _
    refine st12 _ ?_
    show Steps p.tables e below (T12.setTop (mkF m 32 #[.val (.ref ar), .val (.int pp), .val (.int (253 : Int32)), .val (.int (13 : Int32)), .val (.long o6), .second, .val (.int (((((((1 : Int32) + (1 : Int32)) + (1 : Int32)) + (1 : Int32)) + (1 : Int32)) + (1 : Int32)) + (1 : Int32)))] [(.ref s_E), (.int (((((((1 : Int32) + (1 : Int32)) + (1 : Int32)) + (1 : Int32)) + (1 : Int32)) + (1 : Int32)) + (1 : Int32)))])) _
    refine XS.iloadN X12.here hx rfl (hb hby d3_32) rfl ?_
    show Steps p.tables e below (T12.setTop (mkF m 33 #[.val (.ref ar), .val (.int pp), .val (.int (253 : Int32)), .val (.int (13 : Int32)), .val (.long o6), .second, .val (.int (((((((1 : Int32) + (1 : Int32)) + (1 : Int32)) + (1 : Int32)) + (1 : Int32)) + (1 : Int32)) + (1 : Int32)))] [(.int (13 : Int32)), (.ref s_E), (.int (((((((1 : Int32) + (1 : Int32)) + (1 : Int32)) + (1 : Int32)) + (1 : Int32)) + (1 : Int32)) + (1 : Int32)))])) _
    refine X12.iaload hx (j := (13 : Int32)) (v := (.int (atv cl_E (13 : Int32)))) (by rw [e12]; exact Sc13.1.1) (State.isArrayOf_alike hZ.alike Sc13.1.2.1) Sc13.1.2.2 hin13 (Sc13.2.2.2 _ hin13) (g := (mkF m 33 #[.val (.ref ar), .val (.int pp), .val (.int (253 : Int32)), .val (.int (13 : Int32)), .val (.long o6), .second, .val (.int (((((((1 : Int32) + (1 : Int32)) + (1 : Int32)) + (1 : Int32)) + (1 : Int32)) + (1 : Int32)) + (1 : Int32)))] [(.int (13 : Int32)), (.ref s_E), (.int (((((((1 : Int32) + (1 : Int32)) + (1 : Int32)) + (1 : Int32)) + (1 : Int32)) + (1 : Int32)) + (1 : Int32)))])) rfl rfl (hb hby d3_33) _ ?_
    show Steps p.tables e below (T12.setTop (mkF m 34 #[.val (.ref ar), .val (.int pp), .val (.int (253 : Int32)), .val (.int (13 : Int32)), .val (.long o6), .second, .val (.int (((((((1 : Int32) + (1 : Int32)) + (1 : Int32)) + (1 : Int32)) + (1 : Int32)) + (1 : Int32)) + (1 : Int32)))] [(.int (atv cl_E (13 : Int32))), (.int (((((((1 : Int32) + (1 : Int32)) + (1 : Int32)) + (1 : Int32)) + (1 : Int32)) + (1 : Int32)) + (1 : Int32)))])) _
    rw [E_13]
    show Steps p.tables e below (T12.setTop (mkF m 34 #[.val (.ref ar), .val (.int pp), .val (.int (253 : Int32)), .val (.int (13 : Int32)), .val (.long o6), .second, .val (.int (((((((1 : Int32) + (1 : Int32)) + (1 : Int32)) + (1 : Int32)) + (1 : Int32)) + (1 : Int32)) + (1 : Int32)))] [(.int (6 : Int32)), (.int (((((((1 : Int32) + (1 : Int32)) + (1 : Int32)) + (1 : Int32)) + (1 : Int32)) + (1 : Int32)) + (1 : Int32)))])) _
    refine XS.icmpYes X12.here hx rfl (pc0 := 34) (pc' := 62) rfl (hb hby d3_34) rfl (tlt (by decide : (6 : Int32) < (((((((1 : Int32) + (1 : Int32)) + (1 : Int32)) + (1 : Int32)) + (1 : Int32)) + (1 : Int32)) + (1 : Int32)))).2.2.1 (by decide) (by decide) ?_
    show Steps p.tables e below (T12.setTop (mkF m 62 #[.val (.ref ar), .val (.int pp), .val (.int (253 : Int32)), .val (.int (13 : Int32)), .val (.long o6), .second, .val (.int (((((((1 : Int32) + (1 : Int32)) + (1 : Int32)) + (1 : Int32)) + (1 : Int32)) + (1 : Int32)) + (1 : Int32)))] [])) _
    refine st14 _ ?_
    show Steps p.tables e below (T14.setTop (mkF m 65 #[.val (.ref ar), .val (.int pp), .val (.int (253 : Int32)), .val (.int (13 : Int32)), .val (.long o6), .second, .val (.int (((((((1 : Int32) + (1 : Int32)) + (1 : Int32)) + (1 : Int32)) + (1 : Int32)) + (1 : Int32)) + (1 : Int32)))] [(.ref s_L)])) _
    refine XS.iloadN X14.here hx rfl (hb hby d3_65) rfl ?_
    show Steps p.tables e below (T14.setTop (mkF m 66 #[.val (.ref ar), .val (.int pp), .val (.int (253 : Int32)), .val (.int (13 : Int32)), .val (.long o6), .second, .val (.int (((((((1 : Int32) + (1 : Int32)) + (1 : Int32)) + (1 : Int32)) + (1 : Int32)) + (1 : Int32)) + (1 : Int32)))] [(.int (13 : Int32)), (.ref s_L)])) _
    refine X14.laload hx (j := (13 : Int32)) (v := (.long (1103823444384 : Int64))) (by rw [e14]; exact Ar15.1) (State.isArrayOf_alike hZ.alike Ar15.2.1) Ar15.2.2 hin15 hat15 (g := (mkF m 66 #[.val (.ref ar), .val (.int pp), .val (.int (253 : Int32)), .val (.int (13 : Int32)), .val (.long o6), .second, .val (.int (((((((1 : Int32) + (1 : Int32)) + (1 : Int32)) + (1 : Int32)) + (1 : Int32)) + (1 : Int32)) + (1 : Int32)))] [(.int (13 : Int32)), (.ref s_L)])) rfl rfl (hb hby d3_66) _ ?_
    show Steps p.tables e below (T14.setTop (mkF m 67 #[.val (.ref ar), .val (.int pp), .val (.int (253 : Int32)), .val (.int (13 : Int32)), .val (.long o6), .second, .val (.int (((((((1 : Int32) + (1 : Int32)) + (1 : Int32)) + (1 : Int32)) + (1 : Int32)) + (1 : Int32)) + (1 : Int32)))] [(.long (1103823444384 : Int64))])) _
    refine XS.lload X14.here hx rfl (hb hby d3_67) rfl ?_
    refine XS.ladd X14.here hx rfl (hb hby d3_69) rfl ?_
    show Steps p.tables e below (T14.setTop (mkF m 70 #[.val (.ref ar), .val (.int pp), .val (.int (253 : Int32)), .val (.int (13 : Int32)), .val (.long o6), .second, .val (.int (((((((1 : Int32) + (1 : Int32)) + (1 : Int32)) + (1 : Int32)) + (1 : Int32)) + (1 : Int32)) + (1 : Int32)))] [(.long ((1103823444384 : Int64) + o6))])) _
    exact retOut X14 hx Bd.returns rfl (Or.inr (Or.inl ⟨rfl, rfl, _, rfl⟩)) (hb hby d3_70) hr
  · show own_Ql (own_val 253 t) h0 n0 _ T14.heap _
    rw [e14]
    exact ⟨_, rfl, N0, rfl, own_d_13 ht0 ht1 ho0 ho1 ho2 ho3 ho4 ho5 ho6 hy1 hy2 hy3 hy4 hy5 hy6⟩
theorem own_d_14 {o0 o1 o2 o3 o4 o5 o6 o7 : Int64} {y1 y2 y3 y4 y5 y6 y7 : Int32} {t : Int} (ht0 : 0 ≤ t) (ht1 : t < 72057594037927936) (ho0 : o0 = (((254 : Int32) - (254 : Int32)).toInt64)) (ho1 : o1 = ((o0 <<< ((8 : Int32) &&& 0x3f).toInt64) ||| ((y1 &&& (255 : Int32)).toInt64))) (ho2 : o2 = ((o1 <<< ((8 : Int32) &&& 0x3f).toInt64) ||| ((y2 &&& (255 : Int32)).toInt64))) (ho3 : o3 = ((o2 <<< ((8 : Int32) &&& 0x3f).toInt64) ||| ((y3 &&& (255 : Int32)).toInt64))) (ho4 : o4 = ((o3 <<< ((8 : Int32) &&& 0x3f).toInt64) ||| ((y4 &&& (255 : Int32)).toInt64))) (ho5 : o5 = ((o4 <<< ((8 : Int32) &&& 0x3f).toInt64) ||| ((y5 &&& (255 : Int32)).toInt64))) (ho6 : o6 = ((o5 <<< ((8 : Int32) &&& 0x3f).toInt64) ||| ((y6 &&& (255 : Int32)).toInt64))) (ho7 : o7 = ((o6 <<< ((8 : Int32) &&& 0x3f).toInt64) ||| ((y7 &&& (255 : Int32)).toInt64))) (hy1 : y1.toInt % 256 = (t / 281474976710656) % 256) (hy2 : y2.toInt % 256 = (t / 1099511627776) % 256) (hy3 : y3.toInt % 256 = (t / 4294967296) % 256) (hy4 : y4.toInt % 256 = (t / 16777216) % 256) (hy5 : y5.toInt % 256 = (t / 65536) % 256) (hy6 : y6.toInt % 256 = (t / 256) % 256) (hy7 : y7.toInt % 256 = (t / 1) % 256) : ((282578800155040 : Int64) + o7).toInt = own_val 254 t := by
  rw [own_val_14 (by decide) (by decide)]
  have cL : ((282578800155040 : Int64)).toInt = 282578800155040 := rfl
  have x0 : o0.toInt = 0 := by rw [ho0]; rfl
  have x1 : o1.toInt = (t / 281474976710656) := by
    rw [ho1, own_step (X := (t / 72057594037927936)) (by omega) (by omega) (by omega), hy1]; omega
  have x2 : o2.toInt = (t / 1099511627776) := by
    rw [ho2, own_step (X := (t / 281474976710656)) (by omega) (by omega) (by omega), hy2]; omega
  have x3 : o3.toInt = (t / 4294967296) := by
    rw [ho3, own_step (X := (t / 1099511627776)) (by omega) (by omega) (by omega), hy3]; omega
  have x4 : o4.toInt = (t / 16777216) := by
    rw [ho4, own_step (X := (t / 4294967296)) (by omega) (by omega) (by omega), hy4]; omega
  have x5 : o5.toInt = (t / 65536) := by
    rw [ho5, own_step (X := (t / 16777216)) (by omega) (by omega) (by omega), hy5]; omega
  have x6 : o6.toInt = (t / 256) := by
    rw [ho6, own_step (X := (t / 65536)) (by omega) (by omega) (by omega), hy6]; omega
  have x7 : o7.toInt = (t / 1) := by
    rw [ho7, own_step (X := (t / 256)) (by omega) (by omega) (by omega), hy7]; omega
  rw [Jvm.Kit.i64_add (by omega) (by omega), cL, x7]
  omega
set_option maxRecDepth 65536 in
set_option maxHeartbeats 40000000 in
theorem r_dec_14 (l : Launch) (Z : State) (a0 : Array Value) (hw : ∀ d ∈ tables_1, d.before a0 Z = true) (ws : List Jvm.Cond) (s_R s_F s_E s_L : Addr) (cl_R cl_F cl_E : Cell) (k_L : ClassId) (h0 : Heap) (n0 : Nat) (O0 : Old Z n0 h0) (G : own_Ctx Z Z.heap s_R s_F s_E s_L cl_R cl_F cl_E k_L) (ar : Addr) (kk : ClassId) (vs : List Value) (pp : Int32) (y0 y1 y2 y3 y4 y5 y6 y7 : Int32) (t : Int) (Va : Arv Z h0 ar kk .byte (11 : Int32) vs (.int (0 : Int32))) (hg : y0 &&& (255 : Int32) = (254 : Int32)) (ht0 : 0 ≤ t) (ht1 : t < 72057594037927936) (hp0 : ¬ (pp < 0) ∧ pp < (11 : Int32)) (hv0 : vs.getD (pp).toNatClampNeg (.int (0 : Int32)) = .int y0) (hp1 : ¬ ((pp + (1 : Int32)) < 0) ∧ (pp + (1 : Int32)) < (11 : Int32)) (hv1 : vs.getD ((pp + (1 : Int32))).toNatClampNeg (.int (0 : Int32)) = .int y1) (hp2 : ¬ ((pp + ((1 : Int32) + (1 : Int32))) < 0) ∧ (pp + ((1 : Int32) + (1 : Int32))) < (11 : Int32)) (hv2 : vs.getD ((pp + ((1 : Int32) + (1 : Int32)))).toNatClampNeg (.int (0 : Int32)) = .int y2) (hp3 : ¬ ((pp + (((1 : Int32) + (1 : Int32)) + (1 : Int32))) < 0) ∧ (pp + (((1 : Int32) + (1 : Int32)) + (1 : Int32))) < (11 : Int32)) (hv3 : vs.getD ((pp + (((1 : Int32) + (1 : Int32)) + (1 : Int32)))).toNatClampNeg (.int (0 : Int32)) = .int y3) (hp4 : ¬ ((pp + ((((1 : Int32) + (1 : Int32)) + (1 : Int32)) + (1 : Int32))) < 0) ∧ (pp + ((((1 : Int32) + (1 : Int32)) + (1 : Int32)) + (1 : Int32))) < (11 : Int32)) (hv4 : vs.getD ((pp + ((((1 : Int32) + (1 : Int32)) + (1 : Int32)) + (1 : Int32)))).toNatClampNeg (.int (0 : Int32)) = .int y4) (hp5 : ¬ ((pp + (((((1 : Int32) + (1 : Int32)) + (1 : Int32)) + (1 : Int32)) + (1 : Int32))) < 0) ∧ (pp + (((((1 : Int32) + (1 : Int32)) + (1 : Int32)) + (1 : Int32)) + (1 : Int32))) < (11 : Int32)) (hv5 : vs.getD ((pp + (((((1 : Int32) + (1 : Int32)) + (1 : Int32)) + (1 : Int32)) + (1 : Int32)))).toNatClampNeg (.int (0 : Int32)) = .int y5) (hp6 : ¬ ((pp + ((((((1 : Int32) + (1 : Int32)) + (1 : Int32)) + (1 : Int32)) + (1 : Int32)) + (1 : Int32))) < 0) ∧ (pp + ((((((1 : Int32) + (1 : Int32)) + (1 : Int32)) + (1 : Int32)) + (1 : Int32)) + (1 : Int32))) < (11 : Int32)) (hv6 : vs.getD ((pp + ((((((1 : Int32) + (1 : Int32)) + (1 : Int32)) + (1 : Int32)) + (1 : Int32)) + (1 : Int32)))).toNatClampNeg (.int (0 : Int32)) = .int y6) (hp7 : ¬ ((pp + (((((((1 : Int32) + (1 : Int32)) + (1 : Int32)) + (1 : Int32)) + (1 : Int32)) + (1 : Int32)) + (1 : Int32))) < 0) ∧ (pp + (((((((1 : Int32) + (1 : Int32)) + (1 : Int32)) + (1 : Int32)) + (1 : Int32)) + (1 : Int32)) + (1 : Int32))) < (11 : Int32)) (hv7 : vs.getD ((pp + (((((((1 : Int32) + (1 : Int32)) + (1 : Int32)) + (1 : Int32)) + (1 : Int32)) + (1 : Int32)) + (1 : Int32)))).toNatClampNeg (.int (0 : Int32)) = .int y7) (hy1 : y1.toInt % 256 = (t / 281474976710656) % 256) (hy2 : y2.toInt % 256 = (t / 1099511627776) % 256) (hy3 : y3.toInt % 256 = (t / 4294967296) % 256) (hy4 : y4.toInt % 256 = (t / 16777216) % 256) (hy5 : y5.toInt % 256 = (t / 65536) % 256) (hy6 : y6.toInt % 256 = (t / 256) % 256) (hy7 : y7.toInt % 256 = (t / 1) % 256) (hR : atv cl_R (254 : Int32) = (14 : Int32)) :
    MetFree l (⟨"com/example/rattan/rattan/storage/label/ComponentCode", "decode", "([BI)J"⟩ : MethodName) (head1 (Jvm.Cond.code (⟨"com/example/rattan/rattan/storage/label/ComponentCode", "decode", "([BI)J"⟩ : MethodName) prog_41_method_4_code 7 (some .long) :: ws) ({ frames := 0, cells := 0, slots := 0, locals := 0 } : Room)) (fun a U => a = #[(.ref ar), (.int pp)] ∧ Z.Warmed39 U.vm ∧ U.heap = h0) (fun _ _ _ _ _ => True) (fun _ U o U' => ∃ v L, o = .returned v ∧ own_Ql (own_val 254 t) h0 n0 v U'.heap L ∧ FrameEnd U o U' L ({ frames := 0, cells := 0, slots := 0, locals := 0 } : Room).cells ({ frames := 0, cells := 0, slots := 0, locals := 0 } : Room).slots) := by
  have G0 := G
  obtain ⟨S_R, C_R, S_F, C_F, S_E, C_E, S_L, V_L, R_1, R_2, R_3, R_4, R_5, F_0, F_1, F_2, F_3, F_4, F_5, F_6, F_7, F_8, F_9, F_10, F_11, F_12, F_13, F_14, E_0, E_1, E_2, E_3, E_4, E_5, E_6, E_7, E_8, E_9, E_10, E_11, E_12, E_13, E_14⟩ := G
  refine MetFree.of_bodySF (plainFor_of_name pn_1) hisR ?_
  intro p e s m args below meth c s₁ Bd hml0 hP hK
  obtain ⟨rfl, hZ, hh⟩ := hP
  have hx := Bd.exec
  have hby := Bd.bytes
  have hml : c.maxLocals = 7 := hml0
  have hown : s.vm.findClass "com/example/rattan/rattan/storage/label/ComponentCode" = some m.cls := findClass_of_methodNamed Bd.named
  have hnm := (name_of_methodNamed Bd.named Bd.method).1
  have X0 : Stand p l e ({ frames := 0, cells := 0, slots := 0, locals := 0 } : Room) s m #[(.ref ar), (.int pp)] below meth c s₁ [] 0 0 := Stand.of_body Bd
  have e0 : s₁.heap = h0 := by rw [← hh, Bd.state]; rfl
  have N0 := Fr.nil n0
  have pre0 : ∀ t, Steps p.tables e below (s₁.setTop (mkF m 0 #[.val (.ref ar), .val (.int pp), .unset, .unset, .unset, .unset, .unset] [])) t → Steps p.tables e below (s₁.setTop (entryFrame m #[(.ref ar), (.int pp)] 7)) t := fun t k => castTop (ef_3_2 m ar pp) k
  have vc1 := Va
  obtain ⟨cl1, Ar1, qk1, S1, Nn1, Hs1, Gf1⟩ := vc1
  have hin1 : ¬ (pp < 0 ∨ cl1.slots.size ≤ (pp).toNatClampNeg) := inb_of S1 hp0
  have hat1 : cl1.slots[(pp).toNatClampNeg]? = some (.int y0) := Has.at Hs1 hin1 hv0
  obtain ⟨T2, X2, e2, st2⟩ := getS2 X0 hx hZ hown (host := "") (Or.inl (hw _ (List.mem_of_getElem? (i := 15) rfl))) Via.refl e0 (S_R.ext O0.2) (g := (mkF m 8 #[.val (.ref ar), .val (.int pp), .val (.int (254 : Int32)), .unset, .unset, .unset, .unset] [])) rfl (hb hby d3_8)
  have Sc3 := (C_R.ext O0.2)
  have hin3 : ¬ ((254 : Int32) < 0 ∨ cl_R.slots.size ≤ ((254 : Int32)).toNatClampNeg) := inb_of Sc3.2.1 ⟨by decide, by decide⟩
  obtain ⟨T4, X4, e4, st4⟩ := getS2 X2 hx hZ hown (host := "") (Or.inl (hw _ (List.mem_of_getElem? (i := 17) rfl))) Via.refl e2 (S_F.ext O0.2) (g := (mkF m 15 #[.val (.ref ar), .val (.int pp), .val (.int (254 : Int32)), .val (.int (14 : Int32)), .unset, .unset, .unset] [(.int (254 : Int32))])) rfl (hb hby d3_15)
  have Sc5 := (C_F.ext O0.2)
  have hin5 : ¬ ((14 : Int32) < 0 ∨ cl_F.slots.size ≤ ((14 : Int32)).toNatClampNeg) := inb_of Sc5.2.1 ⟨by decide, by decide⟩
  obtain ⟨o0, ho0⟩ : ∃ z : Int64, z = (((254 : Int32) - (254 : Int32)).toInt64) := ⟨_, rfl⟩
  obtain ⟨T6, X6, e6, st6⟩ := t_dec s_R s_F s_E s_L cl_R cl_F cl_E k_L ar kk vs pp (254 : Int32) (14 : Int32) o0 (1 : Int32) (7 : Int32) y1 X4 hx hZ hw hby hml hown e4 O0 G0 Va ⟨by decide, by decide⟩ E_14 (by decide) hp1 hv1
  obtain ⟨o1, ho1⟩ : ∃ z : Int64, z = ((o0 <<< ((8 : Int32) &&& 0x3f).toInt64) ||| ((y1 &&& (255 : Int32)).toInt64)) := ⟨_, rfl⟩
  obtain ⟨T7, X7, e7, st7⟩ := t_dec s_R s_F s_E s_L cl_R cl_F cl_E k_L ar kk vs pp (254 : Int32) (14 : Int32) o1 ((1 : Int32) + (1 : Int32)) (7 : Int32) y2 X6 hx hZ hw hby hml hown e6 O0 G0 Va ⟨by decide, by decide⟩ E_14 (by decide) hp2 hv2
  obtain ⟨o2, ho2⟩ : ∃ z : Int64, z = ((o1 <<< ((8 : Int32) &&& 0x3f).toInt64) ||| ((y2 &&& (255 : Int32)).toInt64)) := ⟨_, rfl⟩
  obtain ⟨T8, X8, e8, st8⟩ := t_dec s_R s_F s_E s_L cl_R cl_F cl_E k_L ar kk vs pp (254 : Int32) (14 : Int32) o2 (((1 : Int32) + (1 : Int32)) + (1 : Int32)) (7 : Int32) y3 X7 hx hZ hw hby hml hown e7 O0 G0 Va ⟨by decide, by decide⟩ E_14 (by decide) hp3 hv3
  obtain ⟨o3, ho3⟩ : ∃ z : Int64, z = ((o2 <<< ((8 : Int32) &&& 0x3f).toInt64) ||| ((y3 &&& (255 : Int32)).toInt64)) := ⟨_, rfl⟩
  obtain ⟨T9, X9, e9, st9⟩ := t_dec s_R s_F s_E s_L cl_R cl_F cl_E k_L ar kk vs pp (254 : Int32) (14 : Int32) o3 ((((1 : Int32) + (1 : Int32)) + (1 : Int32)) + (1 : Int32)) (7 : Int32) y4 X8 hx hZ hw hby hml hown e8 O0 G0 Va ⟨by decide, by decide⟩ E_14 (by decide) hp4 hv4
  obtain ⟨o4, ho4⟩ : ∃ z : Int64, z = ((o3 <<< ((8 : Int32) &&& 0x3f).toInt64) ||| ((y4 &&& (255 : Int32)).toInt64)) := ⟨_, rfl⟩
  obtain ⟨T10, X10, e10, st10⟩ := t_dec s_R s_F s_E s_L cl_R cl_F cl_E k_L ar kk vs pp (254 : Int32) (14 : Int32) o4 (((((1 : Int32) + (1 : Int32)) + (1 : Int32)) + (1 : Int32)) + (1 : Int32)) (7 : Int32) y5 X9 hx hZ hw hby hml hown e9 O0 G0 Va ⟨by decide, by decide⟩ E_14 (by decide) hp5 hv5
  obtain ⟨o5, ho5⟩ : ∃ z : Int64, z = ((o4 <<< ((8 : Int32) &&& 0x3f).toInt64) ||| ((y5 &&& (255 : Int32)).toInt64)) := ⟨_, rfl⟩
  obtain ⟨T11, X11, e11, st11⟩ := t_dec s_R s_F s_E s_L cl_R cl_F cl_E k_L ar kk vs pp (254 : Int32) (14 : Int32) o5 ((((((1 : Int32) + (1 : Int32)) + (1 : Int32)) + (1 : Int32)) + (1 : Int32)) + (1 : Int32)) (7 : Int32) y6 X10 hx hZ hw hby hml hown e10 O0 G0 Va ⟨by decide, by decide⟩ E_14 (by decide) hp6 hv6
  obtain ⟨o6, ho6⟩ : ∃ z : Int64, z = ((o5 <<< ((8 : Int32) &&& 0x3f).toInt64) ||| ((y6 &&& (255 : Int32)).toInt64)) := ⟨_, rfl⟩
  obtain ⟨T12, X12, e12, st12⟩ := t_dec s_R s_F s_E s_L cl_R cl_F cl_E k_L ar kk vs pp (254 : Int32) (14 : Int32) o6 (((((((1 : Int32) + (1 : Int32)) + (1 : Int32)) + (1 : Int32)) + (1 : Int32)) + (1 : Int32)) + (1 : Int32)) (7 : Int32) y7 X11 hx hZ hw hby hml hown e11 O0 G0 Va ⟨by decide, by decide⟩ E_14 (by decide) hp7 hv7
  obtain ⟨o7, ho7⟩ : ∃ z : Int64, z = ((o6 <<< ((8 : Int32) &&& 0x3f).toInt64) ||| ((y7 &&& (255 : Int32)).toInt64)) := ⟨_, rfl⟩
  obtain ⟨T13, X13, e13, st13⟩ := getS2 X12 hx hZ hown (host := "") (Or.inl (hw _ (List.mem_of_getElem? (i := 19) rfl))) Via.refl e12 (S_E.ext O0.2) (g := (mkF m 29 #[.val (.ref ar), .val (.int pp), .val (.int (254 : Int32)), .val (.int (14 : Int32)), .val (.long o7), .second, .val (.int ((((((((1 : Int32) + (1 : Int32)) + (1 : Int32)) + (1 : Int32)) + (1 : Int32)) + (1 : Int32)) + (1 : Int32)) + (1 : Int32)))] [(.int ((((((((1 : Int32) + (1 : Int32)) + (1 : Int32)) + (1 : Int32)) + (1 : Int32)) + (1 : Int32)) + (1 : Int32)) + (1 : Int32)))])) rfl (hb hby d3_29)
  have Sc14 := (C_E.ext O0.2)
  have hin14 : ¬ ((14 : Int32) < 0 ∨ cl_E.slots.size ≤ ((14 : Int32)).toNatClampNeg) := inb_of Sc14.2.1 ⟨by decide, by decide⟩
  obtain ⟨T15, X15, e15, st15⟩ := getS2 X13 hx hZ hown (host := "") (Or.inl (hw _ (List.mem_of_getElem? (i := 21) rfl))) Via.refl e13 (S_L.ext O0.2) (g := (mkF m 62 #[.val (.ref ar), .val (.int pp), .val (.int (254 : Int32)), .val (.int (14 : Int32)), .val (.long o7), .second, .val (.int ((((((((1 : Int32) + (1 : Int32)) + (1 : Int32)) + (1 : Int32)) + (1 : Int32)) + (1 : Int32)) + (1 : Int32)) + (1 : Int32)))] [])) rfl (hb hby d3_62)
  have vc16 := (V_L.ext O0.2)
  obtain ⟨cl16, Ar16, qk16, S16, Nn16, Hs16, Gf16⟩ := vc16
  have hin16 : ¬ ((14 : Int32) < 0 ∨ cl16.slots.size ≤ ((14 : Int32)).toNatClampNeg) := inb_of S16 ⟨by decide, by decide⟩
  have hat16 : cl16.slots[((14 : Int32)).toNatClampNeg]? = some (.long (282578800155040 : Int64)) := Has.at Hs16 hin16 rfl
  obtain ⟨fs, hr, hrun, hended, hW, hsame⟩ := X15.leave (v := some (.long ((282578800155040 : Int64) + o7))) (fun h => by rw [Bd.returns] at h; cases h)
  refine ⟨_, _, pre0 _ ?_, hrun, hended, _, _, rfl, ?_, ⟨_, rfl⟩, hW, hsame.mono (by decide) (by decide)⟩
  · show Steps p.tables e below (s₁.setTop (mkF m 0 #[.val (.ref ar), .val (.int pp), .unset, .unset, .unset, .unset, .unset] [])) _
    refine XS.aloadN X0.here hx rfl (hb hby d3_0) rfl rfl ?_
    refine XS.iloadN X0.here hx rfl (hb hby d3_1) rfl ?_
    show Steps p.tables e below (s₁.setTop (mkF m 2 #[.val (.ref ar), .val (.int pp), .unset, .unset, .unset, .unset, .unset] [(.int pp), (.ref ar)])) _
    refine X0.baloadBytes hx (j := pp) (v := (.int y0)) (by rw [e0]; exact Ar1.1) (State.isArrayOf_alike hZ.alike Ar1.2.1) Ar1.2.2 hin1 hat1 (g := (mkF m 2 #[.val (.ref ar), .val (.int pp), .unset, .unset, .unset, .unset, .unset] [(.int pp), (.ref ar)])) rfl rfl (hb hby d3_2) _ ?_
    show Steps p.tables e below (s₁.setTop (mkF m 3 #[.val (.ref ar), .val (.int pp), .unset, .unset, .unset, .unset, .unset] [(.int y0)])) _
    refine XS.sipush X0.here hx rfl (hb hby d3_3) ?_
    refine XS.iand X0.here hx rfl (hb hby d3_6) rfl ?_
    show Steps p.tables e below (s₁.setTop (mkF m 7 #[.val (.ref ar), .val (.int pp), .unset, .unset, .unset, .unset, .unset] [(.int (y0 &&& (255 : Int32)))])) _
    rw [hg]
    refine XS.istoreN X0.here hx rfl (hb hby d3_7) rfl (l' := #[.val (.ref ar), .val (.int pp), .val (.int (254 : Int32)), .unset, .unset, .unset, .unset]) rfl ?_
    show Steps p.tables e below (s₁.setTop (mkF m 8 #[.val (.ref ar), .val (.int pp), .val (.int (254 : Int32)), .unset, .unset, .unset, .unset] [])) _
    refine st2 _ ?_
    show Steps p.tables e below (T2.setTop (mkF m 11 #[.val (.ref ar), .val (.int pp), .val (.int (254 : Int32)), .unset, .unset, .unset, .unset] [(.ref s_R)])) _
    refine XS.iloadN X2.here hx rfl (hb hby d3_11) rfl ?_
    show Steps p.tables e below (T2.setTop (mkF m 12 #[.val (.ref ar), .val (.int pp), .val (.int (254 : Int32)), .unset, .unset, .unset, .unset] [(.int (254 : Int32)), (.ref s_R)])) _
    refine X2.iaload hx (j := (254 : Int32)) (v := (.int (atv cl_R (254 : Int32)))) (by rw [e2]; exact Sc3.1.1) (State.isArrayOf_alike hZ.alike Sc3.1.2.1) Sc3.1.2.2 hin3 (Sc3.2.2.2 _ hin3) (g := (mkF m 12 #[.val (.ref ar), .val (.int pp), .val (.int (254 : Int32)), .unset, .unset, .unset, .unset] [(.int (254 : Int32)), (.ref s_R)])) rfl rfl (hb hby d3_12) _ ?_
    show Steps p.tables e below (T2.setTop (mkF m 13 #[.val (.ref ar), .val (.int pp), .val (.int (254 : Int32)), .unset, .unset, .unset, .unset] [(.int (atv cl_R (254 : Int32)))])) _
    rw [hR]
    show Steps p.tables e below (T2.setTop (mkF m 13 #[.val (.ref ar), .val (.int pp), .val (.int (254 : Int32)), .unset, .unset, .unset, .unset] [(.int (14 : Int32))])) _
    refine XS.istoreN X2.here hx rfl (hb hby d3_13) rfl (l' := #[.val (.ref ar), .val (.int pp), .val (.int (254 : Int32)), .val (.int (14 : Int32)), .unset, .unset, .unset]) rfl ?_
    show Steps p.tables e below (T2.setTop (mkF m 14 #[.val (.ref ar), .val (.int pp), .val (.int (254 : Int32)), .val (.int (14 : Int32)), .unset, .unset, .unset] [])) _
    refine XS.iloadN X2.here hx rfl (hb hby d3_14) rfl ?_
    show Steps p.tables e below (T2.setTop (mkF m 15 #[.val (.ref ar), .val (.int pp), .val (.int (254 : Int32)), .val (.int (14 : Int32)), .unset, .unset, .unset] [(.int (254 : Int32))])) _
    refine st4 _ ?_
    show Steps p.tables e below (T4.setTop (mkF m 18 #[.val (.ref ar), .val (.int pp), .val (.int (254 : Int32)), .val (.int (14 : Int32)), .unset, .unset, .unset] [(.ref s_F), (.int (254 : Int32))])) _
    refine XS.iloadN X4.here hx rfl (hb hby d3_18) rfl ?_
    show Steps p.tables e below (T4.setTop (mkF m 19 #[.val (.ref ar), .val (.int pp), .val (.int (254 : Int32)), .val (.int (14 : Int32)), .unset, .unset, .unset] [(.int (14 : Int32)), (.ref s_F), (.int (254 : Int32))])) _
    refine X4.iaload hx (j := (14 : Int32)) (v := (.int (atv cl_F (14 : Int32)))) (by rw [e4]; exact Sc5.1.1) (State.isArrayOf_alike hZ.alike Sc5.1.2.1) Sc5.1.2.2 hin5 (Sc5.2.2.2 _ hin5) (g := (mkF m 19 #[.val (.ref ar), .val (.int pp), .val (.int (254 : Int32)), .val (.int (14 : Int32)), .unset, .unset, .unset] [(.int (14 : Int32)), (.ref s_F), (.int (254 : Int32))])) rfl rfl (hb hby d3_19) _ ?_
    show Steps p.tables e below (T4.setTop (mkF m 20 #[.val (.ref ar), .val (.int pp), .val (.int (254 : Int32)), .val (.int (14 : Int32)), .unset, .unset, .unset] [(.int (atv cl_F (14 : Int32))), (.int (254 : Int32))])) _
    rw [F_14]
    show Steps p.tables e below (T4.setTop (mkF m 20 #[.val (.ref ar), .val (.int pp), .val (.int (254 : Int32)), .val (.int (14 : Int32)), .unset, .unset, .unset] [(.int (254 : Int32)), (.int (254 : Int32))])) _
    refine XS.isub X4.here hx rfl (hb hby d3_20) rfl ?_
    show Steps p.tables e below (T4.setTop (mkF m 21 #[.val (.ref ar), .val (.int pp), .val (.int (254 : Int32)), .val (.int (14 : Int32)), .unset, .unset, .unset] [(.int ((254 : Int32) - (254 : Int32)))])) _
    refine XS.i2l X4.here hx rfl (hb hby d3_21) rfl ?_
    show Steps p.tables e below (T4.setTop (mkF m 22 #[.val (.ref ar), .val (.int pp), .val (.int (254 : Int32)), .val (.int (14 : Int32)), .unset, .unset, .unset] [(.long (((254 : Int32) - (254 : Int32)).toInt64))])) _
    refine XS.lstore X4.here hx rfl (hb hby d3_22) rfl (l' := #[.val (.ref ar), .val (.int pp), .val (.int (254 : Int32)), .val (.int (14 : Int32)), .val (.long (((254 : Int32) - (254 : Int32)).toInt64)), .second, .unset]) rfl ?_
    show Steps p.tables e below (T4.setTop (mkF m 24 #[.val (.ref ar), .val (.int pp), .val (.int (254 : Int32)), .val (.int (14 : Int32)), .val (.long (((254 : Int32) - (254 : Int32)).toInt64)), .second, .unset] [])) _
    refine XS.iconst X4.here hx rfl (hb hby d3_24) ?_
    refine XS.istore X4.here hx rfl (hb hby d3_25) rfl (l' := #[.val (.ref ar), .val (.int pp), .val (.int (254 : Int32)), .val (.int (14 : Int32)), .val (.long (((254 : Int32) - (254 : Int32)).toInt64)), .second, .val (.int (1 : Int32))]) rfl ?_
    show Steps p.tables e below (T4.setTop (mkF m 27 #[.val (.ref ar), .val (.int pp), .val (.int (254 : Int32)), .val (.int (14 : Int32)), .val (.long (((254 : Int32) - (254 : Int32)).toInt64)), .second, .val (.int (1 : Int32))] [])) _
    rw [← ho0]
    show Steps p.tables e below (T4.setTop (mkF m 27 #[.val (.ref ar), .val (.int pp), .val (.int (254 : Int32)), .val (.int (14 : Int32)), .val (.long o0), .second, .val (.int (1 : Int32))] [])) _
    refine st6 _ ?_
    show Steps p.tables e below (T6.setTop (mkF m 27 #[.val (.ref ar), .val (.int pp), .val (.int (254 : Int32)), .val (.int (14 : Int32)), .val (.long ((o0 <<< ((8 : Int32) &&& 0x3f).toInt64) ||| ((y1 &&& (255 : Int32)).toInt64))), .second, .val (.int ((1 : Int32) + (1 : Int32)))] [])) _
    rw [← ho1]
    show Steps p.tables e below (T6.setTop (mkF m 27 #[.val (.ref ar), .val (.int pp), .val (.int (254 : Int32)), .val (.int (14 : Int32)), .val (.long o1), .second, .val (.int ((1 : Int32) + (1 : Int32)))] [])) _
    refine st7 _ ?_
    show Steps p.tables e below (T7.setTop (mkF m 27 #[.val (.ref ar), .val (.int pp), .val (.int (254 : Int32)), .val (.int (14 : Int32)), .val (.long ((o1 <<< ((8 : Int32) &&& 0x3f).toInt64) ||| ((y2 &&& (255 : Int32)).toInt64))), .second, .val (.int (((1 : Int32) + (1 : Int32)) + (1 : Int32)))] [])) _
    rw [← ho2]
    show Steps p.tables e below (T7.setTop (mkF m 27 #[.val (.ref ar), .val (.int pp), .val (.int (254 : Int32)), .val (.int (14 : Int32)), .val (.long o2), .second, .val (.int (((1 : Int32) + (1 : Int32)) + (1 : Int32)))] [])) _
    refine st8 _ ?_
    show Steps p.tables e below (T8.setTop (mkF m 27 #[.val (.ref ar), .val (.int pp), .val (.int (254 : Int32)), .val (.int (14 : Int32)), .val (.long ((o2 <<< ((8 : Int32) &&& 0x3f).toInt64) ||| ((y3 &&& (255 : Int32)).toInt64))), .second, .val (.int ((((1 : Int32) + (1 : Int32)) + (1 : Int32)) + (1 : Int32)))] [])) _
    rw [← ho3]
    show Steps p.tables e below (T8.setTop (mkF m 27 #[.val (.ref ar), .val (.int pp), .val (.int (254 : Int32)), .val (.int (14 : Int32)), .val (.long o3), .second, .val (.int ((((1 : Int32) + (1 : Int32)) + (1 : Int32)) + (1 : Int32)))] [])) _
    refine st9 _ ?_
    show Steps p.tables e below (T9.setTop (mkF m 27 #[.val (.ref ar), .val (.int pp), .val (.int (254 : Int32)), .val (.int (14 : Int32)), .val (.long ((o3 <<< ((8 : Int32) &&& 0x3f).toInt64) ||| ((y4 &&& (255 : Int32)).toInt64))), .second, .val (.int (((((1 : Int32) + (1 : Int32)) + (1 : Int32)) + (1 : Int32)) + (1 : Int32)))] [])) _
    rw [← ho4]
    show Steps p.tables e below (T9.setTop (mkF m 27 #[.val (.ref ar), .val (.int pp), .val (.int (254 : Int32)), .val (.int (14 : Int32)), .val (.long o4), .second, .val (.int (((((1 : Int32) + (1 : Int32)) + (1 : Int32)) + (1 : Int32)) + (1 : Int32)))] [])) _
    refine st10 _ ?_
    show Steps p.tables e below (T10.setTop (mkF m 27 #[.val (.ref ar), .val (.int pp), .val (.int (254 : Int32)), .val (.int (14 : Int32)), .val (.long ((o4 <<< ((8 : Int32) &&& 0x3f).toInt64) ||| ((y5 &&& (255 : Int32)).toInt64))), .second, .val (.int ((((((1 : Int32) + (1 : Int32)) + (1 : Int32)) + (1 : Int32)) + (1 : Int32)) + (1 : Int32)))] [])) _
    rw [← ho5]
    show Steps p.tables e below (T10.setTop (mkF m 27 #[.val (.ref ar), .val (.int pp), .val (.int (254 : Int32)), .val (.int (14 : Int32)), .val (.long o5), .second, .val (.int ((((((1 : Int32) + (1 : Int32)) + (1 : Int32)) + (1 : Int32)) + (1 : Int32)) + (1 : Int32)))] [])) _
    refine st11 _ ?_
    show Steps p.tables e below (T11.setTop (mkF m 27 #[.val (.ref ar), .val (.int pp), .val (.int (254 : Int32)), .val (.int (14 : Int32)), .val (.long ((o5 <<< ((8 : Int32) &&& 0x3f).toInt64) ||| ((y6 &&& (255 : Int32)).toInt64))), .second, .val (.int (((((((1 : Int32) + (1 : Int32)) + (1 : Int32)) + (1 : Int32)) + (1 : Int32)) + (1 : Int32)) + (1 : Int32)))] [])) _
    rw [← ho6]
    show Steps p.tables e below (T11.setTop (mkF m 27 #[.val (.ref ar), .val (.int pp), .val (.int (254 : Int32)), .val (.int (14 : Int32)), .val (.long o6), .second, .val (.int (((((((1 : Int32) + (1 : Int32)) + (1 : Int32)) + (1 : Int32)) + (1 : Int32)) + (1 : Int32)) + (1 : Int32)))] [])) _
    refine st12 _ ?_
    show Steps p.tables e below (T12.setTop (mkF m 27 #[.val (.ref ar), .val (.int pp), .val (.int (254 : Int32)), .val (.int (14 : Int32)), .val (.long ((o6 <<< ((8 : Int32) &&& 0x3f).toInt64) ||| ((y7 &&& (255 : Int32)).toInt64))), .second, .val (.int ((((((((1 : Int32) + (1 : Int32)) + (1 : Int32)) + (1 : Int32)) + (1 : Int32)) + (1 : Int32)) + (1 : Int32)) + (1 : Int32)))] [])) _
    rw [← ho7]
    show Steps p.tables e below (T12.setTop (mkF m 27 #[.val (.ref ar), .val (.int pp), .val (.int (254 : Int32)), .val (.int (14 : Int32)), .val (.long o7), .second, .val (.int ((((((((1 : Int32) + (1 : Int32)) + (1 : Int32)) + (1 : Int32)) + (1 : Int32)) + (1 : Int32)) + (1 : Int32)) + (1 : Int32)))] [])) _
    refine XS.iload X12.here hx rfl (hb hby d3_27) rfl ?_
    show Steps p.tables e below (T12.setTop (mkF m 29 #[.val (.ref ar), .val (.int pp), .val (.int (254 : Int32)), .val (.int (14 : Int32)), .val (.long o7), .second, .val (.int ((((((((1 : Int32) + (1 : Int32)) + (1 : Int32)) + (1 : Int32)) + (1 : Int32)) + (1 : Int32)) + (1 : Int32)) + (1 : Int32)))] [(.int ((((((((1 : Int32) + (1 : Int32)) + (1 : Int32)) + (1 : Int32)) + (1 : Int32)) + (1 : Int32)) + (1 : Int32)) + (1 : Int32)))])) _
    refine st13 _ ?_
    show Steps p.tables e below (T13.setTop (mkF m 32 #[.val (.ref ar), .val (.int pp), .val (.int (254 : Int32)), .val (.int (14 : Int32)), .val (.long o7), .second, .val (.int ((((((((1 : Int32) + (1 : Int32)) + (1 : Int32)) + (1 : Int32)) + (1 : Int32)) + (1 : Int32)) + (1 : Int32)) + (1 : Int32)))] [(.ref s_E), (.int ((((((((1 : Int32) + (1 : Int32)) + (1 : Int32)) + (1 : Int32)) + (1 : Int32)) + (1 : Int32)) + (1 : Int32)) + (1 : Int32)))])) _
    refine XS.iloadN X13.here hx rfl (hb hby d3_32) rfl ?_
    show Steps p.tables e below (T13.setTop (mkF m 33 #[.val (.ref ar), .val (.int pp), .val (.int (254 : Int32)), .val (.int (14 : Int32)), .val (.long o7), .second, .val (.int ((((((((1 : Int32) + (1 : Int32)) + (1 : Int32)) + (1 : Int32)) + (1 : Int32)) + (1 : Int32)) + (1 : Int32)) + (1 : Int32)))] [(.int (14 : Int32)), (.ref s_E), (.int ((((((((1 : Int32) + (1 : Int32)) + (1 : Int32)) + (1 : Int32)) + (1 : Int32)) + (1 : Int32)) + (1 : Int32)) + (1 : Int32)))])) _
    refine X13.iaload hx (j := (14 : Int32)) (v := (.int (atv cl_E (14 : Int32)))) (by rw [e13]; exact Sc14.1.1) (State.isArrayOf_alike hZ.alike Sc14.1.2.1) Sc14.1.2.2 hin14 (Sc14.2.2.2 _ hin14) (g := (mkF m 33 #[.val (.ref ar), .val (.int pp), .val (.int (254 : Int32)), .val (.int (14 : Int32)), .val (.long o7), .second, .val (.int ((((((((1 : Int32) + (1 : Int32)) + (1 : Int32)) + (1 : Int32)) + (1 : Int32)) + (1 : Int32)) + (1 : Int32)) + (1 : Int32)))] [(.int (14 : Int32)), (.ref s_E), (.int ((((((((1 : Int32) + (1 : Int32)) + (1 : Int32)) + (1 : Int32)) + (1 : Int32)) + (1 : Int32)) + (1 : Int32)) + (1 : Int32)))])) rfl rfl (hb hby d3_33) _ ?_
    show Steps p.tables e below (T13.setTop (mkF m 34 #[.val (.ref ar), .val (.int pp), .val (.int (254 : Int32)), .val (.int (14 : Int32)), .val (.long o7), .second, .val (.int ((((((((1 : Int32) + (1 : Int32)) + (1 : Int32)) + (1 : Int32)) + (1 : Int32)) + (1 : Int32)) + (1 : Int32)) + (1 : Int32)))] [(.int (atv cl_E (14 : Int32))), (.int ((((((((1 : Int32) + (1 : Int32)) + (1 : Int32)) + (1 : Int32)) + (1 : Int32)) + (1 : Int32)) + (1 : Int32)) + (1 : Int32)))])) _
    rw [E_14]
    show Steps p.tables e below (T13.setTop (mkF m 34 #[.val (.ref ar), .val (.int pp), .val (.int (254 : Int32)), .val (.int (14 : Int32)), .val (.long o7), .second, .val (.int ((((((((1 : Int32) + (1 : Int32)) + (1 : Int32)) + (1 : Int32)) + (1 : Int32)) + (1 : Int32)) + (1 : Int32)) + (1 : Int32)))] [(.int (7 : Int32)), (.int ((((((((1 : Int32) + (1 : Int32)) + (1 : Int32)) + (1 : Int32)) + (1 : Int32)) + (1 : Int32)) + (1 : Int32)) + (1 : Int32)))])) _
    refine XS.icmpYes X13.here hx rfl (pc0 := 34) (pc' := 62) rfl (hb hby d3_34) rfl (tlt (by decide : (7 : Int32) < ((((((((1 : Int32) + (1 : Int32)) + (1 : Int32)) + (1 : Int32)) + (1 : Int32)) + (1 : Int32)) + (1 : Int32)) + (1 : Int32)))).2.2.1 (by decide) (by decide) ?_
    show Steps p.tables e below (T13.setTop (mkF m 62 #[.val (.ref ar), .val (.int pp), .val (.int (254 : Int32)), .val (.int (14 : Int32)), .val (.long o7), .second, .val (.int ((((((((1 : Int32) + (1 : Int32)) + (1 : Int32)) + (1 : Int32)) + (1 : Int32)) + (1 : Int32)) + (1 : Int32)) + (1 : Int32)))] [])) _
    refine st15 _ ?_
    show Steps p.tables e below (T15.setTop (mkF m 65 #[.val (.ref ar), .val (.int pp), .val (.int (254 : Int32)), .val (.int (14 : Int32)), .val (.long o7), .second, .val (.int ((((((((1 : Int32) + (1 : Int32)) + (1 : Int32)) + (1 : Int32)) + (1 : Int32)) + (1 : Int32)) + (1 : Int32)) + (1 : Int32)))] [(.ref s_L)])) _
    refine XS.iloadN X15.here hx rfl (hb hby d3_65) rfl ?_
    show Steps p.tables e below (T15.setTop (mkF m 66 #[.val (.ref ar), .val (.int pp), .val (.int (254 : Int32)), .val (.int (14 : Int32)), .val (.long o7), .second, .val (.int ((((((((1 : Int32) + (1 : Int32)) + (1 : Int32)) + (1 : Int32)) + (1 : Int32)) + (1 : Int32)) + (1 : Int32)) + (1 : Int32)))] [(.int (14 : Int32)), (.ref s_L)])) _
    refine X15.laload hx (j := (14 : Int32)) (v := (.long (282578800155040 : Int64))) (by rw [e15]; exact Ar16.1) (State.isArrayOf_alike hZ.alike Ar16.2.1) Ar16.2.2 hin16 hat16 (g := (mkF m 66 #[.val (.ref ar), .val (.int pp), .val (.int (254 : Int32)), .val (.int (14 : Int32)), .val (.long o7), .second, .val (.int ((((((((1 : Int32) + (1 : Int32)) + (1 : Int32)) + (1 : Int32)) + (1 : Int32)) + (1 : Int32)) + (1 : Int32)) + (1 : Int32)))] [(.int (14 : Int32)), (.ref s_L)])) rfl rfl (hb hby d3_66) _ ?_
    show Steps p.tables e below (T15.setTop (mkF m 67 #[.val (.ref ar), .val (.int pp), .val (.int (254 : Int32)), .val (.int (14 : Int32)), .val (.long o7), .second, .val (.int ((((((((1 : Int32) + (1 : Int32)) + (1 : Int32)) + (1 : Int32)) + (1 : Int32)) + (1 : Int32)) + (1 : Int32)) + (1 : Int32)))] [(.long (282578800155040 : Int64))])) _
    refine XS.lload X15.here hx rfl (hb hby d3_67) rfl ?_
    refine XS.ladd X15.here hx rfl (hb hby d3_69) rfl ?_
    show Steps p.tables e below (T15.setTop (mkF m 70 #[.val (.ref ar), .val (.int pp), .val (.int (254 : Int32)), .val (.int (14 : Int32)), .val (.long o7), .second, .val (.int ((((((((1 : Int32) + (1 : Int32)) + (1 : Int32)) + (1 : Int32)) + (1 : Int32)) + (1 : Int32)) + (1 : Int32)) + (1 : Int32)))] [(.long ((282578800155040 : Int64) + o7))])) _
    exact retOut X15 hx Bd.returns rfl (Or.inr (Or.inl ⟨rfl, rfl, _, rfl⟩)) (hb hby d3_70) hr
  · show own_Ql (own_val 254 t) h0 n0 _ T15.heap _
    rw [e15]
    exact ⟨_, rfl, N0, rfl, own_d_14 ht0 ht1 ho0 ho1 ho2 ho3 ho4 ho5 ho6 ho7 hy1 hy2 hy3 hy4 hy5 hy6 hy7⟩
theorem r_dec (l : Launch) (Z : State) (a0 : Array Value) (hw : ∀ d ∈ tables_1, d.before a0 Z = true) (ws : List Jvm.Cond) (s_R s_F s_E s_L : Addr) (cl_R cl_F cl_E : Cell) (k_L : ClassId) (h0 : Heap) (n0 : Nat) (O0 : Old Z n0 h0) (G : own_Ctx Z Z.heap s_R s_F s_E s_L cl_R cl_F cl_E k_L) (ar : Addr) (kk : ClassId) (vs : List Value) (pp : Int32) (y0 y1 y2 y3 y4 y5 y6 y7 : Int32) (t : Int) (f : Int32) (Va : Arv Z h0 ar kk .byte (11 : Int32) vs (.int (0 : Int32))) (hg : y0 &&& (255 : Int32) = f) (hf1 : 1 ≤ f.toInt) (hf2 : f.toInt ≤ 254) (ht0 : 0 ≤ t) (ht1 : t < 72057594037927936) (hp0 : ¬ (pp < 0) ∧ pp < (11 : Int32)) (hv0 : vs.getD (pp).toNatClampNeg (.int (0 : Int32)) = .int y0) (hp1 : ¬ ((pp + (1 : Int32)) < 0) ∧ (pp + (1 : Int32)) < (11 : Int32)) (hv1 : vs.getD ((pp + (1 : Int32))).toNatClampNeg (.int (0 : Int32)) = .int y1) (hp2 : ¬ ((pp + ((1 : Int32) + (1 : Int32))) < 0) ∧ (pp + ((1 : Int32) + (1 : Int32))) < (11 : Int32)) (hv2 : vs.getD ((pp + ((1 : Int32) + (1 : Int32)))).toNatClampNeg (.int (0 : Int32)) = .int y2) (hp3 : ¬ ((pp + (((1 : Int32) + (1 : Int32)) + (1 : Int32))) < 0) ∧ (pp + (((1 : Int32) + (1 : Int32)) + (1 : Int32))) < (11 : Int32)) (hv3 : vs.getD ((pp + (((1 : Int32) + (1 : Int32)) + (1 : Int32)))).toNatClampNeg (.int (0 : Int32)) = .int y3) (hp4 : ¬ ((pp + ((((1 : Int32) + (1 : Int32)) + (1 : Int32)) + (1 : Int32))) < 0) ∧ (pp + ((((1 : Int32) + (1 : Int32)) + (1 : Int32)) + (1 : Int32))) < (11 : Int32)) (hv4 : vs.getD ((pp + ((((1 : Int32) + (1 : Int32)) + (1 : Int32)) + (1 : Int32)))).toNatClampNeg (.int (0 : Int32)) = .int y4) (hp5 : ¬ ((pp + (((((1 : Int32) + (1 : Int32)) + (1 : Int32)) + (1 : Int32)) + (1 : Int32))) < 0) ∧ (pp + (((((1 : Int32) + (1 : Int32)) + (1 : Int32)) + (1 : Int32)) + (1 : Int32))) < (11 : Int32)) (hv5 : vs.getD ((pp + (((((1 : Int32) + (1 : Int32)) + (1 : Int32)) + (1 : Int32)) + (1 : Int32)))).toNatClampNeg (.int (0 : Int32)) = .int y5) (hp6 : ¬ ((pp + ((((((1 : Int32) + (1 : Int32)) + (1 : Int32)) + (1 : Int32)) + (1 : Int32)) + (1 : Int32))) < 0) ∧ (pp + ((((((1 : Int32) + (1 : Int32)) + (1 : Int32)) + (1 : Int32)) + (1 : Int32)) + (1 : Int32))) < (11 : Int32)) (hv6 : vs.getD ((pp + ((((((1 : Int32) + (1 : Int32)) + (1 : Int32)) + (1 : Int32)) + (1 : Int32)) + (1 : Int32)))).toNatClampNeg (.int (0 : Int32)) = .int y6) (hp7 : ¬ ((pp + (((((((1 : Int32) + (1 : Int32)) + (1 : Int32)) + (1 : Int32)) + (1 : Int32)) + (1 : Int32)) + (1 : Int32))) < 0) ∧ (pp + (((((((1 : Int32) + (1 : Int32)) + (1 : Int32)) + (1 : Int32)) + (1 : Int32)) + (1 : Int32)) + (1 : Int32))) < (11 : Int32)) (hv7 : vs.getD ((pp + (((((((1 : Int32) + (1 : Int32)) + (1 : Int32)) + (1 : Int32)) + (1 : Int32)) + (1 : Int32)) + (1 : Int32)))).toNatClampNeg (.int (0 : Int32)) = .int y7) (hy1 : y1.toInt % 256 = (t / 281474976710656) % 256) (hy2 : y2.toInt % 256 = (t / 1099511627776) % 256) (hy3 : y3.toInt % 256 = (t / 4294967296) % 256) (hy4 : y4.toInt % 256 = (t / 16777216) % 256) (hy5 : y5.toInt % 256 = (t / 65536) % 256) (hy6 : y6.toInt % 256 = (t / 256) % 256) (hy7 : y7.toInt % 256 = (t / 1) % 256) :
    MetFree l (⟨"com/example/rattan/rattan/storage/label/ComponentCode", "decode", "([BI)J"⟩ : MethodName) (head1 (Jvm.Cond.code (⟨"com/example/rattan/rattan/storage/label/ComponentCode", "decode", "([BI)J"⟩ : MethodName) prog_41_method_4_code 7 (some .long) :: ws) ({ frames := 0, cells := 0, slots := 0, locals := 0 } : Room)) (fun a U => a = #[(.ref ar), (.int pp)] ∧ Z.Warmed39 U.vm ∧ U.heap = h0) (fun _ _ _ _ _ => True) (fun _ U o U' => ∃ v L, o = .returned v ∧ own_Ql (own_val f.toInt t) h0 n0 v U'.heap L ∧ FrameEnd U o U' L ({ frames := 0, cells := 0, slots := 0, locals := 0 } : Room).cells ({ frames := 0, cells := 0, slots := 0, locals := 0 } : Room).slots) := by
  have G0 := G
  obtain ⟨S_R, C_R, S_F, C_F, S_E, C_E, S_L, V_L, R_1, R_2, R_3, R_4, R_5, F_0, F_1, F_2, F_3, F_4, F_5, F_6, F_7, F_8, F_9, F_10, F_11, F_12, F_13, F_14, E_0, E_1, E_2, E_3, E_4, E_5, E_6, E_7, E_8, E_9, E_10, E_11, E_12, E_13, E_14⟩ := G
  rcases own_cls hf1 hf2 with rfl | rfl | rfl | rfl | rfl | rfl | ⟨g1, g2⟩ | ⟨g1, g2⟩ | ⟨g1, g2⟩ | rfl | rfl | rfl | rfl | rfl | rfl
  · exact r_dec_0 l Z a0 hw ws s_R s_F s_E s_L cl_R cl_F cl_E k_L h0 n0 O0 G0 ar kk vs pp y0 y1 y2 y3 y4 y5 y6 y7 t Va hg ht0 ht1 hp0 hv0 hp1 hv1 hp2 hv2 hp3 hv3 hp4 hv4 hp5 hv5 hp6 hv6 hp7 hv7 hy1 hy2 hy3 hy4 hy5 hy6 hy7 ((R_1 _ (by decide) (by decide)).trans rfl)
  · exact r_dec_1 l Z a0 hw ws s_R s_F s_E s_L cl_R cl_F cl_E k_L h0 n0 O0 G0 ar kk vs pp y0 y1 y2 y3 y4 y5 y6 y7 t Va hg ht0 ht1 hp0 hv0 hp1 hv1 hp2 hv2 hp3 hv3 hp4 hv4 hp5 hv5 hp6 hv6 hy1 hy2 hy3 hy4 hy5 hy6 ((R_1 _ (by decide) (by decide)).trans rfl)
  · exact r_dec_2 l Z a0 hw ws s_R s_F s_E s_L cl_R cl_F cl_E k_L h0 n0 O0 G0 ar kk vs pp y0 y1 y2 y3 y4 y5 y6 y7 t Va hg ht0 ht1 hp0 hv0 hp1 hv1 hp2 hv2 hp3 hv3 hp4 hv4 hp5 hv5 hy1 hy2 hy3 hy4 hy5 ((R_1 _ (by decide) (by decide)).trans rfl)
  · exact r_dec_3 l Z a0 hw ws s_R s_F s_E s_L cl_R cl_F cl_E k_L h0 n0 O0 G0 ar kk vs pp y0 y1 y2 y3 y4 y5 y6 y7 t Va hg ht0 ht1 hp0 hv0 hp1 hv1 hp2 hv2 hp3 hv3 hp4 hv4 hy1 hy2 hy3 hy4 ((R_1 _ (by decide) (by decide)).trans rfl)
  · exact r_dec_4 l Z a0 hw ws s_R s_F s_E s_L cl_R cl_F cl_E k_L h0 n0 O0 G0 ar kk vs pp y0 y1 y2 y3 y4 y5 y6 y7 t Va hg ht0 ht1 hp0 hv0 hp1 hv1 hp2 hv2 hp3 hv3 hy1 hy2 hy3 ((R_1 _ (by decide) (by decide)).trans rfl)
  · exact r_dec_5 l Z a0 hw ws s_R s_F s_E s_L cl_R cl_F cl_E k_L h0 n0 O0 G0 ar kk vs pp y0 y1 y2 y3 y4 y5 y6 y7 t Va hg ht0 ht1 hp0 hv0 hp1 hv1 hp2 hv2 hy1 hy2 ((R_1 _ (by decide) (by decide)).trans rfl)
  · have hR : atv cl_R f = (6 : Int32) := by
      by_cases z : f.toInt = 7
      · obtain rfl : f = (7 : Int32) := Int32.toInt_inj.mp (z.trans rfl)
        exact (R_1 _ (by decide) (by decide)).trans rfl
      · exact R_2 _ (by omega) (by omega)
    exact r_dec_6 l Z a0 hw ws s_R s_F s_E s_L cl_R cl_F cl_E k_L h0 n0 O0 G0 ar kk vs pp y0 y1 y2 y3 y4 y5 y6 y7 t f Va hg g1 g2 ht0 ht1 hp0 hv0 hp1 hv1 hy1 hR
  · exact r_dec_7 l Z a0 hw ws s_R s_F s_E s_L cl_R cl_F cl_E k_L h0 n0 O0 G0 ar kk vs pp y0 y1 y2 y3 y4 y5 y6 y7 t f Va hg g1 g2 ht0 ht1 hp0 hv0  (R_3 _ g1 g2)
  · exact r_dec_8 l Z a0 hw ws s_R s_F s_E s_L cl_R cl_F cl_E k_L h0 n0 O0 G0 ar kk vs pp y0 y1 y2 y3 y4 y5 y6 y7 t f Va hg g1 g2 ht0 ht1 hp0 hv0 hp1 hv1 hy1 (R_4 _ g1 g2)
  · exact r_dec_9 l Z a0 hw ws s_R s_F s_E s_L cl_R cl_F cl_E k_L h0 n0 O0 G0 ar kk vs pp y0 y1 y2 y3 y4 y5 y6 y7 t Va hg ht0 ht1 hp0 hv0 hp1 hv1 hp2 hv2 hy1 hy2 ((R_5 _ (by decide) (by decide)).trans rfl)
  · exact r_dec_10 l Z a0 hw ws s_R s_F s_E s_L cl_R cl_F cl_E k_L h0 n0 O0 G0 ar kk vs pp y0 y1 y2 y3 y4 y5 y6 y7 t Va hg ht0 ht1 hp0 hv0 hp1 hv1 hp2 hv2 hp3 hv3 hy1 hy2 hy3 ((R_5 _ (by decide) (by decide)).trans rfl)
  · exact r_dec_11 l Z a0 hw ws s_R s_F s_E s_L cl_R cl_F cl_E k_L h0 n0 O0 G0 ar kk vs pp y0 y1 y2 y3 y4 y5 y6 y7 t Va hg ht0 ht1 hp0 hv0 hp1 hv1 hp2 hv2 hp3 hv3 hp4 hv4 hy1 hy2 hy3 hy4 ((R_5 _ (by decide) (by decide)).trans rfl)
  · exact r_dec_12 l Z a0 hw ws s_R s_F s_E s_L cl_R cl_F cl_E k_L h0 n0 O0 G0 ar kk vs pp y0 y1 y2 y3 y4 y5 y6 y7 t Va hg ht0 ht1 hp0 hv0 hp1 hv1 hp2 hv2 hp3 hv3 hp4 hv4 hp5 hv5 hy1 hy2 hy3 hy4 hy5 ((R_5 _ (by decide) (by decide)).trans rfl)
  · exact r_dec_13 l Z a0 hw ws s_R s_F s_E s_L cl_R cl_F cl_E k_L h0 n0 O0 G0 ar kk vs pp y0 y1 y2 y3 y4 y5 y6 y7 t Va hg ht0 ht1 hp0 hv0 hp1 hv1 hp2 hv2 hp3 hv3 hp4 hv4 hp5 hv5 hp6 hv6 hy1 hy2 hy3 hy4 hy5 hy6 ((R_5 _ (by decide) (by decide)).trans rfl)
  · exact r_dec_14 l Z a0 hw ws s_R s_F s_E s_L cl_R cl_F cl_E k_L h0 n0 O0 G0 ar kk vs pp y0 y1 y2 y3 y4 y5 y6 y7 t Va hg ht0 ht1 hp0 hv0 hp1 hv1 hp2 hv2 hp3 hv3 hp4 hv4 hp5 hv5 hp6 hv6 hp7 hv7 hy1 hy2 hy3 hy4 hy5 hy6 hy7 ((R_5 _ (by decide) (by decide)).trans rfl)
theorem own_bm (n : Int) : (n.bmod (2 ^ 32)) % 256 = n % 256 := by rw [Int.bmod_def]; omega
theorem own_bm8 (n : Int) : (n.bmod (2 ^ 8)) % 256 = n % 256 := by rw [Int.bmod_def]; omega
theorem own_i2b (x : Int32) : (nar .byte x.toInt8.toInt32).toInt % 256 = x.toInt % 256 := by
  show (x.toInt8.toInt32.toInt8.toInt32).toInt % 256 = _
  have h : ∀ y : Int32, (y.toInt8.toInt32).toInt % 256 = y.toInt % 256 := fun y => by
    rw [Int8.toInt_toInt32, Int32.toInt_toInt8]; exact own_bm8 _
  rw [h, h]
theorem own_y7 (q : Int64) : (nar .byte ((q.toInt32).toInt8.toInt32)).toInt % 256 = ((q.toInt % 72057594037927936) / 1) % 256 := by
  rw [own_i2b, Int64.toInt_toInt32, own_bm]; omega
theorem own_y1 (q : Int64) : (nar .byte ((((q.toUInt64 >>> ((48 : Int32) &&& 0x3f).toInt64.toUInt64).toInt64).toInt32).toInt8.toInt32)).toInt % 256 = ((q.toInt % 72057594037927936) / 281474976710656) % 256 := by
  have h1 : _ = q.toInt % 18446744073709551616 / 281474976710656 := c_lushr q (48 : Int32) 48 (by decide) (by decide)
  rw [own_i2b, Int64.toInt_toInt32, own_bm, h1]; omega
theorem own_y2 (q : Int64) : (nar .byte ((((q.toUInt64 >>> ((40 : Int32) &&& 0x3f).toInt64.toUInt64).toInt64).toInt32).toInt8.toInt32)).toInt % 256 = ((q.toInt % 72057594037927936) / 1099511627776) % 256 := by
  have h1 : _ = q.toInt % 18446744073709551616 / 1099511627776 := c_lushr q (40 : Int32) 40 (by decide) (by decide)
  rw [own_i2b, Int64.toInt_toInt32, own_bm, h1]; omega
theorem own_y3 (q : Int64) : (nar .byte ((((q.toUInt64 >>> ((32 : Int32) &&& 0x3f).toInt64.toUInt64).toInt64).toInt32).toInt8.toInt32)).toInt % 256 = ((q.toInt % 72057594037927936) / 4294967296) % 256 := by
  have h1 : _ = q.toInt % 18446744073709551616 / 4294967296 := c_lushr q (32 : Int32) 32 (by decide) (by decide)
  rw [own_i2b, Int64.toInt_toInt32, own_bm, h1]; omega
theorem own_y4 (q : Int64) : (nar .byte ((((q.toUInt64 >>> ((24 : Int32) &&& 0x3f).toInt64.toUInt64).toInt64).toInt32).toInt8.toInt32)).toInt % 256 = ((q.toInt % 72057594037927936) / 16777216) % 256 := by
  have h1 : _ = q.toInt % 18446744073709551616 / 16777216 := c_lushr q (24 : Int32) 24 (by decide) (by decide)
  rw [own_i2b, Int64.toInt_toInt32, own_bm, h1]; omega
theorem own_y5 (q : Int64) : (nar .byte ((((q.toUInt64 >>> ((16 : Int32) &&& 0x3f).toInt64.toUInt64).toInt64).toInt32).toInt8.toInt32)).toInt % 256 = ((q.toInt % 72057594037927936) / 65536) % 256 := by
  have h1 : _ = q.toInt % 18446744073709551616 / 65536 := c_lushr q (16 : Int32) 16 (by decide) (by decide)
  rw [own_i2b, Int64.toInt_toInt32, own_bm, h1]; omega
theorem own_y6 (q : Int64) : (nar .byte ((((q.toUInt64 >>> ((8 : Int32) &&& 0x3f).toInt64.toUInt64).toInt64).toInt32).toInt8.toInt32)).toInt % 256 = ((q.toInt % 72057594037927936) / 256) % 256 := by
  have h1 : _ = q.toInt % 18446744073709551616 / 256 := c_lushr q (8 : Int32) 8 (by decide) (by decide)
  rw [own_i2b, Int64.toInt_toInt32, own_bm, h1]; omega
theorem own_g {f : Int32} (h1 : 1 ≤ f.toInt) (h2 : f.toInt ≤ 254) : (nar .byte (f.toInt8.toInt32)) &&& (255 : Int32) = f := by
  apply Int32.toInt_inj.mp
  have m1 : ((nar .byte (f.toInt8.toInt32)) &&& (255 : Int32)).toInt = (nar .byte (f.toInt8.toInt32)).toInt % 2 ^ 8 := Jvm.Kit.i32_mask _ 255 (k := 8) (by decide) (by decide)
  have m2 := own_i2b f
  omega
theorem own_low (q : Int64) : (q &&& (72057594037927935 : Int64)).toInt = q.toInt % 72057594037927936 := Jvm.Kit.i64_mask q 72057594037927935 (k := 56) (by decide) (by decide)
theorem own_low0 (q : Int64) : 0 ≤ (q &&& (72057594037927935 : Int64)).toInt := by rw [own_low]; omega
theorem own_low1 (q : Int64) : (q &&& (72057594037927935 : Int64)).toInt < 72057594037927936 := by rw [own_low]; omega
theorem own_f (p : Int32) : 1 ≤ ((1 : Int32) + ((p &&& (2147483647 : Int32)) % (254 : Int32))).toInt ∧ ((1 : Int32) + ((p &&& (2147483647 : Int32)) % (254 : Int32))).toInt ≤ 254 := by
  have h1 := c_and p (2147483647 : Int32) (by decide)
  have h2 := (c_irem (p &&& (2147483647 : Int32)) (254 : Int32) 254 rfl).1 h1.1
  have z : (1 : Int32).toInt = 1 := rfl
  rw [Jvm.Kit.i32_add (by omega) (by omega)]; omega
theorem own_cmp {w1 w2 : Int64} {X : Int} (h1 : w1.toInt = X) (h2 : w2.toInt = X) : lcmpW w2 w1 = (0 : Int32) := by
  obtain rfl : w1 = w2 := Int64.toInt_inj.mp (h1.trans h2.symm)
  simp [lcmpW]
theorem own_Y1 (q : Int64) : (nar .byte ((((q.toUInt64 >>> ((48 : Int32) &&& 0x3f).toInt64.toUInt64).toInt64).toInt32).toInt8.toInt32)).toInt % 256 = ((q &&& (72057594037927935 : Int64)).toInt / 281474976710656) % 256 := by rw [own_low]; exact own_y1 q
theorem own_Y2 (q : Int64) : (nar .byte ((((q.toUInt64 >>> ((40 : Int32) &&& 0x3f).toInt64.toUInt64).toInt64).toInt32).toInt8.toInt32)).toInt % 256 = ((q &&& (72057594037927935 : Int64)).toInt / 1099511627776) % 256 := by rw [own_low]; exact own_y2 q
theorem own_Y3 (q : Int64) : (nar .byte ((((q.toUInt64 >>> ((32 : Int32) &&& 0x3f).toInt64.toUInt64).toInt64).toInt32).toInt8.toInt32)).toInt % 256 = ((q &&& (72057594037927935 : Int64)).toInt / 4294967296) % 256 := by rw [own_low]; exact own_y3 q
theorem own_Y4 (q : Int64) : (nar .byte ((((q.toUInt64 >>> ((24 : Int32) &&& 0x3f).toInt64.toUInt64).toInt64).toInt32).toInt8.toInt32)).toInt % 256 = ((q &&& (72057594037927935 : Int64)).toInt / 16777216) % 256 := by rw [own_low]; exact own_y4 q
theorem own_Y5 (q : Int64) : (nar .byte ((((q.toUInt64 >>> ((16 : Int32) &&& 0x3f).toInt64.toUInt64).toInt64).toInt32).toInt8.toInt32)).toInt % 256 = ((q &&& (72057594037927935 : Int64)).toInt / 65536) % 256 := by rw [own_low]; exact own_y5 q
theorem own_Y6 (q : Int64) : (nar .byte ((((q.toUInt64 >>> ((8 : Int32) &&& 0x3f).toInt64.toUInt64).toInt64).toInt32).toInt8.toInt32)).toInt % 256 = ((q &&& (72057594037927935 : Int64)).toInt / 256) % 256 := by rw [own_low]; exact own_y6 q
theorem own_Y7 (q : Int64) : (nar .byte ((q.toInt32).toInt8.toInt32)).toInt % 256 = ((q &&& (72057594037927935 : Int64)).toInt / 1) % 256 := by rw [own_low]; exact own_y7 q
def own_Qk (r : Option Value) (h0 : Heap) (n0 : Nat) (v : Option Value) (h : Heap) (L : List Loc) : Prop := v = r ∧ Fr n0 L ∧ Keep h0 h []
theorem own_and (p : Int32) : p &&& (3 : Int32) = (0 : Int32) ∨ p &&& (3 : Int32) = (1 : Int32) ∨ p &&& (3 : Int32) = (2 : Int32) ∨ p &&& (3 : Int32) = (3 : Int32) := by
  have h1 := c_and p (3 : Int32) (by decide)
  have h2 : ((3 : Int32)).toInt = 3 := rfl
  have h3 : (p &&& (3 : Int32)).toInt = 0 ∨ (p &&& (3 : Int32)).toInt = 1 ∨ (p &&& (3 : Int32)).toInt = 2 ∨ (p &&& (3 : Int32)).toInt = 3 := by omega
  rcases h3 with h | h | h | h
  · exact Or.inl (Int32.toInt_inj.mp (h.trans rfl))
  · exact Or.inr (Or.inl (Int32.toInt_inj.mp (h.trans rfl)))
  · exact Or.inr (Or.inr (Or.inl (Int32.toInt_inj.mp (h.trans rfl))))
  · exact Or.inr (Or.inr (Or.inr ((Int32.toInt_inj.mp (h.trans rfl)))))
theorem pd_1 : parseMethodDescriptor "(IJ)J" = some ⟨[.int, .long], some .long⟩ := by decide +kernel
theorem pd_2 : parseMethodDescriptor "([BI)J" = some ⟨[(.array .byte), .int], some .long⟩ := by decide +kernel
theorem ef_0_3 (m : MethodId) (x0 : Int32) (x1 : Int64) (x2 : Int32) (x3 : Int64) : entryFrame m #[(.int x0), (.long x1), (.int x2), (.long x3)] maxLocals = mkF m 0 #[.val (.int x0), .val (.long x1), .second, .val (.int x2), .val (.long x3), .second, .unset, .unset, .unset, .unset, .unset, .unset, .unset] [] := by first | (simp [entryFrame, mkF, argsToLocals, Value.category, maxLocals]; done) | rfl
set_option maxRecDepth 65536 in
set_option maxHeartbeats 40000000 in
theorem r_law_0 (l : Launch) (Z : State) (a0 : Array Value) (hw : ∀ d ∈ tables_1, d.before a0 Z = true) (ws : List Jvm.Cond) (s_R s_F s_E s_L : Addr) (cl_R cl_F cl_E : Cell) (k_L : ClassId) (h0 : Heap) (n0 : Nat) (O0 : Old Z n0 h0) (G : own_Ctx Z Z.heap s_R s_F s_E s_L cl_R cl_F cl_E k_L) (p1 : Int32) (q2 : Int64) (p3 : Int32) (q4 : Int64) (f : Int32) (hs : p3 &&& (3 : Int32) = (0 : Int32)) (hf : (1 : Int32) + ((p1 &&& (2147483647 : Int32)) % (254 : Int32)) = f) (hf1 : 1 ≤ f.toInt) (hf2 : f.toInt ≤ 254) :
    MetFree l x (head1 (Jvm.Cond.code x code maxLocals ret :: ws) room_1) (fun a U => a = #[(.int p1), (.long q2), (.int p3), (.long q4)] ∧ Z.Warmed39 U.vm ∧ U.heap = h0) (fun _ _ _ _ _ => True) (fun _ U o U' => ∃ v L, o = .returned v ∧ own_Qk (some (.int (1 : Int32))) h0 n0 v U'.heap L ∧ FrameEnd U o U' L 16 128) := by
  have G0 := G
  obtain ⟨S_R, C_R, S_F, C_F, S_E, C_E, S_L, V_L, R_1, R_2, R_3, R_4, R_5, F_0, F_1, F_2, F_3, F_4, F_5, F_6, F_7, F_8, F_9, F_10, F_11, F_12, F_13, F_14, E_0, E_1, E_2, E_3, E_4, E_5, E_6, E_7, E_8, E_9, E_10, E_11, E_12, E_13, E_14⟩ := G
  refine MetFree.of_bodySF (plainFor_of_name pn_0) hisR ?_
  intro p e s m args below meth c s₁ Bd hml0 hP hK
  obtain ⟨rfl, hZ, hh⟩ := hP
  have hx := Bd.exec
  have hby := Bd.bytes
  have hml : c.maxLocals = 13 := hml0
  have hown : s.vm.findClass "com/example/rattan/rattan/storage/label/ComponentCodeDecodePinLaw" = some m.cls := findClass_of_methodNamed Bd.named
  have hnm := (name_of_methodNamed Bd.named Bd.method).1
  have X0 : Stand p l e room_1 s m #[(.int p1), (.long q2), (.int p3), (.long q4)] below meth c s₁ [] 0 0 := Stand.of_body Bd
  have e0 : s₁.heap = h0 := by rw [← hh, Bd.state]; rfl
  have N0 := Fr.nil n0
  have pre0 : ∀ t, Steps p.tables e below (s₁.setTop (mkF m 0 #[.val (.int p1), .val (.long q2), .second, .val (.int p3), .val (.long q4), .second, .unset, .unset, .unset, .unset, .unset, .unset, .unset] [])) t → Steps p.tables e below (s₁.setTop (entryFrame m #[(.int p1), (.long q2), (.int p3), (.long q4)] maxLocals)) t := fun t k => castTop (ef_0_3 m p1 q2 p3 q4) k
  obtain ⟨T1, h1, k1, X1, e1, E1, A1, st1⟩ := newP X0 hx hZ (hw _ (List.mem_of_getElem? (i := 1) rfl)) e0 (g := (mkF m 19 #[.val (.int p1), .val (.long q2), .second, .val (.int p3), .val (.long q4), .second, .val (.int (0 : Int32)), .val (.int f), .unset, .unset, .unset, .unset, .unset] [(.int (11 : Int32))])) rfl (hb hby at_19) rfl (by decide) (cap := 11) (by decide) (by decide) (by decide) (by decide)
  obtain ⟨b1, g1⟩ : ∃ z, z = h0.size := ⟨_, rfl⟩
  have g_b1 : n0 ≤ b1 := Nat.le_trans (O0.1 ▸ O0.2.1) (Nat.le_of_eq g1.symm)
  have sz_b1 : h0.size ≤ b1 := Nat.le_trans (Keep.refl h0 []).1 (Nat.le_of_eq g1.symm)
  rw [← g1] at A1 st1
  have O1 := O0.ext E1
  have K1 : Keep h0 h1 [] := (Keep.refl h0 []).ext E1
  have V1 : Arv Z h1 b1 k1 .byte (11 : Int32) [(.int (0 : Int32)), (.int (0 : Int32)), (.int (0 : Int32)), (.int (0 : Int32)), (.int (0 : Int32)), (.int (0 : Int32)), (.int (0 : Int32)), (.int (0 : Int32)), (.int (0 : Int32)), (.int (0 : Int32)), (.int (0 : Int32))] (.int (0 : Int32)) := (Arv.new A1 (by decide)).pad (pad_rep [] (.int (0 : Int32)) 11)
  obtain ⟨v1, hv1⟩ : ∃ z : Int32, z = ((q4.toInt32).toInt8.toInt32) := ⟨_, rfl⟩
  have vc2 := V1
  obtain ⟨cl2, Ar2, qk2, S2, Nn2, Hs2, Gf2⟩ := vc2
  have hin2 : ¬ ((0 : Int32) < 0 ∨ cl2.slots.size ≤ ((0 : Int32)).toNatClampNeg) := inb_of S2 ⟨by decide, by decide⟩
  obtain ⟨T3, h3, X3, e3, W3, st3⟩ := stB X1 hx hZ e1 Ar2 (j := (0 : Int32)) hin2 (g := (mkF m 30 #[.val (.int p1), .val (.long q2), .second, .val (.int p3), .val (.long q4), .second, .val (.int (0 : Int32)), .val (.int f), .val (.ref b1), .unset, .unset, .unset, .unset] [(.int v1), (.int (0 : Int32)), (.ref b1)])) rfl rfl (hb hby at_30)
  have O3 := O1.wr W3 g_b1
  have K3 : Keep h0 h3 [] := K1.wr W3 (Or.inr sz_b1)
  have N3 := Fr.snoc X3 N0 g_b1
  have f4 : Arv Z h3 b1 k1 .byte (11 : Int32) [(.int (nar .byte v1)), (.int (0 : Int32)), (.int (0 : Int32)), (.int (0 : Int32)), (.int (0 : Int32)), (.int (0 : Int32)), (.int (0 : Int32)), (.int (0 : Int32)), (.int (0 : Int32)), (.int (0 : Int32)), (.int (0 : Int32))] (.int (0 : Int32)) := Arv.set Ar2 qk2 S2 Nn2 Hs2 Gf2 (fits_nar_byte _) W3 0 rfl (Nat.le_of_ble_eq_true rfl)
  obtain ⟨v2, hv2⟩ : ∃ z : Int32, z = ((((q4.toUInt64 >>> ((8 : Int32) &&& 0x3f).toInt64.toUInt64).toInt64).toInt32).toInt8.toInt32) := ⟨_, rfl⟩
  have vc5 := f4
  obtain ⟨cl5, Ar5, qk5, S5, Nn5, Hs5, Gf5⟩ := vc5
  have hin5 : ¬ ((1 : Int32) < 0 ∨ cl5.slots.size ≤ ((1 : Int32)).toNatClampNeg) := inb_of S5 ⟨by decide, by decide⟩
  obtain ⟨T6, h6, X6, e6, W6, st6⟩ := stB X3 hx hZ e3 Ar5 (j := (1 : Int32)) hin5 (g := (mkF m 41 #[.val (.int p1), .val (.long q2), .second, .val (.int p3), .val (.long q4), .second, .val (.int (0 : Int32)), .val (.int f), .val (.ref b1), .unset, .unset, .unset, .unset] [(.int v2), (.int (1 : Int32)), (.ref b1)])) rfl rfl (hb hby at_41)
  have O6 := O3.wr W6 g_b1
  have K6 : Keep h0 h6 [] := K3.wr W6 (Or.inr sz_b1)
  have N6 := Fr.snoc X6 N3 g_b1
  have f7 : Arv Z h6 b1 k1 .byte (11 : Int32) [(.int (nar .byte v1)), (.int (nar .byte v2)), (.int (0 : Int32)), (.int (0 : Int32)), (.int (0 : Int32)), (.int (0 : Int32)), (.int (0 : Int32)), (.int (0 : Int32)), (.int (0 : Int32)), (.int (0 : Int32)), (.int (0 : Int32))] (.int (0 : Int32)) := Arv.set Ar5 qk5 S5 Nn5 Hs5 Gf5 (fits_nar_byte _) W6 1 rfl (Nat.le_of_ble_eq_true rfl)
  obtain ⟨v3, hv3⟩ : ∃ z : Int32, z = ((((q4.toUInt64 >>> ((16 : Int32) &&& 0x3f).toInt64.toUInt64).toInt64).toInt32).toInt8.toInt32) := ⟨_, rfl⟩
  have vc8 := f7
  obtain ⟨cl8, Ar8, qk8, S8, Nn8, Hs8, Gf8⟩ := vc8
  have hin8 : ¬ ((2 : Int32) < 0 ∨ cl8.slots.size ≤ ((2 : Int32)).toNatClampNeg) := inb_of S8 ⟨by decide, by decide⟩
  obtain ⟨T9, h9, X9, e9, W9, st9⟩ := stB X6 hx hZ e6 Ar8 (j := (2 : Int32)) hin8 (g := (mkF m 52 #[.val (.int p1), .val (.long q2), .second, .val (.int p3), .val (.long q4), .second, .val (.int (0 : Int32)), .val (.int f), .val (.ref b1), .unset, .unset, .unset, .unset] [(.int v3), (.int (2 : Int32)), (.ref b1)])) rfl rfl (hb hby at_52)
  have O9 := O6.wr W9 g_b1
  have K9 : Keep h0 h9 [] := K6.wr W9 (Or.inr sz_b1)
  have N9 := Fr.snoc X9 N6 g_b1
  have f10 : Arv Z h9 b1 k1 .byte (11 : Int32) [(.int (nar .byte v1)), (.int (nar .byte v2)), (.int (nar .byte v3)), (.int (0 : Int32)), (.int (0 : Int32)), (.int (0 : Int32)), (.int (0 : Int32)), (.int (0 : Int32)), (.int (0 : Int32)), (.int (0 : Int32)), (.int (0 : Int32))] (.int (0 : Int32)) := Arv.set Ar8 qk8 S8 Nn8 Hs8 Gf8 (fits_nar_byte _) W9 2 rfl (Nat.le_of_ble_eq_true rfl)
  obtain ⟨v4, hv4⟩ : ∃ z : Int32, z = ((((q4.toUInt64 >>> ((24 : Int32) &&& 0x3f).toInt64.toUInt64).toInt64).toInt32).toInt8.toInt32) := ⟨_, rfl⟩
  have vc11 := f10
  obtain ⟨cl11, Ar11, qk11, S11, Nn11, Hs11, Gf11⟩ := vc11
  have hin11 : ¬ ((3 : Int32) < 0 ∨ cl11.slots.size ≤ ((3 : Int32)).toNatClampNeg) := inb_of S11 ⟨by decide, by decide⟩
  obtain ⟨T12, h12, X12, e12, W12, st12⟩ := stB X9 hx hZ e9 Ar11 (j := (3 : Int32)) hin11 (g := (mkF m 63 #[.val (.int p1), .val (.long q2), .second, .val (.int p3), .val (.long q4), .second, .val (.int (0 : Int32)), .val (.int f), .val (.ref b1), .unset, .unset, .unset, .unset] [(.int v4), (.int (3 : Int32)), (.ref b1)])) rfl rfl (hb hby at_63)
  have O12 := O9.wr W12 g_b1
  have K12 : Keep h0 h12 [] := K9.wr W12 (Or.inr sz_b1)
  have N12 := Fr.snoc X12 N9 g_b1
  have f13 : Arv Z h12 b1 k1 .byte (11 : Int32) [(.int (nar .byte v1)), (.int (nar .byte v2)), (.int (nar .byte v3)), (.int (nar .byte v4)), (.int (0 : Int32)), (.int (0 : Int32)), (.int (0 : Int32)), (.int (0 : Int32)), (.int (0 : Int32)), (.int (0 : Int32)), (.int (0 : Int32))] (.int (0 : Int32)) := Arv.set Ar11 qk11 S11 Nn11 Hs11 Gf11 (fits_nar_byte _) W12 3 rfl (Nat.le_of_ble_eq_true rfl)
  obtain ⟨v5, hv5⟩ : ∃ z : Int32, z = ((((q4.toUInt64 >>> ((32 : Int32) &&& 0x3f).toInt64.toUInt64).toInt64).toInt32).toInt8.toInt32) := ⟨_, rfl⟩
  have vc14 := f13
  obtain ⟨cl14, Ar14, qk14, S14, Nn14, Hs14, Gf14⟩ := vc14
  have hin14 : ¬ ((4 : Int32) < 0 ∨ cl14.slots.size ≤ ((4 : Int32)).toNatClampNeg) := inb_of S14 ⟨by decide, by decide⟩
  obtain ⟨T15, h15, X15, e15, W15, st15⟩ := stB X12 hx hZ e12 Ar14 (j := (4 : Int32)) hin14 (g := (mkF m 74 #[.val (.int p1), .val (.long q2), .second, .val (.int p3), .val (.long q4), .second, .val (.int (0 : Int32)), .val (.int f), .val (.ref b1), .unset, .unset, .unset, .unset] [(.int v5), (.int (4 : Int32)), (.ref b1)])) rfl rfl (hb hby at_74)
  have O15 := O12.wr W15 g_b1
  have K15 : Keep h0 h15 [] := K12.wr W15 (Or.inr sz_b1)
  have N15 := Fr.snoc X15 N12 g_b1
  have f16 : Arv Z h15 b1 k1 .byte (11 : Int32) [(.int (nar .byte v1)), (.int (nar .byte v2)), (.int (nar .byte v3)), (.int (nar .byte v4)), (.int (nar .byte v5)), (.int (0 : Int32)), (.int (0 : Int32)), (.int (0 : Int32)), (.int (0 : Int32)), (.int (0 : Int32)), (.int (0 : Int32))] (.int (0 : Int32)) := Arv.set Ar14 qk14 S14 Nn14 Hs14 Gf14 (fits_nar_byte _) W15 4 rfl (Nat.le_of_ble_eq_true rfl)
  obtain ⟨v6, hv6⟩ : ∃ z : Int32, z = ((((q4.toUInt64 >>> ((40 : Int32) &&& 0x3f).toInt64.toUInt64).toInt64).toInt32).toInt8.toInt32) := ⟨_, rfl⟩
  have vc17 := f16
  obtain ⟨cl17, Ar17, qk17, S17, Nn17, Hs17, Gf17⟩ := vc17
  have hin17 : ¬ ((5 : Int32) < 0 ∨ cl17.slots.size ≤ ((5 : Int32)).toNatClampNeg) := inb_of S17 ⟨by decide, by decide⟩
  obtain ⟨T18, h18, X18, e18, W18, st18⟩ := stB X15 hx hZ e15 Ar17 (j := (5 : Int32)) hin17 (g := (mkF m 85 #[.val (.int p1), .val (.long q2), .second, .val (.int p3), .val (.long q4), .second, .val (.int (0 : Int32)), .val (.int f), .val (.ref b1), .unset, .unset, .unset, .unset] [(.int v6), (.int (5 : Int32)), (.ref b1)])) rfl rfl (hb hby at_85)
  have O18 := O15.wr W18 g_b1
  have K18 : Keep h0 h18 [] := K15.wr W18 (Or.inr sz_b1)
  have N18 := Fr.snoc X18 N15 g_b1
  have f19 : Arv Z h18 b1 k1 .byte (11 : Int32) [(.int (nar .byte v1)), (.int (nar .byte v2)), (.int (nar .byte v3)), (.int (nar .byte v4)), (.int (nar .byte v5)), (.int (nar .byte v6)), (.int (0 : Int32)), (.int (0 : Int32)), (.int (0 : Int32)), (.int (0 : Int32)), (.int (0 : Int32))] (.int (0 : Int32)) := Arv.set Ar17 qk17 S17 Nn17 Hs17 Gf17 (fits_nar_byte _) W18 5 rfl (Nat.le_of_ble_eq_true rfl)
  obtain ⟨v7, hv7⟩ : ∃ z : Int32, z = ((((q4.toUInt64 >>> ((48 : Int32) &&& 0x3f).toInt64.toUInt64).toInt64).toInt32).toInt8.toInt32) := ⟨_, rfl⟩
  have vc20 := f19
  obtain ⟨cl20, Ar20, qk20, S20, Nn20, Hs20, Gf20⟩ := vc20
  have hin20 : ¬ ((6 : Int32) < 0 ∨ cl20.slots.size ≤ ((6 : Int32)).toNatClampNeg) := inb_of S20 ⟨by decide, by decide⟩
  obtain ⟨T21, h21, X21, e21, W21, st21⟩ := stB X18 hx hZ e18 Ar20 (j := (6 : Int32)) hin20 (g := (mkF m 97 #[.val (.int p1), .val (.long q2), .second, .val (.int p3), .val (.long q4), .second, .val (.int (0 : Int32)), .val (.int f), .val (.ref b1), .unset, .unset, .unset, .unset] [(.int v7), (.int (6 : Int32)), (.ref b1)])) rfl rfl (hb hby at_97)
  have O21 := O18.wr W21 g_b1
  have K21 : Keep h0 h21 [] := K18.wr W21 (Or.inr sz_b1)
  have N21 := Fr.snoc X21 N18 g_b1
  have f22 : Arv Z h21 b1 k1 .byte (11 : Int32) [(.int (nar .byte v1)), (.int (nar .byte v2)), (.int (nar .byte v3)), (.int (nar .byte v4)), (.int (nar .byte v5)), (.int (nar .byte v6)), (.int (nar .byte v7)), (.int (0 : Int32)), (.int (0 : Int32)), (.int (0 : Int32)), (.int (0 : Int32))] (.int (0 : Int32)) := Arv.set Ar20 qk20 S20 Nn20 Hs20 Gf20 (fits_nar_byte _) W21 6 rfl (Nat.le_of_ble_eq_true rfl)
  obtain ⟨v8, hv8⟩ : ∃ z : Int32, z = ((((q4.toUInt64 >>> ((56 : Int32) &&& 0x3f).toInt64.toUInt64).toInt64).toInt32).toInt8.toInt32) := ⟨_, rfl⟩
  have vc23 := f22
  obtain ⟨cl23, Ar23, qk23, S23, Nn23, Hs23, Gf23⟩ := vc23
  have hin23 : ¬ ((7 : Int32) < 0 ∨ cl23.slots.size ≤ ((7 : Int32)).toNatClampNeg) := inb_of S23 ⟨by decide, by decide⟩
  obtain ⟨T24, h24, X24, e24, W24, st24⟩ := stB X21 hx hZ e21 Ar23 (j := (7 : Int32)) hin23 (g := (mkF m 109 #[.val (.int p1), .val (.long q2), .second, .val (.int p3), .val (.long q4), .second, .val (.int (0 : Int32)), .val (.int f), .val (.ref b1), .unset, .unset, .unset, .unset] [(.int v8), (.int (7 : Int32)), (.ref b1)])) rfl rfl (hb hby at_109)
  have O24 := O21.wr W24 g_b1
  have K24 : Keep h0 h24 [] := K21.wr W24 (Or.inr sz_b1)
  have N24 := Fr.snoc X24 N21 g_b1
  have f25 : Arv Z h24 b1 k1 .byte (11 : Int32) [(.int (nar .byte v1)), (.int (nar .byte v2)), (.int (nar .byte v3)), (.int (nar .byte v4)), (.int (nar .byte v5)), (.int (nar .byte v6)), (.int (nar .byte v7)), (.int (nar .byte v8)), (.int (0 : Int32)), (.int (0 : Int32)), (.int (0 : Int32))] (.int (0 : Int32)) := Arv.set Ar23 qk23 S23 Nn23 Hs23 Gf23 (fits_nar_byte _) W24 7 rfl (Nat.le_of_ble_eq_true rfl)
  obtain ⟨v9, hv9⟩ : ∃ z : Int32, z = ((((q4.toUInt64 >>> ((4 : Int32) &&& 0x3f).toInt64.toUInt64).toInt64).toInt32).toInt8.toInt32) := ⟨_, rfl⟩
  have vc26 := f25
  obtain ⟨cl26, Ar26, qk26, S26, Nn26, Hs26, Gf26⟩ := vc26
  have hin26 : ¬ ((8 : Int32) < 0 ∨ cl26.slots.size ≤ ((8 : Int32)).toNatClampNeg) := inb_of S26 ⟨by decide, by decide⟩
  obtain ⟨T27, h27, X27, e27, W27, st27⟩ := stB X24 hx hZ e24 Ar26 (j := (8 : Int32)) hin26 (g := (mkF m 120 #[.val (.int p1), .val (.long q2), .second, .val (.int p3), .val (.long q4), .second, .val (.int (0 : Int32)), .val (.int f), .val (.ref b1), .unset, .unset, .unset, .unset] [(.int v9), (.int (8 : Int32)), (.ref b1)])) rfl rfl (hb hby at_120)
  have O27 := O24.wr W27 g_b1
  have K27 : Keep h0 h27 [] := K24.wr W27 (Or.inr sz_b1)
  have N27 := Fr.snoc X27 N24 g_b1
  have f28 : Arv Z h27 b1 k1 .byte (11 : Int32) [(.int (nar .byte v1)), (.int (nar .byte v2)), (.int (nar .byte v3)), (.int (nar .byte v4)), (.int (nar .byte v5)), (.int (nar .byte v6)), (.int (nar .byte v7)), (.int (nar .byte v8)), (.int (nar .byte v9)), (.int (0 : Int32)), (.int (0 : Int32))] (.int (0 : Int32)) := Arv.set Ar26 qk26 S26 Nn26 Hs26 Gf26 (fits_nar_byte _) W27 8 rfl (Nat.le_of_ble_eq_true rfl)
  obtain ⟨v10, hv10⟩ : ∃ z : Int32, z = ((((q4.toUInt64 >>> ((12 : Int32) &&& 0x3f).toInt64.toUInt64).toInt64).toInt32).toInt8.toInt32) := ⟨_, rfl⟩
  have vc29 := f28
  obtain ⟨cl29, Ar29, qk29, S29, Nn29, Hs29, Gf29⟩ := vc29
  have hin29 : ¬ ((9 : Int32) < 0 ∨ cl29.slots.size ≤ ((9 : Int32)).toNatClampNeg) := inb_of S29 ⟨by decide, by decide⟩
  obtain ⟨T30, h30, X30, e30, W30, st30⟩ := stB X27 hx hZ e27 Ar29 (j := (9 : Int32)) hin29 (g := (mkF m 132 #[.val (.int p1), .val (.long q2), .second, .val (.int p3), .val (.long q4), .second, .val (.int (0 : Int32)), .val (.int f), .val (.ref b1), .unset, .unset, .unset, .unset] [(.int v10), (.int (9 : Int32)), (.ref b1)])) rfl rfl (hb hby at_132)
  have O30 := O27.wr W30 g_b1
  have K30 : Keep h0 h30 [] := K27.wr W30 (Or.inr sz_b1)
  have N30 := Fr.snoc X30 N27 g_b1
  have f31 : Arv Z h30 b1 k1 .byte (11 : Int32) [(.int (nar .byte v1)), (.int (nar .byte v2)), (.int (nar .byte v3)), (.int (nar .byte v4)), (.int (nar .byte v5)), (.int (nar .byte v6)), (.int (nar .byte v7)), (.int (nar .byte v8)), (.int (nar .byte v9)), (.int (nar .byte v10)), (.int (0 : Int32))] (.int (0 : Int32)) := Arv.set Ar29 qk29 S29 Nn29 Hs29 Gf29 (fits_nar_byte _) W30 9 rfl (Nat.le_of_ble_eq_true rfl)
  obtain ⟨v11, hv11⟩ : ∃ z : Int32, z = ((((q4.toUInt64 >>> ((20 : Int32) &&& 0x3f).toInt64.toUInt64).toInt64).toInt32).toInt8.toInt32) := ⟨_, rfl⟩
  have vc32 := f31
  obtain ⟨cl32, Ar32, qk32, S32, Nn32, Hs32, Gf32⟩ := vc32
  have hin32 : ¬ ((10 : Int32) < 0 ∨ cl32.slots.size ≤ ((10 : Int32)).toNatClampNeg) := inb_of S32 ⟨by decide, by decide⟩
  obtain ⟨T33, h33, X33, e33, W33, st33⟩ := stB X30 hx hZ e30 Ar32 (j := (10 : Int32)) hin32 (g := (mkF m 144 #[.val (.int p1), .val (.long q2), .second, .val (.int p3), .val (.long q4), .second, .val (.int (0 : Int32)), .val (.int f), .val (.ref b1), .unset, .unset, .unset, .unset] [(.int v11), (.int (10 : Int32)), (.ref b1)])) rfl rfl (hb hby at_144)
  have O33 := O30.wr W33 g_b1
  have K33 : Keep h0 h33 [] := K30.wr W33 (Or.inr sz_b1)
  have N33 := Fr.snoc X33 N30 g_b1
  have f34 : Arv Z h33 b1 k1 .byte (11 : Int32) [(.int (nar .byte v1)), (.int (nar .byte v2)), (.int (nar .byte v3)), (.int (nar .byte v4)), (.int (nar .byte v5)), (.int (nar .byte v6)), (.int (nar .byte v7)), (.int (nar .byte v8)), (.int (nar .byte v9)), (.int (nar .byte v10)), (.int (nar .byte v11))] (.int (0 : Int32)) := Arv.set Ar32 qk32 S32 Nn32 Hs32 Gf32 (fits_nar_byte _) W33 10 rfl (Nat.le_of_ble_eq_true rfl)
  obtain ⟨v12, hv12⟩ : ∃ z : Int32, z = (f.toInt8.toInt32) := ⟨_, rfl⟩
  have vc35 := f34
  obtain ⟨cl35, Ar35, qk35, S35, Nn35, Hs35, Gf35⟩ := vc35
  have hin35 : ¬ ((0 : Int32) < 0 ∨ cl35.slots.size ≤ ((0 : Int32)).toNatClampNeg) := inb_of S35 ⟨by decide, by decide⟩
  obtain ⟨T36, h36, X36, e36, W36, st36⟩ := stB X33 hx hZ e33 Ar35 (j := (0 : Int32)) hin35 (g := (mkF m 152 #[.val (.int p1), .val (.long q2), .second, .val (.int p3), .val (.long q4), .second, .val (.int (0 : Int32)), .val (.int f), .val (.ref b1), .unset, .unset, .unset, .unset] [(.int v12), (.int (0 : Int32)), (.ref b1)])) rfl rfl (hb hby at_152)
  have O36 := O33.wr W36 g_b1
  have K36 : Keep h0 h36 [] := K33.wr W36 (Or.inr sz_b1)
  have N36 := Fr.snoc X36 N33 g_b1
  have f37 : Arv Z h36 b1 k1 .byte (11 : Int32) [(.int (nar .byte v12)), (.int (nar .byte v2)), (.int (nar .byte v3)), (.int (nar .byte v4)), (.int (nar .byte v5)), (.int (nar .byte v6)), (.int (nar .byte v7)), (.int (nar .byte v8)), (.int (nar .byte v9)), (.int (nar .byte v10)), (.int (nar .byte v11))] (.int (0 : Int32)) := Arv.set Ar35 qk35 S35 Nn35 Hs35 Gf35 (fits_nar_byte _) W36 0 rfl (Nat.le_of_ble_eq_true rfl)
  obtain ⟨v13, hv13⟩ : ∃ z : Int32, z = ((((q2.toUInt64 >>> ((48 : Int32) &&& 0x3f).toInt64.toUInt64).toInt64).toInt32).toInt8.toInt32) := ⟨_, rfl⟩
  have vc38 := f37
  obtain ⟨cl38, Ar38, qk38, S38, Nn38, Hs38, Gf38⟩ := vc38
  have hin38 : ¬ (((0 : Int32) + (1 : Int32)) < 0 ∨ cl38.slots.size ≤ (((0 : Int32) + (1 : Int32))).toNatClampNeg) := inb_of S38 ⟨by decide, by decide⟩
  obtain ⟨T39, h39, X39, e39, W39, st39⟩ := stB X36 hx hZ e36 Ar38 (j := ((0 : Int32) + (1 : Int32))) hin38 (g := (mkF m 165 #[.val (.int p1), .val (.long q2), .second, .val (.int p3), .val (.long q4), .second, .val (.int (0 : Int32)), .val (.int f), .val (.ref b1), .unset, .unset, .unset, .unset] [(.int v13), (.int ((0 : Int32) + (1 : Int32))), (.ref b1)])) rfl rfl (hb hby at_165)
  have O39 := O36.wr W39 g_b1
  have K39 : Keep h0 h39 [] := K36.wr W39 (Or.inr sz_b1)
  have N39 := Fr.snoc X39 N36 g_b1
  have f40 : Arv Z h39 b1 k1 .byte (11 : Int32) [(.int (nar .byte v12)), (.int (nar .byte v13)), (.int (nar .byte v3)), (.int (nar .byte v4)), (.int (nar .byte v5)), (.int (nar .byte v6)), (.int (nar .byte v7)), (.int (nar .byte v8)), (.int (nar .byte v9)), (.int (nar .byte v10)), (.int (nar .byte v11))] (.int (0 : Int32)) := Arv.set Ar38 qk38 S38 Nn38 Hs38 Gf38 (fits_nar_byte _) W39 1 rfl (Nat.le_of_ble_eq_true rfl)
  obtain ⟨v14, hv14⟩ : ∃ z : Int32, z = ((((q2.toUInt64 >>> ((40 : Int32) &&& 0x3f).toInt64.toUInt64).toInt64).toInt32).toInt8.toInt32) := ⟨_, rfl⟩
  have vc41 := f40
  obtain ⟨cl41, Ar41, qk41, S41, Nn41, Hs41, Gf41⟩ := vc41
  have hin41 : ¬ (((0 : Int32) + (2 : Int32)) < 0 ∨ cl41.slots.size ≤ (((0 : Int32) + (2 : Int32))).toNatClampNeg) := inb_of S41 ⟨by decide, by decide⟩
  obtain ⟨T42, h42, X42, e42, W42, st42⟩ := stB X39 hx hZ e39 Ar41 (j := ((0 : Int32) + (2 : Int32))) hin41 (g := (mkF m 178 #[.val (.int p1), .val (.long q2), .second, .val (.int p3), .val (.long q4), .second, .val (.int (0 : Int32)), .val (.int f), .val (.ref b1), .unset, .unset, .unset, .unset] [(.int v14), (.int ((0 : Int32) + (2 : Int32))), (.ref b1)])) rfl rfl (hb hby at_178)
  have O42 := O39.wr W42 g_b1
  have K42 : Keep h0 h42 [] := K39.wr W42 (Or.inr sz_b1)
  have N42 := Fr.snoc X42 N39 g_b1
  have f43 : Arv Z h42 b1 k1 .byte (11 : Int32) [(.int (nar .byte v12)), (.int (nar .byte v13)), (.int (nar .byte v14)), (.int (nar .byte v4)), (.int (nar .byte v5)), (.int (nar .byte v6)), (.int (nar .byte v7)), (.int (nar .byte v8)), (.int (nar .byte v9)), (.int (nar .byte v10)), (.int (nar .byte v11))] (.int (0 : Int32)) := Arv.set Ar41 qk41 S41 Nn41 Hs41 Gf41 (fits_nar_byte _) W42 2 rfl (Nat.le_of_ble_eq_true rfl)
  obtain ⟨v15, hv15⟩ : ∃ z : Int32, z = ((((q2.toUInt64 >>> ((32 : Int32) &&& 0x3f).toInt64.toUInt64).toInt64).toInt32).toInt8.toInt32) := ⟨_, rfl⟩
  have vc44 := f43
  obtain ⟨cl44, Ar44, qk44, S44, Nn44, Hs44, Gf44⟩ := vc44
  have hin44 : ¬ (((0 : Int32) + (3 : Int32)) < 0 ∨ cl44.slots.size ≤ (((0 : Int32) + (3 : Int32))).toNatClampNeg) := inb_of S44 ⟨by decide, by decide⟩
  obtain ⟨T45, h45, X45, e45, W45, st45⟩ := stB X42 hx hZ e42 Ar44 (j := ((0 : Int32) + (3 : Int32))) hin44 (g := (mkF m 191 #[.val (.int p1), .val (.long q2), .second, .val (.int p3), .val (.long q4), .second, .val (.int (0 : Int32)), .val (.int f), .val (.ref b1), .unset, .unset, .unset, .unset] [(.int v15), (.int ((0 : Int32) + (3 : Int32))), (.ref b1)])) rfl rfl (hb hby at_191)
  have O45 := O42.wr W45 g_b1
  have K45 : Keep h0 h45 [] := K42.wr W45 (Or.inr sz_b1)
  have N45 := Fr.snoc X45 N42 g_b1
  have f46 : Arv Z h45 b1 k1 .byte (11 : Int32) [(.int (nar .byte v12)), (.int (nar .byte v13)), (.int (nar .byte v14)), (.int (nar .byte v15)), (.int (nar .byte v5)), (.int (nar .byte v6)), (.int (nar .byte v7)), (.int (nar .byte v8)), (.int (nar .byte v9)), (.int (nar .byte v10)), (.int (nar .byte v11))] (.int (0 : Int32)) := Arv.set Ar44 qk44 S44 Nn44 Hs44 Gf44 (fits_nar_byte _) W45 3 rfl (Nat.le_of_ble_eq_true rfl)
  obtain ⟨v16, hv16⟩ : ∃ z : Int32, z = ((((q2.toUInt64 >>> ((24 : Int32) &&& 0x3f).toInt64.toUInt64).toInt64).toInt32).toInt8.toInt32) := ⟨_, rfl⟩
  have vc47 := f46
  obtain ⟨cl47, Ar47, qk47, S47, Nn47, Hs47, Gf47⟩ := vc47
  have hin47 : ¬ (((0 : Int32) + (4 : Int32)) < 0 ∨ cl47.slots.size ≤ (((0 : Int32) + (4 : Int32))).toNatClampNeg) := inb_of S47 ⟨by decide, by decide⟩
  obtain ⟨T48, h48, X48, e48, W48, st48⟩ := stB X45 hx hZ e45 Ar47 (j := ((0 : Int32) + (4 : Int32))) hin47 (g := (mkF m 204 #[.val (.int p1), .val (.long q2), .second, .val (.int p3), .val (.long q4), .second, .val (.int (0 : Int32)), .val (.int f), .val (.ref b1), .unset, .unset, .unset, .unset] [(.int v16), (.int ((0 : Int32) + (4 : Int32))), (.ref b1)])) rfl rfl (hb hby at_204)
  have O48 := O45.wr W48 g_b1
  have K48 : Keep h0 h48 [] := K45.wr W48 (Or.inr sz_b1)
  have N48 := Fr.snoc X48 N45 g_b1
  have f49 : Arv Z h48 b1 k1 .byte (11 : Int32) [(.int (nar .byte v12)), (.int (nar .byte v13)), (.int (nar .byte v14)), (.int (nar .byte v15)), (.int (nar .byte v16)), (.int (nar .byte v6)), (.int (nar .byte v7)), (.int (nar .byte v8)), (.int (nar .byte v9)), (.int (nar .byte v10)), (.int (nar .byte v11))] (.int (0 : Int32)) := Arv.set Ar47 qk47 S47 Nn47 Hs47 Gf47 (fits_nar_byte _) W48 4 rfl (Nat.le_of_ble_eq_true rfl)
  obtain ⟨v17, hv17⟩ : ∃ z : Int32, z = ((((q2.toUInt64 >>> ((16 : Int32) &&& 0x3f).toInt64.toUInt64).toInt64).toInt32).toInt8.toInt32) := ⟨_, rfl⟩
  have vc50 := f49
  obtain ⟨cl50, Ar50, qk50, S50, Nn50, Hs50, Gf50⟩ := vc50
  have hin50 : ¬ (((0 : Int32) + (5 : Int32)) < 0 ∨ cl50.slots.size ≤ (((0 : Int32) + (5 : Int32))).toNatClampNeg) := inb_of S50 ⟨by decide, by decide⟩
  obtain ⟨T51, h51, X51, e51, W51, st51⟩ := stB X48 hx hZ e48 Ar50 (j := ((0 : Int32) + (5 : Int32))) hin50 (g := (mkF m 217 #[.val (.int p1), .val (.long q2), .second, .val (.int p3), .val (.long q4), .second, .val (.int (0 : Int32)), .val (.int f), .val (.ref b1), .unset, .unset, .unset, .unset] [(.int v17), (.int ((0 : Int32) + (5 : Int32))), (.ref b1)])) rfl rfl (hb hby at_217)
  have O51 := O48.wr W51 g_b1
  have K51 : Keep h0 h51 [] := K48.wr W51 (Or.inr sz_b1)
  have N51 := Fr.snoc X51 N48 g_b1
  have f52 : Arv Z h51 b1 k1 .byte (11 : Int32) [(.int (nar .byte v12)), (.int (nar .byte v13)), (.int (nar .byte v14)), (.int (nar .byte v15)), (.int (nar .byte v16)), (.int (nar .byte v17)), (.int (nar .byte v7)), (.int (nar .byte v8)), (.int (nar .byte v9)), (.int (nar .byte v10)), (.int (nar .byte v11))] (.int (0 : Int32)) := Arv.set Ar50 qk50 S50 Nn50 Hs50 Gf50 (fits_nar_byte _) W51 5 rfl (Nat.le_of_ble_eq_true rfl)
  obtain ⟨v18, hv18⟩ : ∃ z : Int32, z = ((((q2.toUInt64 >>> ((8 : Int32) &&& 0x3f).toInt64.toUInt64).toInt64).toInt32).toInt8.toInt32) := ⟨_, rfl⟩
  have vc53 := f52
  obtain ⟨cl53, Ar53, qk53, S53, Nn53, Hs53, Gf53⟩ := vc53
  have hin53 : ¬ (((0 : Int32) + (6 : Int32)) < 0 ∨ cl53.slots.size ≤ (((0 : Int32) + (6 : Int32))).toNatClampNeg) := inb_of S53 ⟨by decide, by decide⟩
  obtain ⟨T54, h54, X54, e54, W54, st54⟩ := stB X51 hx hZ e51 Ar53 (j := ((0 : Int32) + (6 : Int32))) hin53 (g := (mkF m 231 #[.val (.int p1), .val (.long q2), .second, .val (.int p3), .val (.long q4), .second, .val (.int (0 : Int32)), .val (.int f), .val (.ref b1), .unset, .unset, .unset, .unset] [(.int v18), (.int ((0 : Int32) + (6 : Int32))), (.ref b1)])) rfl rfl (hb hby at_231)
  have O54 := O51.wr W54 g_b1
  have K54 : Keep h0 h54 [] := K51.wr W54 (Or.inr sz_b1)
  have N54 := Fr.snoc X54 N51 g_b1
  have f55 : Arv Z h54 b1 k1 .byte (11 : Int32) [(.int (nar .byte v12)), (.int (nar .byte v13)), (.int (nar .byte v14)), (.int (nar .byte v15)), (.int (nar .byte v16)), (.int (nar .byte v17)), (.int (nar .byte v18)), (.int (nar .byte v8)), (.int (nar .byte v9)), (.int (nar .byte v10)), (.int (nar .byte v11))] (.int (0 : Int32)) := Arv.set Ar53 qk53 S53 Nn53 Hs53 Gf53 (fits_nar_byte _) W54 6 rfl (Nat.le_of_ble_eq_true rfl)
  obtain ⟨v19, hv19⟩ : ∃ z : Int32, z = ((q2.toInt32).toInt8.toInt32) := ⟨_, rfl⟩
  have vc56 := f55
  obtain ⟨cl56, Ar56, qk56, S56, Nn56, Hs56, Gf56⟩ := vc56
  have hin56 : ¬ (((0 : Int32) + (7 : Int32)) < 0 ∨ cl56.slots.size ≤ (((0 : Int32) + (7 : Int32))).toNatClampNeg) := inb_of S56 ⟨by decide, by decide⟩
  obtain ⟨T57, h57, X57, e57, W57, st57⟩ := stB X54 hx hZ e54 Ar56 (j := ((0 : Int32) + (7 : Int32))) hin56 (g := (mkF m 242 #[.val (.int p1), .val (.long q2), .second, .val (.int p3), .val (.long q4), .second, .val (.int (0 : Int32)), .val (.int f), .val (.ref b1), .unset, .unset, .unset, .unset] [(.int v19), (.int ((0 : Int32) + (7 : Int32))), (.ref b1)])) rfl rfl (hb hby at_242)
  have O57 := O54.wr W57 g_b1
  have K57 : Keep h0 h57 [] := K54.wr W57 (Or.inr sz_b1)
  have N57 := Fr.snoc X57 N54 g_b1
  have f58 : Arv Z h57 b1 k1 .byte (11 : Int32) [(.int (nar .byte v12)), (.int (nar .byte v13)), (.int (nar .byte v14)), (.int (nar .byte v15)), (.int (nar .byte v16)), (.int (nar .byte v17)), (.int (nar .byte v18)), (.int (nar .byte v19)), (.int (nar .byte v9)), (.int (nar .byte v10)), (.int (nar .byte v11))] (.int (0 : Int32)) := Arv.set Ar56 qk56 S56 Nn56 Hs56 Gf56 (fits_nar_byte _) W57 7 rfl (Nat.le_of_ble_eq_true rfl)
  obtain ⟨LL59, X59, N59⟩ : ∃ LL, Stand p l e room_1 s m #[(.int p1), (.long q2), (.int p3), (.long q4)] below meth c T57 LL 1 11 ∧ Fr n0 LL := ⟨_, X57, N57⟩
  obtain ⟨_, _, ⟨T60, L60, k60, n60⟩, -, X60, ⟨Lc60, hQ60, l60, y60, z60⟩, st60⟩ := Jvm.LawKit.callS X59 hx (y := (⟨"com/example/rattan/rattan/storage/label/ComponentCodeDecodePinLaw", "expected", "(IJ)J"⟩ : MethodName)) hown (mvT hZ (hw _ (List.mem_of_getElem? (i := 3) rfl))) (mvT hZ (hw _ (List.mem_of_getElem? (i := 4) rfl))) (mvT hZ (hw _ (List.mem_of_getElem? (i := 5) rfl))) (mvT hZ (hw _ (List.mem_of_getElem? (i := 6) rfl))) (by decide) (backOf (W := 0) (r_exp l Z a0 hw [] s_R s_F s_E s_L cl_R cl_F cl_E k_L h57 n0 O57 G0 f (q2 &&& (72057594037927935 : Int64)) hf1 hf2 (own_low0 q2) (own_low1 q2)) hZ (hw _ (List.mem_of_getElem? (i := 6) rfl)) (hw _ (List.mem_of_getElem? (i := 5) rfl)) (by decide) (by decide)) (g := (mkF m 254 #[.val (.int p1), .val (.long q2), .second, .val (.int p3), .val (.long q4), .second, .val (.int (0 : Int32)), .val (.int f), .val (.ref b1), .val (.long (q2 &&& (72057594037927935 : Int64))), .second, .unset, .unset] [(.long (q2 &&& (72057594037927935 : Int64))), (.int f)])) rfl (by rw [hml]; rfl) (argsL := [(.int f), (.long (q2 &&& (72057594037927935 : Int64)))]) (rest := []) (lenOf pd_1 rfl) rfl (by show 2 * 0 + _ ≤ _; exact Nat.le_of_eq rfl) (hb hby at_254) (fun _ _ => ⟨rfl, e57, (by decide : 1 + 0 ≤ _), (by decide : 11 + 0 ≤ _)⟩)
  dsimp only [Pt.U, Pt.locs, Pt.cells, Pt.slots] at X60 l60 y60 z60 st60 hQ60
  subst l60 y60 z60
  obtain ⟨w60, rfl, N60q, e60, V60⟩ := hQ60
  have N60 := Fr.app N59 N60q
  obtain ⟨_, _, ⟨T61, L61, k61, n61⟩, -, X61, ⟨Lc61, hQ61, l61, y61, z61⟩, st61⟩ := Jvm.LawKit.callS X60 hx (y := (⟨"com/example/rattan/rattan/storage/label/ComponentCode", "decode", "([BI)J"⟩ : MethodName)) hown (mvT hZ (hw _ (List.mem_of_getElem? (i := 11) rfl))) (mvT hZ (hw _ (List.mem_of_getElem? (i := 12) rfl))) (mvT hZ (hw _ (List.mem_of_getElem? (i := 13) rfl))) (mvT hZ (hw _ (List.mem_of_getElem? (i := 14) rfl))) (by decide) (backOf (W := 0) (r_dec l Z a0 hw [] s_R s_F s_E s_L cl_R cl_F cl_E k_L h57 n0 O57 G0 b1 k1 _ (0 : Int32) (nar .byte v12) (nar .byte v13) (nar .byte v14) (nar .byte v15) (nar .byte v16) (nar .byte v17) (nar .byte v18) (nar .byte v19) (q2 &&& (72057594037927935 : Int64)).toInt f f58 (by rw [hv12]; exact own_g hf1 hf2) hf1 hf2 (own_low0 q2) (own_low1 q2) ⟨by decide, by decide⟩ rfl ⟨by decide, by decide⟩ rfl ⟨by decide, by decide⟩ rfl ⟨by decide, by decide⟩ rfl ⟨by decide, by decide⟩ rfl ⟨by decide, by decide⟩ rfl ⟨by decide, by decide⟩ rfl ⟨by decide, by decide⟩ rfl (by rw [hv13]; exact own_Y1 q2) (by rw [hv14]; exact own_Y2 q2) (by rw [hv15]; exact own_Y3 q2) (by rw [hv16]; exact own_Y4 q2) (by rw [hv17]; exact own_Y5 q2) (by rw [hv18]; exact own_Y6 q2) (by rw [hv19]; exact own_Y7 q2)) hZ (hw _ (List.mem_of_getElem? (i := 14) rfl)) (hw _ (List.mem_of_getElem? (i := 13) rfl)) (by decide) (by decide)) (g := (mkF m 263 #[.val (.int p1), .val (.long q2), .second, .val (.int p3), .val (.long q4), .second, .val (.int (0 : Int32)), .val (.int f), .val (.ref b1), .val (.long (q2 &&& (72057594037927935 : Int64))), .second, .val (.long w60), .second] [(.int (0 : Int32)), (.ref b1)])) rfl (by rw [hml]; rfl) (argsL := [(.ref b1), (.int (0 : Int32))]) (rest := []) (lenOf pd_2 rfl) rfl (by show 2 * 0 + _ ≤ _; exact Nat.le_of_eq rfl) (hb hby at_263) (fun _ _ => ⟨rfl, e60, (by decide : 1 + 0 ≤ _), (by decide : 11 + 0 ≤ _)⟩)
  dsimp only [Pt.U, Pt.locs, Pt.cells, Pt.slots] at X61 l61 y61 z61 st61 hQ61
  subst l61 y61 z61
  obtain ⟨w61, rfl, N61q, e61, V61⟩ := hQ61
  have N61 := Fr.app N60 N61q
  obtain ⟨fs, hr, hrun, hended, hW, hsame⟩ := X61.leave (v := some (.int (1 : Int32))) (fun h => by rw [Bd.returns] at h; cases h)
  refine ⟨_, _, pre0 _ ?_, hrun, hended, _, _, rfl, ?_, ⟨_, rfl⟩, hW, hsame.mono (by decide) (by decide)⟩
  · show Steps p.tables e below (s₁.setTop (mkF m 0 #[.val (.int p1), .val (.long q2), .second, .val (.int p3), .val (.long q4), .second, .unset, .unset, .unset, .unset, .unset, .unset, .unset] [])) _
    refine XS.iloadN X0.here hx rfl (hb hby at_0) rfl ?_
    refine XS.iconst X0.here hx rfl (hb hby at_1) ?_
    refine XS.iand X0.here hx rfl (hb hby at_2) rfl ?_
    show Steps p.tables e below (s₁.setTop (mkF m 3 #[.val (.int p1), .val (.long q2), .second, .val (.int p3), .val (.long q4), .second, .unset, .unset, .unset, .unset, .unset, .unset, .unset] [(.int (p3 &&& (3 : Int32)))])) _
    rw [hs]
    refine XS.istore X0.here hx rfl (hb hby at_3) rfl (l' := #[.val (.int p1), .val (.long q2), .second, .val (.int p3), .val (.long q4), .second, .val (.int (0 : Int32)), .unset, .unset, .unset, .unset, .unset, .unset]) rfl ?_
    show Steps p.tables e below (s₁.setTop (mkF m 5 #[.val (.int p1), .val (.long q2), .second, .val (.int p3), .val (.long q4), .second, .val (.int (0 : Int32)), .unset, .unset, .unset, .unset, .unset, .unset] [])) _
    refine XS.iconst X0.here hx rfl (hb hby at_5) ?_
    refine XS.iloadN X0.here hx rfl (hb hby at_6) rfl ?_
    show Steps p.tables e below (s₁.setTop (mkF m 7 #[.val (.int p1), .val (.long q2), .second, .val (.int p3), .val (.long q4), .second, .val (.int (0 : Int32)), .unset, .unset, .unset, .unset, .unset, .unset] [(.int p1), (.int (1 : Int32))])) _
    refine X0.ldcInt hx hown (mvT hZ (hw _ (List.mem_of_getElem? (i := 0) rfl))) (g := (mkF m 7 #[.val (.int p1), .val (.long q2), .second, .val (.int p3), .val (.long q4), .second, .val (.int (0 : Int32)), .unset, .unset, .unset, .unset, .unset, .unset] [(.int p1), (.int (1 : Int32))])) rfl (hb hby at_7) _ ?_
    show Steps p.tables e below (s₁.setTop (mkF m 9 #[.val (.int p1), .val (.long q2), .second, .val (.int p3), .val (.long q4), .second, .val (.int (0 : Int32)), .unset, .unset, .unset, .unset, .unset, .unset] [(.int (2147483647 : Int32)), (.int p1), (.int (1 : Int32))])) _
    refine XS.iand X0.here hx rfl (hb hby at_9) rfl ?_
    refine XS.sipush X0.here hx rfl (hb hby at_10) ?_
    show Steps p.tables e below (s₁.setTop (mkF m 13 #[.val (.int p1), .val (.long q2), .second, .val (.int p3), .val (.long q4), .second, .val (.int (0 : Int32)), .unset, .unset, .unset, .unset, .unset, .unset] [(.int (254 : Int32)), (.int (p1 &&& (2147483647 : Int32))), (.int (1 : Int32))])) _
    refine iremM X0 hx rfl (hb hby at_13) rfl (by decide) ?_
    show Steps p.tables e below (s₁.setTop (mkF m 14 #[.val (.int p1), .val (.long q2), .second, .val (.int p3), .val (.long q4), .second, .val (.int (0 : Int32)), .unset, .unset, .unset, .unset, .unset, .unset] [(.int ((p1 &&& (2147483647 : Int32)) % (254 : Int32))), (.int (1 : Int32))])) _
    refine XS.iadd X0.here hx rfl (hb hby at_14) rfl ?_
    show Steps p.tables e below (s₁.setTop (mkF m 15 #[.val (.int p1), .val (.long q2), .second, .val (.int p3), .val (.long q4), .second, .val (.int (0 : Int32)), .unset, .unset, .unset, .unset, .unset, .unset] [(.int ((1 : Int32) + ((p1 &&& (2147483647 : Int32)) % (254 : Int32))))])) _
    rw [hf]
    refine XS.istore X0.here hx rfl (hb hby at_15) rfl (l' := #[.val (.int p1), .val (.long q2), .second, .val (.int p3), .val (.long q4), .second, .val (.int (0 : Int32)), .val (.int f), .unset, .unset, .unset, .unset, .unset]) rfl ?_
    show Steps p.tables e below (s₁.setTop (mkF m 17 #[.val (.int p1), .val (.long q2), .second, .val (.int p3), .val (.long q4), .second, .val (.int (0 : Int32)), .val (.int f), .unset, .unset, .unset, .unset, .unset] [])) _
    refine XS.bipush X0.here hx rfl (hb hby at_17) ?_
    show Steps p.tables e below (s₁.setTop (mkF m 19 #[.val (.int p1), .val (.long q2), .second, .val (.int p3), .val (.long q4), .second, .val (.int (0 : Int32)), .val (.int f), .unset, .unset, .unset, .unset, .unset] [(.int (11 : Int32))])) _
    refine st1 _ ?_
    show Steps p.tables e below (T1.setTop (mkF m 21 #[.val (.int p1), .val (.long q2), .second, .val (.int p3), .val (.long q4), .second, .val (.int (0 : Int32)), .val (.int f), .unset, .unset, .unset, .unset, .unset] [(.ref b1)])) _
    refine XS.astore X1.here hx rfl (hb hby at_21) rfl rfl (l' := #[.val (.int p1), .val (.long q2), .second, .val (.int p3), .val (.long q4), .second, .val (.int (0 : Int32)), .val (.int f), .val (.ref b1), .unset, .unset, .unset, .unset]) rfl ?_
    show Steps p.tables e below (T1.setTop (mkF m 23 #[.val (.int p1), .val (.long q2), .second, .val (.int p3), .val (.long q4), .second, .val (.int (0 : Int32)), .val (.int f), .val (.ref b1), .unset, .unset, .unset, .unset] [])) _
    refine XS.aload X1.here hx rfl (hb hby at_23) rfl rfl ?_
    refine XS.iconst X1.here hx rfl (hb hby at_25) ?_
    refine XS.lload X1.here hx rfl (hb hby at_26) rfl ?_
    refine XS.l2i X1.here hx rfl (hb hby at_28) rfl ?_
    refine XS.i2b X1.here hx rfl (hb hby at_29) rfl ?_
    show Steps p.tables e below (T1.setTop (mkF m 30 #[.val (.int p1), .val (.long q2), .second, .val (.int p3), .val (.long q4), .second, .val (.int (0 : Int32)), .val (.int f), .val (.ref b1), .unset, .unset, .unset, .unset] [(.int ((q4.toInt32).toInt8.toInt32)), (.int (0 : Int32)), (.ref b1)])) _
    rw [← hv1]
    show Steps p.tables e below (T1.setTop (mkF m 30 #[.val (.int p1), .val (.long q2), .second, .val (.int p3), .val (.long q4), .second, .val (.int (0 : Int32)), .val (.int f), .val (.ref b1), .unset, .unset, .unset, .unset] [(.int v1), (.int (0 : Int32)), (.ref b1)])) _
    refine st3 _ ?_
    show Steps p.tables e below (T3.setTop (mkF m 31 #[.val (.int p1), .val (.long q2), .second, .val (.int p3), .val (.long q4), .second, .val (.int (0 : Int32)), .val (.int f), .val (.ref b1), .unset, .unset, .unset, .unset] [])) _
    refine XS.aload X3.here hx rfl (hb hby at_31) rfl rfl ?_
    refine XS.iconst X3.here hx rfl (hb hby at_33) ?_
    refine XS.lload X3.here hx rfl (hb hby at_34) rfl ?_
    refine XS.bipush X3.here hx rfl (hb hby at_36) ?_
    refine XS.lushr X3.here hx rfl (hb hby at_38) rfl ?_
    show Steps p.tables e below (T3.setTop (mkF m 39 #[.val (.int p1), .val (.long q2), .second, .val (.int p3), .val (.long q4), .second, .val (.int (0 : Int32)), .val (.int f), .val (.ref b1), .unset, .unset, .unset, .unset] [(.long ((q4.toUInt64 >>> ((8 : Int32) &&& 0x3f).toInt64.toUInt64).toInt64)), (.int (1 : Int32)), (.ref b1)])) _
    refine XS.l2i X3.here hx rfl (hb hby at_39) rfl ?_
    refine XS.i2b X3.here hx rfl (hb hby at_40) rfl ?_
    show Steps p.tables e below (T3.setTop (mkF m 41 #[.val (.int p1), .val (.long q2), .second, .val (.int p3), .val (.long q4), .second, .val (.int (0 : Int32)), .val (.int f), .val (.ref b1), .unset, .unset, .unset, .unset] [(.int ((((q4.toUInt64 >>> ((8 : Int32) &&& 0x3f).toInt64.toUInt64).toInt64).toInt32).toInt8.toInt32)), (.int (1 : Int32)), (.ref b1)])) _
    rw [← hv2]
    show Steps p.tables e below (T3.setTop (mkF m 41 #[.val (.int p1), .val (.long q2), .second, .val (.int p3), .val (.long q4), .second, .val (.int (0 : Int32)), .val (.int f), .val (.ref b1), .unset, .unset, .unset, .unset] [(.int v2), (.int (1 : Int32)), (.ref b1)])) _
    refine st6 _ ?_
    show Steps p.tables e below (T6.setTop (mkF m 42 #[.val (.int p1), .val (.long q2), .second, .val (.int p3), .val (.long q4), .second, .val (.int (0 : Int32)), .val (.int f), .val (.ref b1), .unset, .unset, .unset, .unset] [])) _
    refine XS.aload X6.here hx rfl (hb hby at_42) rfl rfl ?_
    refine XS.iconst X6.here hx rfl (hb hby at_44) ?_
    refine XS.lload X6.here hx rfl (hb hby at_45) rfl ?_
    refine XS.bipush X6.here hx rfl (hb hby at_47) ?_
    refine XS.lushr X6.here hx rfl (hb hby at_49) rfl ?_
    show Steps p.tables e below (T6.setTop (mkF m 50 #[.val (.int p1), .val (.long q2), .second, .val (.int p3), .val (.long q4), .second, .val (.int (0 : Int32)), .val (.int f), .val (.ref b1), .unset, .unset, .unset, .unset] [(.long ((q4.toUInt64 >>> ((16 : Int32) &&& 0x3f).toInt64.toUInt64).toInt64)), (.int (2 : Int32)), (.ref b1)])) _
    refine XS.l2i X6.here hx rfl (hb hby at_50) rfl ?_
    refine XS.i2b X6.here hx rfl (hb hby at_51) rfl ?_
    show Steps p.tables e below (T6.setTop (mkF m 52 #[.val (.int p1), .val (.long q2), .second, .val (.int p3), .val (.long q4), .second, .val (.int (0 : Int32)), .val (.int f), .val (.ref b1), .unset, .unset, .unset, .unset] [(.int ((((q4.toUInt64 >>> ((16 : Int32) &&& 0x3f).toInt64.toUInt64).toInt64).toInt32).toInt8.toInt32)), (.int (2 : Int32)), (.ref b1)])) _
    rw [← hv3]
    show Steps p.tables e below (T6.setTop (mkF m 52 #[.val (.int p1), .val (.long q2), .second, .val (.int p3), .val (.long q4), .second, .val (.int (0 : Int32)), .val (.int f), .val (.ref b1), .unset, .unset, .unset, .unset] [(.int v3), (.int (2 : Int32)), (.ref b1)])) _
    refine st9 _ ?_
    show Steps p.tables e below (T9.setTop (mkF m 53 #[.val (.int p1), .val (.long q2), .second, .val (.int p3), .val (.long q4), .second, .val (.int (0 : Int32)), .val (.int f), .val (.ref b1), .unset, .unset, .unset, .unset] [])) _
    refine XS.aload X9.here hx rfl (hb hby at_53) rfl rfl ?_
    refine XS.iconst X9.here hx rfl (hb hby at_55) ?_
    refine XS.lload X9.here hx rfl (hb hby at_56) rfl ?_
    refine XS.bipush X9.here hx rfl (hb hby at_58) ?_
    refine XS.lushr X9.here hx rfl (hb hby at_60) rfl ?_
    show Steps p.tables e below (T9.setTop (mkF m 61 #[.val (.int p1), .val (.long q2), .second, .val (.int p3), .val (.long q4), .second, .val (.int (0 : Int32)), .val (.int f), .val (.ref b1), .unset, .unset, .unset, .unset] [(.long ((q4.toUInt64 >>> ((24 : Int32) &&& 0x3f).toInt64.toUInt64).toInt64)), (.int (3 : Int32)), (.ref b1)])) _
    refine XS.l2i X9.here hx rfl (hb hby at_61) rfl ?_
    refine XS.i2b X9.here hx rfl (hb hby at_62) rfl ?_
    show Steps p.tables e below (T9.setTop (mkF m 63 #[.val (.int p1), .val (.long q2), .second, .val (.int p3), .val (.long q4), .second, .val (.int (0 : Int32)), .val (.int f), .val (.ref b1), .unset, .unset, .unset, .unset] [(.int ((((q4.toUInt64 >>> ((24 : Int32) &&& 0x3f).toInt64.toUInt64).toInt64).toInt32).toInt8.toInt32)), (.int (3 : Int32)), (.ref b1)])) _
    rw [← hv4]
    show Steps p.tables e below (T9.setTop (mkF m 63 #[.val (.int p1), .val (.long q2), .second, .val (.int p3), .val (.long q4), .second, .val (.int (0 : Int32)), .val (.int f), .val (.ref b1), .unset, .unset, .unset, .unset] [(.int v4), (.int (3 : Int32)), (.ref b1)])) _
    refine st12 _ ?_
    show Steps p.tables e below (T12.setTop (mkF m 64 #[.val (.int p1), .val (.long q2), .second, .val (.int p3), .val (.long q4), .second, .val (.int (0 : Int32)), .val (.int f), .val (.ref b1), .unset, .unset, .unset, .unset] [])) _
    refine XS.aload X12.here hx rfl (hb hby at_64) rfl rfl ?_
    refine XS.iconst X12.here hx rfl (hb hby at_66) ?_
    refine XS.lload X12.here hx rfl (hb hby at_67) rfl ?_
    refine XS.bipush X12.here hx rfl (hb hby at_69) ?_
    refine XS.lushr X12.here hx rfl (hb hby at_71) rfl ?_
    show Steps p.tables e below (T12.setTop (mkF m 72 #[.val (.int p1), .val (.long q2), .second, .val (.int p3), .val (.long q4), .second, .val (.int (0 : Int32)), .val (.int f), .val (.ref b1), .unset, .unset, .unset, .unset] [(.long ((q4.toUInt64 >>> ((32 : Int32) &&& 0x3f).toInt64.toUInt64).toInt64)), (.int (4 : Int32)), (.ref b1)])) _
    refine XS.l2i X12.here hx rfl (hb hby at_72) rfl ?_
    refine XS.i2b X12.here hx rfl (hb hby at_73) rfl ?_
    show Steps p.tables e below (T12.setTop (mkF m 74 #[.val (.int p1), .val (.long q2), .second, .val (.int p3), .val (.long q4), .second, .val (.int (0 : Int32)), .val (.int f), .val (.ref b1), .unset, .unset, .unset, .unset] [(.int ((((q4.toUInt64 >>> ((32 : Int32) &&& 0x3f).toInt64.toUInt64).toInt64).toInt32).toInt8.toInt32)), (.int (4 : Int32)), (.ref b1)])) _
    rw [← hv5]
    show Steps p.tables e below (T12.setTop (mkF m 74 #[.val (.int p1), .val (.long q2), .second, .val (.int p3), .val (.long q4), .second, .val (.int (0 : Int32)), .val (.int f), .val (.ref b1), .unset, .unset, .unset, .unset] [(.int v5), (.int (4 : Int32)), (.ref b1)])) _
    refine st15 _ ?_
    show Steps p.tables e below (T15.setTop (mkF m 75 #[.val (.int p1), .val (.long q2), .second, .val (.int p3), .val (.long q4), .second, .val (.int (0 : Int32)), .val (.int f), .val (.ref b1), .unset, .unset, .unset, .unset] [])) _
    refine XS.aload X15.here hx rfl (hb hby at_75) rfl rfl ?_
    refine XS.iconst X15.here hx rfl (hb hby at_77) ?_
    refine XS.lload X15.here hx rfl (hb hby at_78) rfl ?_
    refine XS.bipush X15.here hx rfl (hb hby at_80) ?_
    refine XS.lushr X15.here hx rfl (hb hby at_82) rfl ?_
    show Steps p.tables e below (T15.setTop (mkF m 83 #[.val (.int p1), .val (.long q2), .second, .val (.int p3), .val (.long q4), .second, .val (.int (0 : Int32)), .val (.int f), .val (.ref b1), .unset, .unset, .unset, .unset] [(.long ((q4.toUInt64 >>> ((40 : Int32) &&& 0x3f).toInt64.toUInt64).toInt64)), (.int (5 : Int32)), (.ref b1)])) _
    refine XS.l2i X15.here hx rfl (hb hby at_83) rfl ?_
    refine XS.i2b X15.here hx rfl (hb hby at_84) rfl ?_
    show Steps p.tables e below (T15.setTop (mkF m 85 #[.val (.int p1), .val (.long q2), .second, .val (.int p3), .val (.long q4), .second, .val (.int (0 : Int32)), .val (.int f), .val (.ref b1), .unset, .unset, .unset, .unset] [(.int ((((q4.toUInt64 >>> ((40 : Int32) &&& 0x3f).toInt64.toUInt64).toInt64).toInt32).toInt8.toInt32)), (.int (5 : Int32)), (.ref b1)])) _
    rw [← hv6]
    show Steps p.tables e below (T15.setTop (mkF m 85 #[.val (.int p1), .val (.long q2), .second, .val (.int p3), .val (.long q4), .second, .val (.int (0 : Int32)), .val (.int f), .val (.ref b1), .unset, .unset, .unset, .unset] [(.int v6), (.int (5 : Int32)), (.ref b1)])) _
    refine st18 _ ?_
    show Steps p.tables e below (T18.setTop (mkF m 86 #[.val (.int p1), .val (.long q2), .second, .val (.int p3), .val (.long q4), .second, .val (.int (0 : Int32)), .val (.int f), .val (.ref b1), .unset, .unset, .unset, .unset] [])) _
    refine XS.aload X18.here hx rfl (hb hby at_86) rfl rfl ?_
    refine XS.bipush X18.here hx rfl (hb hby at_88) ?_
    refine XS.lload X18.here hx rfl (hb hby at_90) rfl ?_
    refine XS.bipush X18.here hx rfl (hb hby at_92) ?_
    refine XS.lushr X18.here hx rfl (hb hby at_94) rfl ?_
    show Steps p.tables e below (T18.setTop (mkF m 95 #[.val (.int p1), .val (.long q2), .second, .val (.int p3), .val (.long q4), .second, .val (.int (0 : Int32)), .val (.int f), .val (.ref b1), .unset, .unset, .unset, .unset] [(.long ((q4.toUInt64 >>> ((48 : Int32) &&& 0x3f).toInt64.toUInt64).toInt64)), (.int (6 : Int32)), (.ref b1)])) _
    refine XS.l2i X18.here hx rfl (hb hby at_95) rfl ?_
    refine XS.i2b X18.here hx rfl (hb hby at_96) rfl ?_
    show Steps p.tables e below (T18.setTop (mkF m 97 #[.val (.int p1), .val (.long q2), .second, .val (.int p3), .val (.long q4), .second, .val (.int (0 : Int32)), .val (.int f), .val (.ref b1), .unset, .unset, .unset, .unset] [(.int ((((q4.toUInt64 >>> ((48 : Int32) &&& 0x3f).toInt64.toUInt64).toInt64).toInt32).toInt8.toInt32)), (.int (6 : Int32)), (.ref b1)])) _
    rw [← hv7]
    show Steps p.tables e below (T18.setTop (mkF m 97 #[.val (.int p1), .val (.long q2), .second, .val (.int p3), .val (.long q4), .second, .val (.int (0 : Int32)), .val (.int f), .val (.ref b1), .unset, .unset, .unset, .unset] [(.int v7), (.int (6 : Int32)), (.ref b1)])) _
    refine st21 _ ?_
    show Steps p.tables e below (T21.setTop (mkF m 98 #[.val (.int p1), .val (.long q2), .second, .val (.int p3), .val (.long q4), .second, .val (.int (0 : Int32)), .val (.int f), .val (.ref b1), .unset, .unset, .unset, .unset] [])) _
    refine XS.aload X21.here hx rfl (hb hby at_98) rfl rfl ?_
    refine XS.bipush X21.here hx rfl (hb hby at_100) ?_
    refine XS.lload X21.here hx rfl (hb hby at_102) rfl ?_
    refine XS.bipush X21.here hx rfl (hb hby at_104) ?_
    refine XS.lushr X21.here hx rfl (hb hby at_106) rfl ?_
    show Steps p.tables e below (T21.setTop (mkF m 107 #[.val (.int p1), .val (.long q2), .second, .val (.int p3), .val (.long q4), .second, .val (.int (0 : Int32)), .val (.int f), .val (.ref b1), .unset, .unset, .unset, .unset] [(.long ((q4.toUInt64 >>> ((56 : Int32) &&& 0x3f).toInt64.toUInt64).toInt64)), (.int (7 : Int32)), (.ref b1)])) _
    refine XS.l2i X21.here hx rfl (hb hby at_107) rfl ?_
    refine XS.i2b X21.here hx rfl (hb hby at_108) rfl ?_
    show Steps p.tables e below (T21.setTop (mkF m 109 #[.val (.int p1), .val (.long q2), .second, .val (.int p3), .val (.long q4), .second, .val (.int (0 : Int32)), .val (.int f), .val (.ref b1), .unset, .unset, .unset, .unset] [(.int ((((q4.toUInt64 >>> ((56 : Int32) &&& 0x3f).toInt64.toUInt64).toInt64).toInt32).toInt8.toInt32)), (.int (7 : Int32)), (.ref b1)])) _
    rw [← hv8]
    show Steps p.tables e below (T21.setTop (mkF m 109 #[.val (.int p1), .val (.long q2), .second, .val (.int p3), .val (.long q4), .second, .val (.int (0 : Int32)), .val (.int f), .val (.ref b1), .unset, .unset, .unset, .unset] [(.int v8), (.int (7 : Int32)), (.ref b1)])) _
    refine st24 _ ?_
    show Steps p.tables e below (T24.setTop (mkF m 110 #[.val (.int p1), .val (.long q2), .second, .val (.int p3), .val (.long q4), .second, .val (.int (0 : Int32)), .val (.int f), .val (.ref b1), .unset, .unset, .unset, .unset] [])) _
    refine XS.aload X24.here hx rfl (hb hby at_110) rfl rfl ?_
    refine XS.bipush X24.here hx rfl (hb hby at_112) ?_
    refine XS.lload X24.here hx rfl (hb hby at_114) rfl ?_
    refine XS.iconst X24.here hx rfl (hb hby at_116) ?_
    refine XS.lushr X24.here hx rfl (hb hby at_117) rfl ?_
    show Steps p.tables e below (T24.setTop (mkF m 118 #[.val (.int p1), .val (.long q2), .second, .val (.int p3), .val (.long q4), .second, .val (.int (0 : Int32)), .val (.int f), .val (.ref b1), .unset, .unset, .unset, .unset] [(.long ((q4.toUInt64 >>> ((4 : Int32) &&& 0x3f).toInt64.toUInt64).toInt64)), (.int (8 : Int32)), (.ref b1)])) _
    refine XS.l2i X24.here hx rfl (hb hby at_118) rfl ?_
    refine XS.i2b X24.here hx rfl (hb hby at_119) rfl ?_
    show Steps p.tables e below (T24.setTop (mkF m 120 #[.val (.int p1), .val (.long q2), .second, .val (.int p3), .val (.long q4), .second, .val (.int (0 : Int32)), .val (.int f), .val (.ref b1), .unset, .unset, .unset, .unset] [(.int ((((q4.toUInt64 >>> ((4 : Int32) &&& 0x3f).toInt64.toUInt64).toInt64).toInt32).toInt8.toInt32)), (.int (8 : Int32)), (.ref b1)])) _
    rw [← hv9]
    show Steps p.tables e below (T24.setTop (mkF m 120 #[.val (.int p1), .val (.long q2), .second, .val (.int p3), .val (.long q4), .second, .val (.int (0 : Int32)), .val (.int f), .val (.ref b1), .unset, .unset, .unset, .unset] [(.int v9), (.int (8 : Int32)), (.ref b1)])) _
    refine st27 _ ?_
    show Steps p.tables e below (T27.setTop (mkF m 121 #[.val (.int p1), .val (.long q2), .second, .val (.int p3), .val (.long q4), .second, .val (.int (0 : Int32)), .val (.int f), .val (.ref b1), .unset, .unset, .unset, .unset] [])) _
    refine XS.aload X27.here hx rfl (hb hby at_121) rfl rfl ?_
    refine XS.bipush X27.here hx rfl (hb hby at_123) ?_
    refine XS.lload X27.here hx rfl (hb hby at_125) rfl ?_
    refine XS.bipush X27.here hx rfl (hb hby at_127) ?_
    refine XS.lushr X27.here hx rfl (hb hby at_129) rfl ?_
    show Steps p.tables e below (T27.setTop (mkF m 130 #[.val (.int p1), .val (.long q2), .second, .val (.int p3), .val (.long q4), .second, .val (.int (0 : Int32)), .val (.int f), .val (.ref b1), .unset, .unset, .unset, .unset] [(.long ((q4.toUInt64 >>> ((12 : Int32) &&& 0x3f).toInt64.toUInt64).toInt64)), (.int (9 : Int32)), (.ref b1)])) _
    refine XS.l2i X27.here hx rfl (hb hby at_130) rfl ?_
    refine XS.i2b X27.here hx rfl (hb hby at_131) rfl ?_
    show Steps p.tables e below (T27.setTop (mkF m 132 #[.val (.int p1), .val (.long q2), .second, .val (.int p3), .val (.long q4), .second, .val (.int (0 : Int32)), .val (.int f), .val (.ref b1), .unset, .unset, .unset, .unset] [(.int ((((q4.toUInt64 >>> ((12 : Int32) &&& 0x3f).toInt64.toUInt64).toInt64).toInt32).toInt8.toInt32)), (.int (9 : Int32)), (.ref b1)])) _
    rw [← hv10]
    show Steps p.tables e below (T27.setTop (mkF m 132 #[.val (.int p1), .val (.long q2), .second, .val (.int p3), .val (.long q4), .second, .val (.int (0 : Int32)), .val (.int f), .val (.ref b1), .unset, .unset, .unset, .unset] [(.int v10), (.int (9 : Int32)), (.ref b1)])) _
    refine st30 _ ?_
    show Steps p.tables e below (T30.setTop (mkF m 133 #[.val (.int p1), .val (.long q2), .second, .val (.int p3), .val (.long q4), .second, .val (.int (0 : Int32)), .val (.int f), .val (.ref b1), .unset, .unset, .unset, .unset] [])) _
    refine XS.aload X30.here hx rfl (hb hby at_133) rfl rfl ?_
    refine XS.bipush X30.here hx rfl (hb hby at_135) ?_
    refine XS.lload X30.here hx rfl (hb hby at_137) rfl ?_
    refine XS.bipush X30.here hx rfl (hb hby at_139) ?_
    refine XS.lushr X30.here hx rfl (hb hby at_141) rfl ?_
    show Steps p.tables e below (T30.setTop (mkF m 142 #[.val (.int p1), .val (.long q2), .second, .val (.int p3), .val (.long q4), .second, .val (.int (0 : Int32)), .val (.int f), .val (.ref b1), .unset, .unset, .unset, .unset] [(.long ((q4.toUInt64 >>> ((20 : Int32) &&& 0x3f).toInt64.toUInt64).toInt64)), (.int (10 : Int32)), (.ref b1)])) _
    refine XS.l2i X30.here hx rfl (hb hby at_142) rfl ?_
    refine XS.i2b X30.here hx rfl (hb hby at_143) rfl ?_
    show Steps p.tables e below (T30.setTop (mkF m 144 #[.val (.int p1), .val (.long q2), .second, .val (.int p3), .val (.long q4), .second, .val (.int (0 : Int32)), .val (.int f), .val (.ref b1), .unset, .unset, .unset, .unset] [(.int ((((q4.toUInt64 >>> ((20 : Int32) &&& 0x3f).toInt64.toUInt64).toInt64).toInt32).toInt8.toInt32)), (.int (10 : Int32)), (.ref b1)])) _
    rw [← hv11]
    show Steps p.tables e below (T30.setTop (mkF m 144 #[.val (.int p1), .val (.long q2), .second, .val (.int p3), .val (.long q4), .second, .val (.int (0 : Int32)), .val (.int f), .val (.ref b1), .unset, .unset, .unset, .unset] [(.int v11), (.int (10 : Int32)), (.ref b1)])) _
    refine st33 _ ?_
    show Steps p.tables e below (T33.setTop (mkF m 145 #[.val (.int p1), .val (.long q2), .second, .val (.int p3), .val (.long q4), .second, .val (.int (0 : Int32)), .val (.int f), .val (.ref b1), .unset, .unset, .unset, .unset] [])) _
    refine XS.aload X33.here hx rfl (hb hby at_145) rfl rfl ?_
    refine XS.iload X33.here hx rfl (hb hby at_147) rfl ?_
    refine XS.iload X33.here hx rfl (hb hby at_149) rfl ?_
    refine XS.i2b X33.here hx rfl (hb hby at_151) rfl ?_
    show Steps p.tables e below (T33.setTop (mkF m 152 #[.val (.int p1), .val (.long q2), .second, .val (.int p3), .val (.long q4), .second, .val (.int (0 : Int32)), .val (.int f), .val (.ref b1), .unset, .unset, .unset, .unset] [(.int (f.toInt8.toInt32)), (.int (0 : Int32)), (.ref b1)])) _
    rw [← hv12]
    show Steps p.tables e below (T33.setTop (mkF m 152 #[.val (.int p1), .val (.long q2), .second, .val (.int p3), .val (.long q4), .second, .val (.int (0 : Int32)), .val (.int f), .val (.ref b1), .unset, .unset, .unset, .unset] [(.int v12), (.int (0 : Int32)), (.ref b1)])) _
    refine st36 _ ?_
    show Steps p.tables e below (T36.setTop (mkF m 153 #[.val (.int p1), .val (.long q2), .second, .val (.int p3), .val (.long q4), .second, .val (.int (0 : Int32)), .val (.int f), .val (.ref b1), .unset, .unset, .unset, .unset] [])) _
    refine XS.aload X36.here hx rfl (hb hby at_153) rfl rfl ?_
    refine XS.iload X36.here hx rfl (hb hby at_155) rfl ?_
    refine XS.iconst X36.here hx rfl (hb hby at_157) ?_
    refine XS.iadd X36.here hx rfl (hb hby at_158) rfl ?_
    refine XS.lloadN X36.here hx rfl (hb hby at_159) rfl ?_
    show Steps p.tables e below (T36.setTop (mkF m 160 #[.val (.int p1), .val (.long q2), .second, .val (.int p3), .val (.long q4), .second, .val (.int (0 : Int32)), .val (.int f), .val (.ref b1), .unset, .unset, .unset, .unset] [(.long q2), (.int ((0 : Int32) + (1 : Int32))), (.ref b1)])) _
    refine XS.bipush X36.here hx rfl (hb hby at_160) ?_
    refine XS.lushr X36.here hx rfl (hb hby at_162) rfl ?_
    refine XS.l2i X36.here hx rfl (hb hby at_163) rfl ?_
    refine XS.i2b X36.here hx rfl (hb hby at_164) rfl ?_
    show Steps p.tables e below (T36.setTop (mkF m 165 #[.val (.int p1), .val (.long q2), .second, .val (.int p3), .val (.long q4), .second, .val (.int (0 : Int32)), .val (.int f), .val (.ref b1), .unset, .unset, .unset, .unset] [(.int ((((q2.toUInt64 >>> ((48 : Int32) &&& 0x3f).toInt64.toUInt64).toInt64).toInt32).toInt8.toInt32)), (.int ((0 : Int32) + (1 : Int32))), (.ref b1)])) _
    rw [← hv13]
    show Steps p.tables e below (T36.setTop (mkF m 165 #[.val (.int p1), .val (.long q2), .second, .val (.int p3), .val (.long q4), .second, .val (.int (0 : Int32)), .val (.int f), .val (.ref b1), .unset, .unset, .unset, .unset] [(.int v13), (.int ((0 : Int32) + (1 : Int32))), (.ref b1)])) _
    refine st39 _ ?_
    show Steps p.tables e below (T39.setTop (mkF m 166 #[.val (.int p1), .val (.long q2), .second, .val (.int p3), .val (.long q4), .second, .val (.int (0 : Int32)), .val (.int f), .val (.ref b1), .unset, .unset, .unset, .unset] [])) _
    refine XS.aload X39.here hx rfl (hb hby at_166) rfl rfl ?_
    refine XS.iload X39.here hx rfl (hb hby at_168) rfl ?_
    refine XS.iconst X39.here hx rfl (hb hby at_170) ?_
    refine XS.iadd X39.here hx rfl (hb hby at_171) rfl ?_
    refine XS.lloadN X39.here hx rfl (hb hby at_172) rfl ?_
    show Steps p.tables e below (T39.setTop (mkF m 173 #[.val (.int p1), .val (.long q2), .second, .val (.int p3), .val (.long q4), .second, .val (.int (0 : Int32)), .val (.int f), .val (.ref b1), .unset, .unset, .unset, .unset] [(.long q2), (.int ((0 : Int32) + (2 : Int32))), (.ref b1)])) _
    refine XS.bipush X39.here hx rfl (hb hby at_173) ?_
    refine XS.lushr X39.here hx rfl (hb hby at_175) rfl ?_
    refine XS.l2i X39.here hx rfl (hb hby at_176) rfl ?_
    refine XS.i2b X39.here hx rfl (hb hby at_177) rfl ?_
    show Steps p.tables e below (T39.setTop (mkF m 178 #[.val (.int p1), .val (.long q2), .second, .val (.int p3), .val (.long q4), .second, .val (.int (0 : Int32)), .val (.int f), .val (.ref b1), .unset, .unset, .unset, .unset] [(.int ((((q2.toUInt64 >>> ((40 : Int32) &&& 0x3f).toInt64.toUInt64).toInt64).toInt32).toInt8.toInt32)), (.int ((0 : Int32) + (2 : Int32))), (.ref b1)])) _
    rw [← hv14]
    show Steps p.tables e below (T39.setTop (mkF m 178 #[.val (.int p1), .val (.long q2), .second, .val (.int p3), .val (.long q4), .second, .val (.int (0 : Int32)), .val (.int f), .val (.ref b1), .unset, .unset, .unset, .unset] [(.int v14), (.int ((0 : Int32) + (2 : Int32))), (.ref b1)])) _
    refine st42 _ ?_
    show Steps p.tables e below (T42.setTop (mkF m 179 #[.val (.int p1), .val (.long q2), .second, .val (.int p3), .val (.long q4), .second, .val (.int (0 : Int32)), .val (.int f), .val (.ref b1), .unset, .unset, .unset, .unset] [])) _
    refine XS.aload X42.here hx rfl (hb hby at_179) rfl rfl ?_
    refine XS.iload X42.here hx rfl (hb hby at_181) rfl ?_
    refine XS.iconst X42.here hx rfl (hb hby at_183) ?_
    refine XS.iadd X42.here hx rfl (hb hby at_184) rfl ?_
    refine XS.lloadN X42.here hx rfl (hb hby at_185) rfl ?_
    show Steps p.tables e below (T42.setTop (mkF m 186 #[.val (.int p1), .val (.long q2), .second, .val (.int p3), .val (.long q4), .second, .val (.int (0 : Int32)), .val (.int f), .val (.ref b1), .unset, .unset, .unset, .unset] [(.long q2), (.int ((0 : Int32) + (3 : Int32))), (.ref b1)])) _
    refine XS.bipush X42.here hx rfl (hb hby at_186) ?_
    refine XS.lushr X42.here hx rfl (hb hby at_188) rfl ?_
    refine XS.l2i X42.here hx rfl (hb hby at_189) rfl ?_
    refine XS.i2b X42.here hx rfl (hb hby at_190) rfl ?_
    show Steps p.tables e below (T42.setTop (mkF m 191 #[.val (.int p1), .val (.long q2), .second, .val (.int p3), .val (.long q4), .second, .val (.int (0 : Int32)), .val (.int f), .val (.ref b1), .unset, .unset, .unset, .unset] [(.int ((((q2.toUInt64 >>> ((32 : Int32) &&& 0x3f).toInt64.toUInt64).toInt64).toInt32).toInt8.toInt32)), (.int ((0 : Int32) + (3 : Int32))), (.ref b1)])) _
    rw [← hv15]
    show Steps p.tables e below (T42.setTop (mkF m 191 #[.val (.int p1), .val (.long q2), .second, .val (.int p3), .val (.long q4), .second, .val (.int (0 : Int32)), .val (.int f), .val (.ref b1), .unset, .unset, .unset, .unset] [(.int v15), (.int ((0 : Int32) + (3 : Int32))), (.ref b1)])) _
    refine st45 _ ?_
    show Steps p.tables e below (T45.setTop (mkF m 192 #[.val (.int p1), .val (.long q2), .second, .val (.int p3), .val (.long q4), .second, .val (.int (0 : Int32)), .val (.int f), .val (.ref b1), .unset, .unset, .unset, .unset] [])) _
    refine XS.aload X45.here hx rfl (hb hby at_192) rfl rfl ?_
    refine XS.iload X45.here hx rfl (hb hby at_194) rfl ?_
    refine XS.iconst X45.here hx rfl (hb hby at_196) ?_
    refine XS.iadd X45.here hx rfl (hb hby at_197) rfl ?_
    refine XS.lloadN X45.here hx rfl (hb hby at_198) rfl ?_
    show Steps p.tables e below (T45.setTop (mkF m 199 #[.val (.int p1), .val (.long q2), .second, .val (.int p3), .val (.long q4), .second, .val (.int (0 : Int32)), .val (.int f), .val (.ref b1), .unset, .unset, .unset, .unset] [(.long q2), (.int ((0 : Int32) + (4 : Int32))), (.ref b1)])) _
    refine XS.bipush X45.here hx rfl (hb hby at_199) ?_
    refine XS.lushr X45.here hx rfl (hb hby at_201) rfl ?_
    refine XS.l2i X45.here hx rfl (hb hby at_202) rfl ?_
    refine XS.i2b X45.here hx rfl (hb hby at_203) rfl ?_
    show Steps p.tables e below (T45.setTop (mkF m 204 #[.val (.int p1), .val (.long q2), .second, .val (.int p3), .val (.long q4), .second, .val (.int (0 : Int32)), .val (.int f), .val (.ref b1), .unset, .unset, .unset, .unset] [(.int ((((q2.toUInt64 >>> ((24 : Int32) &&& 0x3f).toInt64.toUInt64).toInt64).toInt32).toInt8.toInt32)), (.int ((0 : Int32) + (4 : Int32))), (.ref b1)])) _
    rw [← hv16]
    show Steps p.tables e below (T45.setTop (mkF m 204 #[.val (.int p1), .val (.long q2), .second, .val (.int p3), .val (.long q4), .second, .val (.int (0 : Int32)), .val (.int f), .val (.ref b1), .unset, .unset, .unset, .unset] [(.int v16), (.int ((0 : Int32) + (4 : Int32))), (.ref b1)])) _
    refine st48 _ ?_
    show Steps p.tables e below (T48.setTop (mkF m 205 #[.val (.int p1), .val (.long q2), .second, .val (.int p3), .val (.long q4), .second, .val (.int (0 : Int32)), .val (.int f), .val (.ref b1), .unset, .unset, .unset, .unset] [])) _
    refine XS.aload X48.here hx rfl (hb hby at_205) rfl rfl ?_
    refine XS.iload X48.here hx rfl (hb hby at_207) rfl ?_
    refine XS.iconst X48.here hx rfl (hb hby at_209) ?_
    refine XS.iadd X48.here hx rfl (hb hby at_210) rfl ?_
    refine XS.lloadN X48.here hx rfl (hb hby at_211) rfl ?_
    show Steps p.tables e below (T48.setTop (mkF m 212 #[.val (.int p1), .val (.long q2), .second, .val (.int p3), .val (.long q4), .second, .val (.int (0 : Int32)), .val (.int f), .val (.ref b1), .unset, .unset, .unset, .unset] [(.long q2), (.int ((0 : Int32) + (5 : Int32))), (.ref b1)])) _
    refine XS.bipush X48.here hx rfl (hb hby at_212) ?_
    refine XS.lushr X48.here hx rfl (hb hby at_214) rfl ?_
    refine XS.l2i X48.here hx rfl (hb hby at_215) rfl ?_
    refine XS.i2b X48.here hx rfl (hb hby at_216) rfl ?_
    show Steps p.tables e below (T48.setTop (mkF m 217 #[.val (.int p1), .val (.long q2), .second, .val (.int p3), .val (.long q4), .second, .val (.int (0 : Int32)), .val (.int f), .val (.ref b1), .unset, .unset, .unset, .unset] [(.int ((((q2.toUInt64 >>> ((16 : Int32) &&& 0x3f).toInt64.toUInt64).toInt64).toInt32).toInt8.toInt32)), (.int ((0 : Int32) + (5 : Int32))), (.ref b1)])) _
    rw [← hv17]
    show Steps p.tables e below (T48.setTop (mkF m 217 #[.val (.int p1), .val (.long q2), .second, .val (.int p3), .val (.long q4), .second, .val (.int (0 : Int32)), .val (.int f), .val (.ref b1), .unset, .unset, .unset, .unset] [(.int v17), (.int ((0 : Int32) + (5 : Int32))), (.ref b1)])) _
    refine st51 _ ?_
    show Steps p.tables e below (T51.setTop (mkF m 218 #[.val (.int p1), .val (.long q2), .second, .val (.int p3), .val (.long q4), .second, .val (.int (0 : Int32)), .val (.int f), .val (.ref b1), .unset, .unset, .unset, .unset] [])) _
    refine XS.aload X51.here hx rfl (hb hby at_218) rfl rfl ?_
    refine XS.iload X51.here hx rfl (hb hby at_220) rfl ?_
    refine XS.bipush X51.here hx rfl (hb hby at_222) ?_
    refine XS.iadd X51.here hx rfl (hb hby at_224) rfl ?_
    refine XS.lloadN X51.here hx rfl (hb hby at_225) rfl ?_
    show Steps p.tables e below (T51.setTop (mkF m 226 #[.val (.int p1), .val (.long q2), .second, .val (.int p3), .val (.long q4), .second, .val (.int (0 : Int32)), .val (.int f), .val (.ref b1), .unset, .unset, .unset, .unset] [(.long q2), (.int ((0 : Int32) + (6 : Int32))), (.ref b1)])) _
    refine XS.bipush X51.here hx rfl (hb hby at_226) ?_
    refine XS.lushr X51.here hx rfl (hb hby at_228) rfl ?_
    refine XS.l2i X51.here hx rfl (hb hby at_229) rfl ?_
    refine XS.i2b X51.here hx rfl (hb hby at_230) rfl ?_
    show Steps p.tables e below (T51.setTop (mkF m 231 #[.val (.int p1), .val (.long q2), .second, .val (.int p3), .val (.long q4), .second, .val (.int (0 : Int32)), .val (.int f), .val (.ref b1), .unset, .unset, .unset, .unset] [(.int ((((q2.toUInt64 >>> ((8 : Int32) &&& 0x3f).toInt64.toUInt64).toInt64).toInt32).toInt8.toInt32)), (.int ((0 : Int32) + (6 : Int32))), (.ref b1)])) _
    rw [← hv18]
    show Steps p.tables e below (T51.setTop (mkF m 231 #[.val (.int p1), .val (.long q2), .second, .val (.int p3), .val (.long q4), .second, .val (.int (0 : Int32)), .val (.int f), .val (.ref b1), .unset, .unset, .unset, .unset] [(.int v18), (.int ((0 : Int32) + (6 : Int32))), (.ref b1)])) _
    refine st54 _ ?_
    show Steps p.tables e below (T54.setTop (mkF m 232 #[.val (.int p1), .val (.long q2), .second, .val (.int p3), .val (.long q4), .second, .val (.int (0 : Int32)), .val (.int f), .val (.ref b1), .unset, .unset, .unset, .unset] [])) _
    refine XS.aload X54.here hx rfl (hb hby at_232) rfl rfl ?_
    refine XS.iload X54.here hx rfl (hb hby at_234) rfl ?_
    refine XS.bipush X54.here hx rfl (hb hby at_236) ?_
    refine XS.iadd X54.here hx rfl (hb hby at_238) rfl ?_
    refine XS.lloadN X54.here hx rfl (hb hby at_239) rfl ?_
    show Steps p.tables e below (T54.setTop (mkF m 240 #[.val (.int p1), .val (.long q2), .second, .val (.int p3), .val (.long q4), .second, .val (.int (0 : Int32)), .val (.int f), .val (.ref b1), .unset, .unset, .unset, .unset] [(.long q2), (.int ((0 : Int32) + (7 : Int32))), (.ref b1)])) _
    refine XS.l2i X54.here hx rfl (hb hby at_240) rfl ?_
    refine XS.i2b X54.here hx rfl (hb hby at_241) rfl ?_
    show Steps p.tables e below (T54.setTop (mkF m 242 #[.val (.int p1), .val (.long q2), .second, .val (.int p3), .val (.long q4), .second, .val (.int (0 : Int32)), .val (.int f), .val (.ref b1), .unset, .unset, .unset, .unset] [(.int ((q2.toInt32).toInt8.toInt32)), (.int ((0 : Int32) + (7 : Int32))), (.ref b1)])) _
    rw [← hv19]
    show Steps p.tables e below (T54.setTop (mkF m 242 #[.val (.int p1), .val (.long q2), .second, .val (.int p3), .val (.long q4), .second, .val (.int (0 : Int32)), .val (.int f), .val (.ref b1), .unset, .unset, .unset, .unset] [(.int v19), (.int ((0 : Int32) + (7 : Int32))), (.ref b1)])) _
    refine st57 _ ?_
    show Steps p.tables e below (T57.setTop (mkF m 243 #[.val (.int p1), .val (.long q2), .second, .val (.int p3), .val (.long q4), .second, .val (.int (0 : Int32)), .val (.int f), .val (.ref b1), .unset, .unset, .unset, .unset] [])) _
    refine XS.lloadN X57.here hx rfl (hb hby at_243) rfl ?_
    show Steps p.tables e below (T57.setTop (mkF m 244 #[.val (.int p1), .val (.long q2), .second, .val (.int p3), .val (.long q4), .second, .val (.int (0 : Int32)), .val (.int f), .val (.ref b1), .unset, .unset, .unset, .unset] [(.long q2)])) _
    refine X57.ldc2Long hx hown (mvT hZ (hw _ (List.mem_of_getElem? (i := 2) rfl))) (g := (mkF m 244 #[.val (.int p1), .val (.long q2), .second, .val (.int p3), .val (.long q4), .second, .val (.int (0 : Int32)), .val (.int f), .val (.ref b1), .unset, .unset, .unset, .unset] [(.long q2)])) rfl (hb hby at_244) _ ?_
    show Steps p.tables e below (T57.setTop (mkF m 247 #[.val (.int p1), .val (.long q2), .second, .val (.int p3), .val (.long q4), .second, .val (.int (0 : Int32)), .val (.int f), .val (.ref b1), .unset, .unset, .unset, .unset] [(.long (72057594037927935 : Int64)), (.long q2)])) _
    refine XS.land X57.here hx rfl (hb hby at_247) rfl ?_
    show Steps p.tables e below (T57.setTop (mkF m 248 #[.val (.int p1), .val (.long q2), .second, .val (.int p3), .val (.long q4), .second, .val (.int (0 : Int32)), .val (.int f), .val (.ref b1), .unset, .unset, .unset, .unset] [(.long (q2 &&& (72057594037927935 : Int64)))])) _
    refine XS.lstore X57.here hx rfl (hb hby at_248) rfl (l' := #[.val (.int p1), .val (.long q2), .second, .val (.int p3), .val (.long q4), .second, .val (.int (0 : Int32)), .val (.int f), .val (.ref b1), .val (.long (q2 &&& (72057594037927935 : Int64))), .second, .unset, .unset]) rfl ?_
    show Steps p.tables e below (T57.setTop (mkF m 250 #[.val (.int p1), .val (.long q2), .second, .val (.int p3), .val (.long q4), .second, .val (.int (0 : Int32)), .val (.int f), .val (.ref b1), .val (.long (q2 &&& (72057594037927935 : Int64))), .second, .unset, .unset] [])) _
    refine XS.iload X57.here hx rfl (hb hby at_250) rfl ?_
    refine XS.lload X57.here hx rfl (hb hby at_252) rfl ?_
    show Steps p.tables e below (T57.setTop (mkF m 254 #[.val (.int p1), .val (.long q2), .second, .val (.int p3), .val (.long q4), .second, .val (.int (0 : Int32)), .val (.int f), .val (.ref b1), .val (.long (q2 &&& (72057594037927935 : Int64))), .second, .unset, .unset] [(.long (q2 &&& (72057594037927935 : Int64))), (.int f)])) _
    refine st60 _ ?_
    show Steps p.tables e below (T60.setTop (mkF m 257 #[.val (.int p1), .val (.long q2), .second, .val (.int p3), .val (.long q4), .second, .val (.int (0 : Int32)), .val (.int f), .val (.ref b1), .val (.long (q2 &&& (72057594037927935 : Int64))), .second, .unset, .unset] [(.long w60)])) _
    refine XS.lstore X60.here hx rfl (hb hby at_257) rfl (l' := #[.val (.int p1), .val (.long q2), .second, .val (.int p3), .val (.long q4), .second, .val (.int (0 : Int32)), .val (.int f), .val (.ref b1), .val (.long (q2 &&& (72057594037927935 : Int64))), .second, .val (.long w60), .second]) rfl ?_
    show Steps p.tables e below (T60.setTop (mkF m 259 #[.val (.int p1), .val (.long q2), .second, .val (.int p3), .val (.long q4), .second, .val (.int (0 : Int32)), .val (.int f), .val (.ref b1), .val (.long (q2 &&& (72057594037927935 : Int64))), .second, .val (.long w60), .second] [])) _
    refine XS.aload X60.here hx rfl (hb hby at_259) rfl rfl ?_
    refine XS.iload X60.here hx rfl (hb hby at_261) rfl ?_
    show Steps p.tables e below (T60.setTop (mkF m 263 #[.val (.int p1), .val (.long q2), .second, .val (.int p3), .val (.long q4), .second, .val (.int (0 : Int32)), .val (.int f), .val (.ref b1), .val (.long (q2 &&& (72057594037927935 : Int64))), .second, .val (.long w60), .second] [(.int (0 : Int32)), (.ref b1)])) _
    refine st61 _ ?_
    show Steps p.tables e below (T61.setTop (mkF m 266 #[.val (.int p1), .val (.long q2), .second, .val (.int p3), .val (.long q4), .second, .val (.int (0 : Int32)), .val (.int f), .val (.ref b1), .val (.long (q2 &&& (72057594037927935 : Int64))), .second, .val (.long w60), .second] [(.long w61)])) _
    refine XS.lload X61.here hx rfl (hb hby at_266) rfl ?_
    show Steps p.tables e below (T61.setTop (mkF m 268 #[.val (.int p1), .val (.long q2), .second, .val (.int p3), .val (.long q4), .second, .val (.int (0 : Int32)), .val (.int f), .val (.ref b1), .val (.long (q2 &&& (72057594037927935 : Int64))), .second, .val (.long w60), .second] [(.long w60), (.long w61)])) _
    refine XS.lcmp X61.here hx rfl (hb hby at_268) rfl ?_
    show Steps p.tables e below (T61.setTop (mkF m 269 #[.val (.int p1), .val (.long q2), .second, .val (.int p3), .val (.long q4), .second, .val (.int (0 : Int32)), .val (.int f), .val (.ref b1), .val (.long (q2 &&& (72057594037927935 : Int64))), .second, .val (.long w60), .second] [(.int (lcmpW w61 w60))])) _
    refine XS.ifNo X61.here hx rfl (hb hby at_269) rfl ((if0 _ _).trans (teq (own_cmp V60 V61 : (lcmpW w61 w60) = (0 : Int32))).2) ?_
    show Steps p.tables e below (T61.setTop (mkF m 272 #[.val (.int p1), .val (.long q2), .second, .val (.int p3), .val (.long q4), .second, .val (.int (0 : Int32)), .val (.int f), .val (.ref b1), .val (.long (q2 &&& (72057594037927935 : Int64))), .second, .val (.long w60), .second] [])) _
    refine XS.iconst X61.here hx rfl (hb hby at_272) ?_
    show Steps p.tables e below (T61.setTop (mkF m 273 #[.val (.int p1), .val (.long q2), .second, .val (.int p3), .val (.long q4), .second, .val (.int (0 : Int32)), .val (.int f), .val (.ref b1), .val (.long (q2 &&& (72057594037927935 : Int64))), .second, .val (.long w60), .second] [(.int (1 : Int32))])) _
    refine XS.goto X61.here hx rfl (pc0 := 273) (pc' := 277) rfl (hb hby at_273) (by decide) (by decide) ?_
    show Steps p.tables e below (T61.setTop (mkF m 277 #[.val (.int p1), .val (.long q2), .second, .val (.int p3), .val (.long q4), .second, .val (.int (0 : Int32)), .val (.int f), .val (.ref b1), .val (.long (q2 &&& (72057594037927935 : Int64))), .second, .val (.long w60), .second] [(.int (1 : Int32))])) _
    exact retN X61 hx (t := .boolean) Bd.returns (by simp) (hb hby at_277) hr
  · show own_Qk (some (.int (1 : Int32))) h0 n0 _ T61.heap _
    rw [e61]
    exact ⟨rfl, N61, K57⟩
set_option maxRecDepth 65536 in
set_option maxHeartbeats 40000000 in
theorem r_law_1 (l : Launch) (Z : State) (a0 : Array Value) (hw : ∀ d ∈ tables_1, d.before a0 Z = true) (ws : List Jvm.Cond) (s_R s_F s_E s_L : Addr) (cl_R cl_F cl_E : Cell) (k_L : ClassId) (h0 : Heap) (n0 : Nat) (O0 : Old Z n0 h0) (G : own_Ctx Z Z.heap s_R s_F s_E s_L cl_R cl_F cl_E k_L) (p1 : Int32) (q2 : Int64) (p3 : Int32) (q4 : Int64) (f : Int32) (hs : p3 &&& (3 : Int32) = (1 : Int32)) (hf : (1 : Int32) + ((p1 &&& (2147483647 : Int32)) % (254 : Int32)) = f) (hf1 : 1 ≤ f.toInt) (hf2 : f.toInt ≤ 254) :
    MetFree l x (head1 (Jvm.Cond.code x code maxLocals ret :: ws) room_1) (fun a U => a = #[(.int p1), (.long q2), (.int p3), (.long q4)] ∧ Z.Warmed39 U.vm ∧ U.heap = h0) (fun _ _ _ _ _ => True) (fun _ U o U' => ∃ v L, o = .returned v ∧ own_Qk (some (.int (1 : Int32))) h0 n0 v U'.heap L ∧ FrameEnd U o U' L 16 128) := by
  have G0 := G
  obtain ⟨S_R, C_R, S_F, C_F, S_E, C_E, S_L, V_L, R_1, R_2, R_3, R_4, R_5, F_0, F_1, F_2, F_3, F_4, F_5, F_6, F_7, F_8, F_9, F_10, F_11, F_12, F_13, F_14, E_0, E_1, E_2, E_3, E_4, E_5, E_6, E_7, E_8, E_9, E_10, E_11, E_12, E_13, E_14⟩ := G
  refine MetFree.of_bodySF (plainFor_of_name pn_0) hisR ?_
  intro p e s m args below meth c s₁ Bd hml0 hP hK
  obtain ⟨rfl, hZ, hh⟩ := hP
  have hx := Bd.exec
  have hby := Bd.bytes
  have hml : c.maxLocals = 13 := hml0
  have hown : s.vm.findClass "com/example/rattan/rattan/storage/label/ComponentCodeDecodePinLaw" = some m.cls := findClass_of_methodNamed Bd.named
  have hnm := (name_of_methodNamed Bd.named Bd.method).1
  have X0 : Stand p l e room_1 s m #[(.int p1), (.long q2), (.int p3), (.long q4)] below meth c s₁ [] 0 0 := Stand.of_body Bd
  have e0 : s₁.heap = h0 := by rw [← hh, Bd.state]; rfl
  have N0 := Fr.nil n0
  have pre0 : ∀ t, Steps p.tables e below (s₁.setTop (mkF m 0 #[.val (.int p1), .val (.long q2), .second, .val (.int p3), .val (.long q4), .second, .unset, .unset, .unset, .unset, .unset, .unset, .unset] [])) t → Steps p.tables e below (s₁.setTop (entryFrame m #[(.int p1), (.long q2), (.int p3), (.long q4)] maxLocals)) t := fun t k => castTop (ef_0_3 m p1 q2 p3 q4) k
  obtain ⟨T1, h1, k1, X1, e1, E1, A1, st1⟩ := newP X0 hx hZ (hw _ (List.mem_of_getElem? (i := 1) rfl)) e0 (g := (mkF m 19 #[.val (.int p1), .val (.long q2), .second, .val (.int p3), .val (.long q4), .second, .val (.int (1 : Int32)), .val (.int f), .unset, .unset, .unset, .unset, .unset] [(.int (11 : Int32))])) rfl (hb hby at_19) rfl (by decide) (cap := 11) (by decide) (by decide) (by decide) (by decide)
  obtain ⟨b1, g1⟩ : ∃ z, z = h0.size := ⟨_, rfl⟩
  have g_b1 : n0 ≤ b1 := Nat.le_trans (O0.1 ▸ O0.2.1) (Nat.le_of_eq g1.symm)
  have sz_b1 : h0.size ≤ b1 := Nat.le_trans (Keep.refl h0 []).1 (Nat.le_of_eq g1.symm)
  rw [← g1] at A1 st1
  have O1 := O0.ext E1
  have K1 : Keep h0 h1 [] := (Keep.refl h0 []).ext E1
  have V1 : Arv Z h1 b1 k1 .byte (11 : Int32) [(.int (0 : Int32)), (.int (0 : Int32)), (.int (0 : Int32)), (.int (0 : Int32)), (.int (0 : Int32)), (.int (0 : Int32)), (.int (0 : Int32)), (.int (0 : Int32)), (.int (0 : Int32)), (.int (0 : Int32)), (.int (0 : Int32))] (.int (0 : Int32)) := (Arv.new A1 (by decide)).pad (pad_rep [] (.int (0 : Int32)) 11)
  obtain ⟨v1, hv1⟩ : ∃ z : Int32, z = ((q4.toInt32).toInt8.toInt32) := ⟨_, rfl⟩
  have vc2 := V1
  obtain ⟨cl2, Ar2, qk2, S2, Nn2, Hs2, Gf2⟩ := vc2
  have hin2 : ¬ ((0 : Int32) < 0 ∨ cl2.slots.size ≤ ((0 : Int32)).toNatClampNeg) := inb_of S2 ⟨by decide, by decide⟩
  obtain ⟨T3, h3, X3, e3, W3, st3⟩ := stB X1 hx hZ e1 Ar2 (j := (0 : Int32)) hin2 (g := (mkF m 30 #[.val (.int p1), .val (.long q2), .second, .val (.int p3), .val (.long q4), .second, .val (.int (1 : Int32)), .val (.int f), .val (.ref b1), .unset, .unset, .unset, .unset] [(.int v1), (.int (0 : Int32)), (.ref b1)])) rfl rfl (hb hby at_30)
  have O3 := O1.wr W3 g_b1
  have K3 : Keep h0 h3 [] := K1.wr W3 (Or.inr sz_b1)
  have N3 := Fr.snoc X3 N0 g_b1
  have f4 : Arv Z h3 b1 k1 .byte (11 : Int32) [(.int (nar .byte v1)), (.int (0 : Int32)), (.int (0 : Int32)), (.int (0 : Int32)), (.int (0 : Int32)), (.int (0 : Int32)), (.int (0 : Int32)), (.int (0 : Int32)), (.int (0 : Int32)), (.int (0 : Int32)), (.int (0 : Int32))] (.int (0 : Int32)) := Arv.set Ar2 qk2 S2 Nn2 Hs2 Gf2 (fits_nar_byte _) W3 0 rfl (Nat.le_of_ble_eq_true rfl)
  obtain ⟨v2, hv2⟩ : ∃ z : Int32, z = ((((q4.toUInt64 >>> ((8 : Int32) &&& 0x3f).toInt64.toUInt64).toInt64).toInt32).toInt8.toInt32) := ⟨_, rfl⟩
  have vc5 := f4
  obtain ⟨cl5, Ar5, qk5, S5, Nn5, Hs5, Gf5⟩ := vc5
  have hin5 : ¬ ((1 : Int32) < 0 ∨ cl5.slots.size ≤ ((1 : Int32)).toNatClampNeg) := inb_of S5 ⟨by decide, by decide⟩
  obtain ⟨T6, h6, X6, e6, W6, st6⟩ := stB X3 hx hZ e3 Ar5 (j := (1 : Int32)) hin5 (g := (mkF m 41 #[.val (.int p1), .val (.long q2), .second, .val (.int p3), .val (.long q4), .second, .val (.int (1 : Int32)), .val (.int f), .val (.ref b1), .unset, .unset, .unset, .unset] [(.int v2), (.int (1 : Int32)), (.ref b1)])) rfl rfl (hb hby at_41)
  have O6 := O3.wr W6 g_b1
  have K6 : Keep h0 h6 [] := K3.wr W6 (Or.inr sz_b1)
  have N6 := Fr.snoc X6 N3 g_b1
  have f7 : Arv Z h6 b1 k1 .byte (11 : Int32) [(.int (nar .byte v1)), (.int (nar .byte v2)), (.int (0 : Int32)), (.int (0 : Int32)), (.int (0 : Int32)), (.int (0 : Int32)), (.int (0 : Int32)), (.int (0 : Int32)), (.int (0 : Int32)), (.int (0 : Int32)), (.int (0 : Int32))] (.int (0 : Int32)) := Arv.set Ar5 qk5 S5 Nn5 Hs5 Gf5 (fits_nar_byte _) W6 1 rfl (Nat.le_of_ble_eq_true rfl)
  obtain ⟨v3, hv3⟩ : ∃ z : Int32, z = ((((q4.toUInt64 >>> ((16 : Int32) &&& 0x3f).toInt64.toUInt64).toInt64).toInt32).toInt8.toInt32) := ⟨_, rfl⟩
  have vc8 := f7
  obtain ⟨cl8, Ar8, qk8, S8, Nn8, Hs8, Gf8⟩ := vc8
  have hin8 : ¬ ((2 : Int32) < 0 ∨ cl8.slots.size ≤ ((2 : Int32)).toNatClampNeg) := inb_of S8 ⟨by decide, by decide⟩
  obtain ⟨T9, h9, X9, e9, W9, st9⟩ := stB X6 hx hZ e6 Ar8 (j := (2 : Int32)) hin8 (g := (mkF m 52 #[.val (.int p1), .val (.long q2), .second, .val (.int p3), .val (.long q4), .second, .val (.int (1 : Int32)), .val (.int f), .val (.ref b1), .unset, .unset, .unset, .unset] [(.int v3), (.int (2 : Int32)), (.ref b1)])) rfl rfl (hb hby at_52)
  have O9 := O6.wr W9 g_b1
  have K9 : Keep h0 h9 [] := K6.wr W9 (Or.inr sz_b1)
  have N9 := Fr.snoc X9 N6 g_b1
  have f10 : Arv Z h9 b1 k1 .byte (11 : Int32) [(.int (nar .byte v1)), (.int (nar .byte v2)), (.int (nar .byte v3)), (.int (0 : Int32)), (.int (0 : Int32)), (.int (0 : Int32)), (.int (0 : Int32)), (.int (0 : Int32)), (.int (0 : Int32)), (.int (0 : Int32)), (.int (0 : Int32))] (.int (0 : Int32)) := Arv.set Ar8 qk8 S8 Nn8 Hs8 Gf8 (fits_nar_byte _) W9 2 rfl (Nat.le_of_ble_eq_true rfl)
  obtain ⟨v4, hv4⟩ : ∃ z : Int32, z = ((((q4.toUInt64 >>> ((24 : Int32) &&& 0x3f).toInt64.toUInt64).toInt64).toInt32).toInt8.toInt32) := ⟨_, rfl⟩
  have vc11 := f10
  obtain ⟨cl11, Ar11, qk11, S11, Nn11, Hs11, Gf11⟩ := vc11
  have hin11 : ¬ ((3 : Int32) < 0 ∨ cl11.slots.size ≤ ((3 : Int32)).toNatClampNeg) := inb_of S11 ⟨by decide, by decide⟩
  obtain ⟨T12, h12, X12, e12, W12, st12⟩ := stB X9 hx hZ e9 Ar11 (j := (3 : Int32)) hin11 (g := (mkF m 63 #[.val (.int p1), .val (.long q2), .second, .val (.int p3), .val (.long q4), .second, .val (.int (1 : Int32)), .val (.int f), .val (.ref b1), .unset, .unset, .unset, .unset] [(.int v4), (.int (3 : Int32)), (.ref b1)])) rfl rfl (hb hby at_63)
  have O12 := O9.wr W12 g_b1
  have K12 : Keep h0 h12 [] := K9.wr W12 (Or.inr sz_b1)
  have N12 := Fr.snoc X12 N9 g_b1
  have f13 : Arv Z h12 b1 k1 .byte (11 : Int32) [(.int (nar .byte v1)), (.int (nar .byte v2)), (.int (nar .byte v3)), (.int (nar .byte v4)), (.int (0 : Int32)), (.int (0 : Int32)), (.int (0 : Int32)), (.int (0 : Int32)), (.int (0 : Int32)), (.int (0 : Int32)), (.int (0 : Int32))] (.int (0 : Int32)) := Arv.set Ar11 qk11 S11 Nn11 Hs11 Gf11 (fits_nar_byte _) W12 3 rfl (Nat.le_of_ble_eq_true rfl)
  obtain ⟨v5, hv5⟩ : ∃ z : Int32, z = ((((q4.toUInt64 >>> ((32 : Int32) &&& 0x3f).toInt64.toUInt64).toInt64).toInt32).toInt8.toInt32) := ⟨_, rfl⟩
  have vc14 := f13
  obtain ⟨cl14, Ar14, qk14, S14, Nn14, Hs14, Gf14⟩ := vc14
  have hin14 : ¬ ((4 : Int32) < 0 ∨ cl14.slots.size ≤ ((4 : Int32)).toNatClampNeg) := inb_of S14 ⟨by decide, by decide⟩
  obtain ⟨T15, h15, X15, e15, W15, st15⟩ := stB X12 hx hZ e12 Ar14 (j := (4 : Int32)) hin14 (g := (mkF m 74 #[.val (.int p1), .val (.long q2), .second, .val (.int p3), .val (.long q4), .second, .val (.int (1 : Int32)), .val (.int f), .val (.ref b1), .unset, .unset, .unset, .unset] [(.int v5), (.int (4 : Int32)), (.ref b1)])) rfl rfl (hb hby at_74)
  have O15 := O12.wr W15 g_b1
  have K15 : Keep h0 h15 [] := K12.wr W15 (Or.inr sz_b1)
  have N15 := Fr.snoc X15 N12 g_b1
  have f16 : Arv Z h15 b1 k1 .byte (11 : Int32) [(.int (nar .byte v1)), (.int (nar .byte v2)), (.int (nar .byte v3)), (.int (nar .byte v4)), (.int (nar .byte v5)), (.int (0 : Int32)), (.int (0 : Int32)), (.int (0 : Int32)), (.int (0 : Int32)), (.int (0 : Int32)), (.int (0 : Int32))] (.int (0 : Int32)) := Arv.set Ar14 qk14 S14 Nn14 Hs14 Gf14 (fits_nar_byte _) W15 4 rfl (Nat.le_of_ble_eq_true rfl)
  obtain ⟨v6, hv6⟩ : ∃ z : Int32, z = ((((q4.toUInt64 >>> ((40 : Int32) &&& 0x3f).toInt64.toUInt64).toInt64).toInt32).toInt8.toInt32) := ⟨_, rfl⟩
  have vc17 := f16
  obtain ⟨cl17, Ar17, qk17, S17, Nn17, Hs17, Gf17⟩ := vc17
  have hin17 : ¬ ((5 : Int32) < 0 ∨ cl17.slots.size ≤ ((5 : Int32)).toNatClampNeg) := inb_of S17 ⟨by decide, by decide⟩
  obtain ⟨T18, h18, X18, e18, W18, st18⟩ := stB X15 hx hZ e15 Ar17 (j := (5 : Int32)) hin17 (g := (mkF m 85 #[.val (.int p1), .val (.long q2), .second, .val (.int p3), .val (.long q4), .second, .val (.int (1 : Int32)), .val (.int f), .val (.ref b1), .unset, .unset, .unset, .unset] [(.int v6), (.int (5 : Int32)), (.ref b1)])) rfl rfl (hb hby at_85)
  have O18 := O15.wr W18 g_b1
  have K18 : Keep h0 h18 [] := K15.wr W18 (Or.inr sz_b1)
  have N18 := Fr.snoc X18 N15 g_b1
  have f19 : Arv Z h18 b1 k1 .byte (11 : Int32) [(.int (nar .byte v1)), (.int (nar .byte v2)), (.int (nar .byte v3)), (.int (nar .byte v4)), (.int (nar .byte v5)), (.int (nar .byte v6)), (.int (0 : Int32)), (.int (0 : Int32)), (.int (0 : Int32)), (.int (0 : Int32)), (.int (0 : Int32))] (.int (0 : Int32)) := Arv.set Ar17 qk17 S17 Nn17 Hs17 Gf17 (fits_nar_byte _) W18 5 rfl (Nat.le_of_ble_eq_true rfl)
  obtain ⟨v7, hv7⟩ : ∃ z : Int32, z = ((((q4.toUInt64 >>> ((48 : Int32) &&& 0x3f).toInt64.toUInt64).toInt64).toInt32).toInt8.toInt32) := ⟨_, rfl⟩
  have vc20 := f19
  obtain ⟨cl20, Ar20, qk20, S20, Nn20, Hs20, Gf20⟩ := vc20
  have hin20 : ¬ ((6 : Int32) < 0 ∨ cl20.slots.size ≤ ((6 : Int32)).toNatClampNeg) := inb_of S20 ⟨by decide, by decide⟩
  obtain ⟨T21, h21, X21, e21, W21, st21⟩ := stB X18 hx hZ e18 Ar20 (j := (6 : Int32)) hin20 (g := (mkF m 97 #[.val (.int p1), .val (.long q2), .second, .val (.int p3), .val (.long q4), .second, .val (.int (1 : Int32)), .val (.int f), .val (.ref b1), .unset, .unset, .unset, .unset] [(.int v7), (.int (6 : Int32)), (.ref b1)])) rfl rfl (hb hby at_97)
  have O21 := O18.wr W21 g_b1
  have K21 : Keep h0 h21 [] := K18.wr W21 (Or.inr sz_b1)
  have N21 := Fr.snoc X21 N18 g_b1
  have f22 : Arv Z h21 b1 k1 .byte (11 : Int32) [(.int (nar .byte v1)), (.int (nar .byte v2)), (.int (nar .byte v3)), (.int (nar .byte v4)), (.int (nar .byte v5)), (.int (nar .byte v6)), (.int (nar .byte v7)), (.int (0 : Int32)), (.int (0 : Int32)), (.int (0 : Int32)), (.int (0 : Int32))] (.int (0 : Int32)) := Arv.set Ar20 qk20 S20 Nn20 Hs20 Gf20 (fits_nar_byte _) W21 6 rfl (Nat.le_of_ble_eq_true rfl)
  obtain ⟨v8, hv8⟩ : ∃ z : Int32, z = ((((q4.toUInt64 >>> ((56 : Int32) &&& 0x3f).toInt64.toUInt64).toInt64).toInt32).toInt8.toInt32) := ⟨_, rfl⟩
  have vc23 := f22
  obtain ⟨cl23, Ar23, qk23, S23, Nn23, Hs23, Gf23⟩ := vc23
  have hin23 : ¬ ((7 : Int32) < 0 ∨ cl23.slots.size ≤ ((7 : Int32)).toNatClampNeg) := inb_of S23 ⟨by decide, by decide⟩
  obtain ⟨T24, h24, X24, e24, W24, st24⟩ := stB X21 hx hZ e21 Ar23 (j := (7 : Int32)) hin23 (g := (mkF m 109 #[.val (.int p1), .val (.long q2), .second, .val (.int p3), .val (.long q4), .second, .val (.int (1 : Int32)), .val (.int f), .val (.ref b1), .unset, .unset, .unset, .unset] [(.int v8), (.int (7 : Int32)), (.ref b1)])) rfl rfl (hb hby at_109)
  have O24 := O21.wr W24 g_b1
  have K24 : Keep h0 h24 [] := K21.wr W24 (Or.inr sz_b1)
  have N24 := Fr.snoc X24 N21 g_b1
  have f25 : Arv Z h24 b1 k1 .byte (11 : Int32) [(.int (nar .byte v1)), (.int (nar .byte v2)), (.int (nar .byte v3)), (.int (nar .byte v4)), (.int (nar .byte v5)), (.int (nar .byte v6)), (.int (nar .byte v7)), (.int (nar .byte v8)), (.int (0 : Int32)), (.int (0 : Int32)), (.int (0 : Int32))] (.int (0 : Int32)) := Arv.set Ar23 qk23 S23 Nn23 Hs23 Gf23 (fits_nar_byte _) W24 7 rfl (Nat.le_of_ble_eq_true rfl)
  obtain ⟨v9, hv9⟩ : ∃ z : Int32, z = ((((q4.toUInt64 >>> ((4 : Int32) &&& 0x3f).toInt64.toUInt64).toInt64).toInt32).toInt8.toInt32) := ⟨_, rfl⟩
  have vc26 := f25
  obtain ⟨cl26, Ar26, qk26, S26, Nn26, Hs26, Gf26⟩ := vc26
  have hin26 : ¬ ((8 : Int32) < 0 ∨ cl26.slots.size ≤ ((8 : Int32)).toNatClampNeg) := inb_of S26 ⟨by decide, by decide⟩
  obtain ⟨T27, h27, X27, e27, W27, st27⟩ := stB X24 hx hZ e24 Ar26 (j := (8 : Int32)) hin26 (g := (mkF m 120 #[.val (.int p1), .val (.long q2), .second, .val (.int p3), .val (.long q4), .second, .val (.int (1 : Int32)), .val (.int f), .val (.ref b1), .unset, .unset, .unset, .unset] [(.int v9), (.int (8 : Int32)), (.ref b1)])) rfl rfl (hb hby at_120)
  have O27 := O24.wr W27 g_b1
  have K27 : Keep h0 h27 [] := K24.wr W27 (Or.inr sz_b1)
  have N27 := Fr.snoc X27 N24 g_b1
  have f28 : Arv Z h27 b1 k1 .byte (11 : Int32) [(.int (nar .byte v1)), (.int (nar .byte v2)), (.int (nar .byte v3)), (.int (nar .byte v4)), (.int (nar .byte v5)), (.int (nar .byte v6)), (.int (nar .byte v7)), (.int (nar .byte v8)), (.int (nar .byte v9)), (.int (0 : Int32)), (.int (0 : Int32))] (.int (0 : Int32)) := Arv.set Ar26 qk26 S26 Nn26 Hs26 Gf26 (fits_nar_byte _) W27 8 rfl (Nat.le_of_ble_eq_true rfl)
  obtain ⟨v10, hv10⟩ : ∃ z : Int32, z = ((((q4.toUInt64 >>> ((12 : Int32) &&& 0x3f).toInt64.toUInt64).toInt64).toInt32).toInt8.toInt32) := ⟨_, rfl⟩
  have vc29 := f28
  obtain ⟨cl29, Ar29, qk29, S29, Nn29, Hs29, Gf29⟩ := vc29
  have hin29 : ¬ ((9 : Int32) < 0 ∨ cl29.slots.size ≤ ((9 : Int32)).toNatClampNeg) := inb_of S29 ⟨by decide, by decide⟩
  obtain ⟨T30, h30, X30, e30, W30, st30⟩ := stB X27 hx hZ e27 Ar29 (j := (9 : Int32)) hin29 (g := (mkF m 132 #[.val (.int p1), .val (.long q2), .second, .val (.int p3), .val (.long q4), .second, .val (.int (1 : Int32)), .val (.int f), .val (.ref b1), .unset, .unset, .unset, .unset] [(.int v10), (.int (9 : Int32)), (.ref b1)])) rfl rfl (hb hby at_132)
  have O30 := O27.wr W30 g_b1
  have K30 : Keep h0 h30 [] := K27.wr W30 (Or.inr sz_b1)
  have N30 := Fr.snoc X30 N27 g_b1
  have f31 : Arv Z h30 b1 k1 .byte (11 : Int32) [(.int (nar .byte v1)), (.int (nar .byte v2)), (.int (nar .byte v3)), (.int (nar .byte v4)), (.int (nar .byte v5)), (.int (nar .byte v6)), (.int (nar .byte v7)), (.int (nar .byte v8)), (.int (nar .byte v9)), (.int (nar .byte v10)), (.int (0 : Int32))] (.int (0 : Int32)) := Arv.set Ar29 qk29 S29 Nn29 Hs29 Gf29 (fits_nar_byte _) W30 9 rfl (Nat.le_of_ble_eq_true rfl)
  obtain ⟨v11, hv11⟩ : ∃ z : Int32, z = ((((q4.toUInt64 >>> ((20 : Int32) &&& 0x3f).toInt64.toUInt64).toInt64).toInt32).toInt8.toInt32) := ⟨_, rfl⟩
  have vc32 := f31
  obtain ⟨cl32, Ar32, qk32, S32, Nn32, Hs32, Gf32⟩ := vc32
  have hin32 : ¬ ((10 : Int32) < 0 ∨ cl32.slots.size ≤ ((10 : Int32)).toNatClampNeg) := inb_of S32 ⟨by decide, by decide⟩
  obtain ⟨T33, h33, X33, e33, W33, st33⟩ := stB X30 hx hZ e30 Ar32 (j := (10 : Int32)) hin32 (g := (mkF m 144 #[.val (.int p1), .val (.long q2), .second, .val (.int p3), .val (.long q4), .second, .val (.int (1 : Int32)), .val (.int f), .val (.ref b1), .unset, .unset, .unset, .unset] [(.int v11), (.int (10 : Int32)), (.ref b1)])) rfl rfl (hb hby at_144)
  have O33 := O30.wr W33 g_b1
  have K33 : Keep h0 h33 [] := K30.wr W33 (Or.inr sz_b1)
  have N33 := Fr.snoc X33 N30 g_b1
  have f34 : Arv Z h33 b1 k1 .byte (11 : Int32) [(.int (nar .byte v1)), (.int (nar .byte v2)), (.int (nar .byte v3)), (.int (nar .byte v4)), (.int (nar .byte v5)), (.int (nar .byte v6)), (.int (nar .byte v7)), (.int (nar .byte v8)), (.int (nar .byte v9)), (.int (nar .byte v10)), (.int (nar .byte v11))] (.int (0 : Int32)) := Arv.set Ar32 qk32 S32 Nn32 Hs32 Gf32 (fits_nar_byte _) W33 10 rfl (Nat.le_of_ble_eq_true rfl)
  obtain ⟨v12, hv12⟩ : ∃ z : Int32, z = (f.toInt8.toInt32) := ⟨_, rfl⟩
  have vc35 := f34
  obtain ⟨cl35, Ar35, qk35, S35, Nn35, Hs35, Gf35⟩ := vc35
  have hin35 : ¬ ((1 : Int32) < 0 ∨ cl35.slots.size ≤ ((1 : Int32)).toNatClampNeg) := inb_of S35 ⟨by decide, by decide⟩
  obtain ⟨T36, h36, X36, e36, W36, st36⟩ := stB X33 hx hZ e33 Ar35 (j := (1 : Int32)) hin35 (g := (mkF m 152 #[.val (.int p1), .val (.long q2), .second, .val (.int p3), .val (.long q4), .second, .val (.int (1 : Int32)), .val (.int f), .val (.ref b1), .unset, .unset, .unset, .unset] [(.int v12), (.int (1 : Int32)), (.ref b1)])) rfl rfl (hb hby at_152)
  have O36 := O33.wr W36 g_b1
  have K36 : Keep h0 h36 [] := K33.wr W36 (Or.inr sz_b1)
  have N36 := Fr.snoc X36 N33 g_b1
  have f37 : Arv Z h36 b1 k1 .byte (11 : Int32) [(.int (nar .byte v1)), (.int (nar .byte v12)), (.int (nar .byte v3)), (.int (nar .byte v4)), (.int (nar .byte v5)), (.int (nar .byte v6)), (.int (nar .byte v7)), (.int (nar .byte v8)), (.int (nar .byte v9)), (.int (nar .byte v10)), (.int (nar .byte v11))] (.int (0 : Int32)) := Arv.set Ar35 qk35 S35 Nn35 Hs35 Gf35 (fits_nar_byte _) W36 1 rfl (Nat.le_of_ble_eq_true rfl)
  obtain ⟨v13, hv13⟩ : ∃ z : Int32, z = ((((q2.toUInt64 >>> ((48 : Int32) &&& 0x3f).toInt64.toUInt64).toInt64).toInt32).toInt8.toInt32) := ⟨_, rfl⟩
  have vc38 := f37
  obtain ⟨cl38, Ar38, qk38, S38, Nn38, Hs38, Gf38⟩ := vc38
  have hin38 : ¬ (((1 : Int32) + (1 : Int32)) < 0 ∨ cl38.slots.size ≤ (((1 : Int32) + (1 : Int32))).toNatClampNeg) := inb_of S38 ⟨by decide, by decide⟩
  obtain ⟨T39, h39, X39, e39, W39, st39⟩ := stB X36 hx hZ e36 Ar38 (j := ((1 : Int32) + (1 : Int32))) hin38 (g := (mkF m 165 #[.val (.int p1), .val (.long q2), .second, .val (.int p3), .val (.long q4), .second, .val (.int (1 : Int32)), .val (.int f), .val (.ref b1), .unset, .unset, .unset, .unset] [(.int v13), (.int ((1 : Int32) + (1 : Int32))), (.ref b1)])) rfl rfl (hb hby at_165)
  have O39 := O36.wr W39 g_b1
  have K39 : Keep h0 h39 [] := K36.wr W39 (Or.inr sz_b1)
  have N39 := Fr.snoc X39 N36 g_b1
  have f40 : Arv Z h39 b1 k1 .byte (11 : Int32) [(.int (nar .byte v1)), (.int (nar .byte v12)), (.int (nar .byte v13)), (.int (nar .byte v4)), (.int (nar .byte v5)), (.int (nar .byte v6)), (.int (nar .byte v7)), (.int (nar .byte v8)), (.int (nar .byte v9)), (.int (nar .byte v10)), (.int (nar .byte v11))] (.int (0 : Int32)) := Arv.set Ar38 qk38 S38 Nn38 Hs38 Gf38 (fits_nar_byte _) W39 2 rfl (Nat.le_of_ble_eq_true rfl)
  obtain ⟨v14, hv14⟩ : ∃ z : Int32, z = ((((q2.toUInt64 >>> ((40 : Int32) &&& 0x3f).toInt64.toUInt64).toInt64).toInt32).toInt8.toInt32) := ⟨_, rfl⟩
  have vc41 := f40
  obtain ⟨cl41, Ar41, qk41, S41, Nn41, Hs41, Gf41⟩ := vc41
  have hin41 : ¬ (((1 : Int32) + (2 : Int32)) < 0 ∨ cl41.slots.size ≤ (((1 : Int32) + (2 : Int32))).toNatClampNeg) := inb_of S41 ⟨by decide, by decide⟩
  obtain ⟨T42, h42, X42, e42, W42, st42⟩ := stB X39 hx hZ e39 Ar41 (j := ((1 : Int32) + (2 : Int32))) hin41 (g := (mkF m 178 #[.val (.int p1), .val (.long q2), .second, .val (.int p3), .val (.long q4), .second, .val (.int (1 : Int32)), .val (.int f), .val (.ref b1), .unset, .unset, .unset, .unset] [(.int v14), (.int ((1 : Int32) + (2 : Int32))), (.ref b1)])) rfl rfl (hb hby at_178)
  have O42 := O39.wr W42 g_b1
  have K42 : Keep h0 h42 [] := K39.wr W42 (Or.inr sz_b1)
  have N42 := Fr.snoc X42 N39 g_b1
  have f43 : Arv Z h42 b1 k1 .byte (11 : Int32) [(.int (nar .byte v1)), (.int (nar .byte v12)), (.int (nar .byte v13)), (.int (nar .byte v14)), (.int (nar .byte v5)), (.int (nar .byte v6)), (.int (nar .byte v7)), (.int (nar .byte v8)), (.int (nar .byte v9)), (.int (nar .byte v10)), (.int (nar .byte v11))] (.int (0 : Int32)) := Arv.set Ar41 qk41 S41 Nn41 Hs41 Gf41 (fits_nar_byte _) W42 3 rfl (Nat.le_of_ble_eq_true rfl)
  obtain ⟨v15, hv15⟩ : ∃ z : Int32, z = ((((q2.toUInt64 >>> ((32 : Int32) &&& 0x3f).toInt64.toUInt64).toInt64).toInt32).toInt8.toInt32) := ⟨_, rfl⟩
  have vc44 := f43
  obtain ⟨cl44, Ar44, qk44, S44, Nn44, Hs44, Gf44⟩ := vc44
  have hin44 : ¬ (((1 : Int32) + (3 : Int32)) < 0 ∨ cl44.slots.size ≤ (((1 : Int32) + (3 : Int32))).toNatClampNeg) := inb_of S44 ⟨by decide, by decide⟩
  obtain ⟨T45, h45, X45, e45, W45, st45⟩ := stB X42 hx hZ e42 Ar44 (j := ((1 : Int32) + (3 : Int32))) hin44 (g := (mkF m 191 #[.val (.int p1), .val (.long q2), .second, .val (.int p3), .val (.long q4), .second, .val (.int (1 : Int32)), .val (.int f), .val (.ref b1), .unset, .unset, .unset, .unset] [(.int v15), (.int ((1 : Int32) + (3 : Int32))), (.ref b1)])) rfl rfl (hb hby at_191)
  have O45 := O42.wr W45 g_b1
  have K45 : Keep h0 h45 [] := K42.wr W45 (Or.inr sz_b1)
  have N45 := Fr.snoc X45 N42 g_b1
  have f46 : Arv Z h45 b1 k1 .byte (11 : Int32) [(.int (nar .byte v1)), (.int (nar .byte v12)), (.int (nar .byte v13)), (.int (nar .byte v14)), (.int (nar .byte v15)), (.int (nar .byte v6)), (.int (nar .byte v7)), (.int (nar .byte v8)), (.int (nar .byte v9)), (.int (nar .byte v10)), (.int (nar .byte v11))] (.int (0 : Int32)) := Arv.set Ar44 qk44 S44 Nn44 Hs44 Gf44 (fits_nar_byte _) W45 4 rfl (Nat.le_of_ble_eq_true rfl)
  obtain ⟨v16, hv16⟩ : ∃ z : Int32, z = ((((q2.toUInt64 >>> ((24 : Int32) &&& 0x3f).toInt64.toUInt64).toInt64).toInt32).toInt8.toInt32) := ⟨_, rfl⟩
  have vc47 := f46
  obtain ⟨cl47, Ar47, qk47, S47, Nn47, Hs47, Gf47⟩ := vc47
  have hin47 : ¬ (((1 : Int32) + (4 : Int32)) < 0 ∨ cl47.slots.size ≤ (((1 : Int32) + (4 : Int32))).toNatClampNeg) := inb_of S47 ⟨by decide, by decide⟩
  obtain ⟨T48, h48, X48, e48, W48, st48⟩ := stB X45 hx hZ e45 Ar47 (j := ((1 : Int32) + (4 : Int32))) hin47 (g := (mkF m 204 #[.val (.int p1), .val (.long q2), .second, .val (.int p3), .val (.long q4), .second, .val (.int (1 : Int32)), .val (.int f), .val (.ref b1), .unset, .unset, .unset, .unset] [(.int v16), (.int ((1 : Int32) + (4 : Int32))), (.ref b1)])) rfl rfl (hb hby at_204)
  have O48 := O45.wr W48 g_b1
  have K48 : Keep h0 h48 [] := K45.wr W48 (Or.inr sz_b1)
  have N48 := Fr.snoc X48 N45 g_b1
  have f49 : Arv Z h48 b1 k1 .byte (11 : Int32) [(.int (nar .byte v1)), (.int (nar .byte v12)), (.int (nar .byte v13)), (.int (nar .byte v14)), (.int (nar .byte v15)), (.int (nar .byte v16)), (.int (nar .byte v7)), (.int (nar .byte v8)), (.int (nar .byte v9)), (.int (nar .byte v10)), (.int (nar .byte v11))] (.int (0 : Int32)) := Arv.set Ar47 qk47 S47 Nn47 Hs47 Gf47 (fits_nar_byte _) W48 5 rfl (Nat.le_of_ble_eq_true rfl)
  obtain ⟨v17, hv17⟩ : ∃ z : Int32, z = ((((q2.toUInt64 >>> ((16 : Int32) &&& 0x3f).toInt64.toUInt64).toInt64).toInt32).toInt8.toInt32) := ⟨_, rfl⟩
  have vc50 := f49
  obtain ⟨cl50, Ar50, qk50, S50, Nn50, Hs50, Gf50⟩ := vc50
  have hin50 : ¬ (((1 : Int32) + (5 : Int32)) < 0 ∨ cl50.slots.size ≤ (((1 : Int32) + (5 : Int32))).toNatClampNeg) := inb_of S50 ⟨by decide, by decide⟩
  obtain ⟨T51, h51, X51, e51, W51, st51⟩ := stB X48 hx hZ e48 Ar50 (j := ((1 : Int32) + (5 : Int32))) hin50 (g := (mkF m 217 #[.val (.int p1), .val (.long q2), .second, .val (.int p3), .val (.long q4), .second, .val (.int (1 : Int32)), .val (.int f), .val (.ref b1), .unset, .unset, .unset, .unset] [(.int v17), (.int ((1 : Int32) + (5 : Int32))), (.ref b1)])) rfl rfl (hb hby at_217)
  have O51 := O48.wr W51 g_b1
  have K51 : Keep h0 h51 [] := K48.wr W51 (Or.inr sz_b1)
  have N51 := Fr.snoc X51 N48 g_b1
  have f52 : Arv Z h51 b1 k1 .byte (11 : Int32) [(.int (nar .byte v1)), (.int (nar .byte v12)), (.int (nar .byte v13)), (.int (nar .byte v14)), (.int (nar .byte v15)), (.int (nar .byte v16)), (.int (nar .byte v17)), (.int (nar .byte v8)), (.int (nar .byte v9)), (.int (nar .byte v10)), (.int (nar .byte v11))] (.int (0 : Int32)) := Arv.set Ar50 qk50 S50 Nn50 Hs50 Gf50 (fits_nar_byte _) W51 6 rfl (Nat.le_of_ble_eq_true rfl)
  obtain ⟨v18, hv18⟩ : ∃ z : Int32, z = ((((q2.toUInt64 >>> ((8 : Int32) &&& 0x3f).toInt64.toUInt64).toInt64).toInt32).toInt8.toInt32) := ⟨_, rfl⟩
  have vc53 := f52
  obtain ⟨cl53, Ar53, qk53, S53, Nn53, Hs53, Gf53⟩ := vc53
  have hin53 : ¬ (((1 : Int32) + (6 : Int32)) < 0 ∨ cl53.slots.size ≤ (((1 : Int32) + (6 : Int32))).toNatClampNeg) := inb_of S53 ⟨by decide, by decide⟩
  obtain ⟨T54, h54, X54, e54, W54, st54⟩ := stB X51 hx hZ e51 Ar53 (j := ((1 : Int32) + (6 : Int32))) hin53 (g := (mkF m 231 #[.val (.int p1), .val (.long q2), .second, .val (.int p3), .val (.long q4), .second, .val (.int (1 : Int32)), .val (.int f), .val (.ref b1), .unset, .unset, .unset, .unset] [(.int v18), (.int ((1 : Int32) + (6 : Int32))), (.ref b1)])) rfl rfl (hb hby at_231)
  have O54 := O51.wr W54 g_b1
  have K54 : Keep h0 h54 [] := K51.wr W54 (Or.inr sz_b1)
  have N54 := Fr.snoc X54 N51 g_b1
  have f55 : Arv Z h54 b1 k1 .byte (11 : Int32) [(.int (nar .byte v1)), (.int (nar .byte v12)), (.int (nar .byte v13)), (.int (nar .byte v14)), (.int (nar .byte v15)), (.int (nar .byte v16)), (.int (nar .byte v17)), (.int (nar .byte v18)), (.int (nar .byte v9)), (.int (nar .byte v10)), (.int (nar .byte v11))] (.int (0 : Int32)) := Arv.set Ar53 qk53 S53 Nn53 Hs53 Gf53 (fits_nar_byte _) W54 7 rfl (Nat.le_of_ble_eq_true rfl)
  obtain ⟨v19, hv19⟩ : ∃ z : Int32, z = ((q2.toInt32).toInt8.toInt32) := ⟨_, rfl⟩
  have vc56 := f55
  obtain ⟨cl56, Ar56, qk56, S56, Nn56, Hs56, Gf56⟩ := vc56
  have hin56 : ¬ (((1 : Int32) + (7 : Int32)) < 0 ∨ cl56.slots.size ≤ (((1 : Int32) + (7 : Int32))).toNatClampNeg) := inb_of S56 ⟨by decide, by decide⟩
  obtain ⟨T57, h57, X57, e57, W57, st57⟩ := stB X54 hx hZ e54 Ar56 (j := ((1 : Int32) + (7 : Int32))) hin56 (g := (mkF m 242 #[.val (.int p1), .val (.long q2), .second, .val (.int p3), .val (.long q4), .second, .val (.int (1 : Int32)), .val (.int f), .val (.ref b1), .unset, .unset, .unset, .unset] [(.int v19), (.int ((1 : Int32) + (7 : Int32))), (.ref b1)])) rfl rfl (hb hby at_242)
  have O57 := O54.wr W57 g_b1
  have K57 : Keep h0 h57 [] := K54.wr W57 (Or.inr sz_b1)
  have N57 := Fr.snoc X57 N54 g_b1
  have f58 : Arv Z h57 b1 k1 .byte (11 : Int32) [(.int (nar .byte v1)), (.int (nar .byte v12)), (.int (nar .byte v13)), (.int (nar .byte v14)), (.int (nar .byte v15)), (.int (nar .byte v16)), (.int (nar .byte v17)), (.int (nar .byte v18)), (.int (nar .byte v19)), (.int (nar .byte v10)), (.int (nar .byte v11))] (.int (0 : Int32)) := Arv.set Ar56 qk56 S56 Nn56 Hs56 Gf56 (fits_nar_byte _) W57 8 rfl (Nat.le_of_ble_eq_true rfl)
  obtain ⟨LL59, X59, N59⟩ : ∃ LL, Stand p l e room_1 s m #[(.int p1), (.long q2), (.int p3), (.long q4)] below meth c T57 LL 1 11 ∧ Fr n0 LL := ⟨_, X57, N57⟩
  obtain ⟨_, _, ⟨T60, L60, k60, n60⟩, -, X60, ⟨Lc60, hQ60, l60, y60, z60⟩, st60⟩ := Jvm.LawKit.callS X59 hx (y := (⟨"com/example/rattan/rattan/storage/label/ComponentCodeDecodePinLaw", "expected", "(IJ)J"⟩ : MethodName)) hown (mvT hZ (hw _ (List.mem_of_getElem? (i := 3) rfl))) (mvT hZ (hw _ (List.mem_of_getElem? (i := 4) rfl))) (mvT hZ (hw _ (List.mem_of_getElem? (i := 5) rfl))) (mvT hZ (hw _ (List.mem_of_getElem? (i := 6) rfl))) (by decide) (backOf (W := 0) (r_exp l Z a0 hw [] s_R s_F s_E s_L cl_R cl_F cl_E k_L h57 n0 O57 G0 f (q2 &&& (72057594037927935 : Int64)) hf1 hf2 (own_low0 q2) (own_low1 q2)) hZ (hw _ (List.mem_of_getElem? (i := 6) rfl)) (hw _ (List.mem_of_getElem? (i := 5) rfl)) (by decide) (by decide)) (g := (mkF m 254 #[.val (.int p1), .val (.long q2), .second, .val (.int p3), .val (.long q4), .second, .val (.int (1 : Int32)), .val (.int f), .val (.ref b1), .val (.long (q2 &&& (72057594037927935 : Int64))), .second, .unset, .unset] [(.long (q2 &&& (72057594037927935 : Int64))), (.int f)])) rfl (by rw [hml]; rfl) (argsL := [(.int f), (.long (q2 &&& (72057594037927935 : Int64)))]) (rest := []) (lenOf pd_1 rfl) rfl (by show 2 * 0 + _ ≤ _; exact Nat.le_of_eq rfl) (hb hby at_254) (fun _ _ => ⟨rfl, e57, (by decide : 1 + 0 ≤ _), (by decide : 11 + 0 ≤ _)⟩)
  dsimp only [Pt.U, Pt.locs, Pt.cells, Pt.slots] at X60 l60 y60 z60 st60 hQ60
  subst l60 y60 z60
  obtain ⟨w60, rfl, N60q, e60, V60⟩ := hQ60
  have N60 := Fr.app N59 N60q
  obtain ⟨_, _, ⟨T61, L61, k61, n61⟩, -, X61, ⟨Lc61, hQ61, l61, y61, z61⟩, st61⟩ := Jvm.LawKit.callS X60 hx (y := (⟨"com/example/rattan/rattan/storage/label/ComponentCode", "decode", "([BI)J"⟩ : MethodName)) hown (mvT hZ (hw _ (List.mem_of_getElem? (i := 11) rfl))) (mvT hZ (hw _ (List.mem_of_getElem? (i := 12) rfl))) (mvT hZ (hw _ (List.mem_of_getElem? (i := 13) rfl))) (mvT hZ (hw _ (List.mem_of_getElem? (i := 14) rfl))) (by decide) (backOf (W := 0) (r_dec l Z a0 hw [] s_R s_F s_E s_L cl_R cl_F cl_E k_L h57 n0 O57 G0 b1 k1 _ (1 : Int32) (nar .byte v12) (nar .byte v13) (nar .byte v14) (nar .byte v15) (nar .byte v16) (nar .byte v17) (nar .byte v18) (nar .byte v19) (q2 &&& (72057594037927935 : Int64)).toInt f f58 (by rw [hv12]; exact own_g hf1 hf2) hf1 hf2 (own_low0 q2) (own_low1 q2) ⟨by decide, by decide⟩ rfl ⟨by decide, by decide⟩ rfl ⟨by decide, by decide⟩ rfl ⟨by decide, by decide⟩ rfl ⟨by decide, by decide⟩ rfl ⟨by decide, by decide⟩ rfl ⟨by decide, by decide⟩ rfl ⟨by decide, by decide⟩ rfl (by rw [hv13]; exact own_Y1 q2) (by rw [hv14]; exact own_Y2 q2) (by rw [hv15]; exact own_Y3 q2) (by rw [hv16]; exact own_Y4 q2) (by rw [hv17]; exact own_Y5 q2) (by rw [hv18]; exact own_Y6 q2) (by rw [hv19]; exact own_Y7 q2)) hZ (hw _ (List.mem_of_getElem? (i := 14) rfl)) (hw _ (List.mem_of_getElem? (i := 13) rfl)) (by decide) (by decide)) (g := (mkF m 263 #[.val (.int p1), .val (.long q2), .second, .val (.int p3), .val (.long q4), .second, .val (.int (1 : Int32)), .val (.int f), .val (.ref b1), .val (.long (q2 &&& (72057594037927935 : Int64))), .second, .val (.long w60), .second] [(.int (1 : Int32)), (.ref b1)])) rfl (by rw [hml]; rfl) (argsL := [(.ref b1), (.int (1 : Int32))]) (rest := []) (lenOf pd_2 rfl) rfl (by show 2 * 0 + _ ≤ _; exact Nat.le_of_eq rfl) (hb hby at_263) (fun _ _ => ⟨rfl, e60, (by decide : 1 + 0 ≤ _), (by decide : 11 + 0 ≤ _)⟩)
  dsimp only [Pt.U, Pt.locs, Pt.cells, Pt.slots] at X61 l61 y61 z61 st61 hQ61
  subst l61 y61 z61
  obtain ⟨w61, rfl, N61q, e61, V61⟩ := hQ61
  have N61 := Fr.app N60 N61q
  obtain ⟨fs, hr, hrun, hended, hW, hsame⟩ := X61.leave (v := some (.int (1 : Int32))) (fun h => by rw [Bd.returns] at h; cases h)
  refine ⟨_, _, pre0 _ ?_, hrun, hended, _, _, rfl, ?_, ⟨_, rfl⟩, hW, hsame.mono (by decide) (by decide)⟩
  · show Steps p.tables e below (s₁.setTop (mkF m 0 #[.val (.int p1), .val (.long q2), .second, .val (.int p3), .val (.long q4), .second, .unset, .unset, .unset, .unset, .unset, .unset, .unset] [])) _
    refine XS.iloadN X0.here hx rfl (hb hby at_0) rfl ?_
    refine XS.iconst X0.here hx rfl (hb hby at_1) ?_
    refine XS.iand X0.here hx rfl (hb hby at_2) rfl ?_
    show Steps p.tables e below (s₁.setTop (mkF m 3 #[.val (.int p1), .val (.long q2), .second, .val (.int p3), .val (.long q4), .second, .unset, .unset, .unset, .unset, .unset, .unset, .unset] [(.int (p3 &&& (3 : Int32)))])) _
    rw [hs]
    refine XS.istore X0.here hx rfl (hb hby at_3) rfl (l' := #[.val (.int p1), .val (.long q2), .second, .val (.int p3), .val (.long q4), .second, .val (.int (1 : Int32)), .unset, .unset, .unset, .unset, .unset, .unset]) rfl ?_
    show Steps p.tables e below (s₁.setTop (mkF m 5 #[.val (.int p1), .val (.long q2), .second, .val (.int p3), .val (.long q4), .second, .val (.int (1 : Int32)), .unset, .unset, .unset, .unset, .unset, .unset] [])) _
    refine XS.iconst X0.here hx rfl (hb hby at_5) ?_
    refine XS.iloadN X0.here hx rfl (hb hby at_6) rfl ?_
    show Steps p.tables e below (s₁.setTop (mkF m 7 #[.val (.int p1), .val (.long q2), .second, .val (.int p3), .val (.long q4), .second, .val (.int (1 : Int32)), .unset, .unset, .unset, .unset, .unset, .unset] [(.int p1), (.int (1 : Int32))])) _
    refine X0.ldcInt hx hown (mvT hZ (hw _ (List.mem_of_getElem? (i := 0) rfl))) (g := (mkF m 7 #[.val (.int p1), .val (.long q2), .second, .val (.int p3), .val (.long q4), .second, .val (.int (1 : Int32)), .unset, .unset, .unset, .unset, .unset, .unset] [(.int p1), (.int (1 : Int32))])) rfl (hb hby at_7) _ ?_
    show Steps p.tables e below (s₁.setTop (mkF m 9 #[.val (.int p1), .val (.long q2), .second, .val (.int p3), .val (.long q4), .second, .val (.int (1 : Int32)), .unset, .unset, .unset, .unset, .unset, .unset] [(.int (2147483647 : Int32)), (.int p1), (.int (1 : Int32))])) _
    refine XS.iand X0.here hx rfl (hb hby at_9) rfl ?_
    refine XS.sipush X0.here hx rfl (hb hby at_10) ?_
    show Steps p.tables e below (s₁.setTop (mkF m 13 #[.val (.int p1), .val (.long q2), .second, .val (.int p3), .val (.long q4), .second, .val (.int (1 : Int32)), .unset, .unset, .unset, .unset, .unset, .unset] [(.int (254 : Int32)), (.int (p1 &&& (2147483647 : Int32))), (.int (1 : Int32))])) _
    refine iremM X0 hx rfl (hb hby at_13) rfl (by decide) ?_
    show Steps p.tables e below (s₁.setTop (mkF m 14 #[.val (.int p1), .val (.long q2), .second, .val (.int p3), .val (.long q4), .second, .val (.int (1 : Int32)), .unset, .unset, .unset, .unset, .unset, .unset] [(.int ((p1 &&& (2147483647 : Int32)) % (254 : Int32))), (.int (1 : Int32))])) _
    refine XS.iadd X0.here hx rfl (hb hby at_14) rfl ?_
    show Steps p.tables e below (s₁.setTop (mkF m 15 #[.val (.int p1), .val (.long q2), .second, .val (.int p3), .val (.long q4), .second, .val (.int (1 : Int32)), .unset, .unset, .unset, .unset, .unset, .unset] [(.int ((1 : Int32) + ((p1 &&& (2147483647 : Int32)) % (254 : Int32))))])) _
    rw [hf]
    refine XS.istore X0.here hx rfl (hb hby at_15) rfl (l' := #[.val (.int p1), .val (.long q2), .second, .val (.int p3), .val (.long q4), .second, .val (.int (1 : Int32)), .val (.int f), .unset, .unset, .unset, .unset, .unset]) rfl ?_
    show Steps p.tables e below (s₁.setTop (mkF m 17 #[.val (.int p1), .val (.long q2), .second, .val (.int p3), .val (.long q4), .second, .val (.int (1 : Int32)), .val (.int f), .unset, .unset, .unset, .unset, .unset] [])) _
    refine XS.bipush X0.here hx rfl (hb hby at_17) ?_
    show Steps p.tables e below (s₁.setTop (mkF m 19 #[.val (.int p1), .val (.long q2), .second, .val (.int p3), .val (.long q4), .second, .val (.int (1 : Int32)), .val (.int f), .unset, .unset, .unset, .unset, .unset] [(.int (11 : Int32))])) _
    refine st1 _ ?_
    show Steps p.tables e below (T1.setTop (mkF m 21 #[.val (.int p1), .val (.long q2), .second, .val (.int p3), .val (.long q4), .second, .val (.int (1 : Int32)), .val (.int f), .unset, .unset, .unset, .unset, .unset] [(.ref b1)])) _
    refine XS.astore X1.here hx rfl (hb hby at_21) rfl rfl (l' := #[.val (.int p1), .val (.long q2), .second, .val (.int p3), .val (.long q4), .second, .val (.int (1 : Int32)), .val (.int f), .val (.ref b1), .unset, .unset, .unset, .unset]) rfl ?_
    show Steps p.tables e below (T1.setTop (mkF m 23 #[.val (.int p1), .val (.long q2), .second, .val (.int p3), .val (.long q4), .second, .val (.int (1 : Int32)), .val (.int f), .val (.ref b1), .unset, .unset, .unset, .unset] [])) _
    refine XS.aload X1.here hx rfl (hb hby at_23) rfl rfl ?_
    refine XS.iconst X1.here hx rfl (hb hby at_25) ?_
    refine XS.lload X1.here hx rfl (hb hby at_26) rfl ?_
    refine XS.l2i X1.here hx rfl (hb hby at_28) rfl ?_
    refine XS.i2b X1.here hx rfl (hb hby at_29) rfl ?_
    show Steps p.tables e below (T1.setTop (mkF m 30 #[.val (.int p1), .val (.long q2), .second, .val (.int p3), .val (.long q4), .second, .val (.int (1 : Int32)), .val (.int f), .val (.ref b1), .unset, .unset, .unset, .unset] [(.int ((q4.toInt32).toInt8.toInt32)), (.int (0 : Int32)), (.ref b1)])) _
    rw [← hv1]
    show Steps p.tables e below (T1.setTop (mkF m 30 #[.val (.int p1), .val (.long q2), .second, .val (.int p3), .val (.long q4), .second, .val (.int (1 : Int32)), .val (.int f), .val (.ref b1), .unset, .unset, .unset, .unset] [(.int v1), (.int (0 : Int32)), (.ref b1)])) _
    refine st3 _ ?_
    show Steps p.tables e below (T3.setTop (mkF m 31 #[.val (.int p1), .val (.long q2), .second, .val (.int p3), .val (.long q4), .second, .val (.int (1 : Int32)), .val (.int f), .val (.ref b1), .unset, .unset, .unset, .unset] [])) _
    refine XS.aload X3.here hx rfl (hb hby at_31) rfl rfl ?_
    refine XS.iconst X3.here hx rfl (hb hby at_33) ?_
    refine XS.lload X3.here hx rfl (hb hby at_34) rfl ?_
    refine XS.bipush X3.here hx rfl (hb hby at_36) ?_
    refine XS.lushr X3.here hx rfl (hb hby at_38) rfl ?_
    show Steps p.tables e below (T3.setTop (mkF m 39 #[.val (.int p1), .val (.long q2), .second, .val (.int p3), .val (.long q4), .second, .val (.int (1 : Int32)), .val (.int f), .val (.ref b1), .unset, .unset, .unset, .unset] [(.long ((q4.toUInt64 >>> ((8 : Int32) &&& 0x3f).toInt64.toUInt64).toInt64)), (.int (1 : Int32)), (.ref b1)])) _
    refine XS.l2i X3.here hx rfl (hb hby at_39) rfl ?_
    refine XS.i2b X3.here hx rfl (hb hby at_40) rfl ?_
    show Steps p.tables e below (T3.setTop (mkF m 41 #[.val (.int p1), .val (.long q2), .second, .val (.int p3), .val (.long q4), .second, .val (.int (1 : Int32)), .val (.int f), .val (.ref b1), .unset, .unset, .unset, .unset] [(.int ((((q4.toUInt64 >>> ((8 : Int32) &&& 0x3f).toInt64.toUInt64).toInt64).toInt32).toInt8.toInt32)), (.int (1 : Int32)), (.ref b1)])) _
    rw [← hv2]
    show Steps p.tables e below (T3.setTop (mkF m 41 #[.val (.int p1), .val (.long q2), .second, .val (.int p3), .val (.long q4), .second, .val (.int (1 : Int32)), .val (.int f), .val (.ref b1), .unset, .unset, .unset, .unset] [(.int v2), (.int (1 : Int32)), (.ref b1)])) _
    refine st6 _ ?_
    show Steps p.tables e below (T6.setTop (mkF m 42 #[.val (.int p1), .val (.long q2), .second, .val (.int p3), .val (.long q4), .second, .val (.int (1 : Int32)), .val (.int f), .val (.ref b1), .unset, .unset, .unset, .unset] [])) _
    refine XS.aload X6.here hx rfl (hb hby at_42) rfl rfl ?_
    refine XS.iconst X6.here hx rfl (hb hby at_44) ?_
    refine XS.lload X6.here hx rfl (hb hby at_45) rfl ?_
    refine XS.bipush X6.here hx rfl (hb hby at_47) ?_
    refine XS.lushr X6.here hx rfl (hb hby at_49) rfl ?_
    show Steps p.tables e below (T6.setTop (mkF m 50 #[.val (.int p1), .val (.long q2), .second, .val (.int p3), .val (.long q4), .second, .val (.int (1 : Int32)), .val (.int f), .val (.ref b1), .unset, .unset, .unset, .unset] [(.long ((q4.toUInt64 >>> ((16 : Int32) &&& 0x3f).toInt64.toUInt64).toInt64)), (.int (2 : Int32)), (.ref b1)])) _
    refine XS.l2i X6.here hx rfl (hb hby at_50) rfl ?_
    refine XS.i2b X6.here hx rfl (hb hby at_51) rfl ?_
    show Steps p.tables e below (T6.setTop (mkF m 52 #[.val (.int p1), .val (.long q2), .second, .val (.int p3), .val (.long q4), .second, .val (.int (1 : Int32)), .val (.int f), .val (.ref b1), .unset, .unset, .unset, .unset] [(.int ((((q4.toUInt64 >>> ((16 : Int32) &&& 0x3f).toInt64.toUInt64).toInt64).toInt32).toInt8.toInt32)), (.int (2 : Int32)), (.ref b1)])) _
    rw [← hv3]
    show Steps p.tables e below (T6.setTop (mkF m 52 #[.val (.int p1), .val (.long q2), .second, .val (.int p3), .val (.long q4), .second, .val (.int (1 : Int32)), .val (.int f), .val (.ref b1), .unset, .unset, .unset, .unset] [(.int v3), (.int (2 : Int32)), (.ref b1)])) _
    refine st9 _ ?_
    show Steps p.tables e below (T9.setTop (mkF m 53 #[.val (.int p1), .val (.long q2), .second, .val (.int p3), .val (.long q4), .second, .val (.int (1 : Int32)), .val (.int f), .val (.ref b1), .unset, .unset, .unset, .unset] [])) _
    refine XS.aload X9.here hx rfl (hb hby at_53) rfl rfl ?_
    refine XS.iconst X9.here hx rfl (hb hby at_55) ?_
    refine XS.lload X9.here hx rfl (hb hby at_56) rfl ?_
    refine XS.bipush X9.here hx rfl (hb hby at_58) ?_
    refine XS.lushr X9.here hx rfl (hb hby at_60) rfl ?_
    show Steps p.tables e below (T9.setTop (mkF m 61 #[.val (.int p1), .val (.long q2), .second, .val (.int p3), .val (.long q4), .second, .val (.int (1 : Int32)), .val (.int f), .val (.ref b1), .unset, .unset, .unset, .unset] [(.long ((q4.toUInt64 >>> ((24 : Int32) &&& 0x3f).toInt64.toUInt64).toInt64)), (.int (3 : Int32)), (.ref b1)])) _
    refine XS.l2i X9.here hx rfl (hb hby at_61) rfl ?_
    refine XS.i2b X9.here hx rfl (hb hby at_62) rfl ?_
    show Steps p.tables e below (T9.setTop (mkF m 63 #[.val (.int p1), .val (.long q2), .second, .val (.int p3), .val (.long q4), .second, .val (.int (1 : Int32)), .val (.int f), .val (.ref b1), .unset, .unset, .unset, .unset] [(.int ((((q4.toUInt64 >>> ((24 : Int32) &&& 0x3f).toInt64.toUInt64).toInt64).toInt32).toInt8.toInt32)), (.int (3 : Int32)), (.ref b1)])) _
    rw [← hv4]
    show Steps p.tables e below (T9.setTop (mkF m 63 #[.val (.int p1), .val (.long q2), .second, .val (.int p3), .val (.long q4), .second, .val (.int (1 : Int32)), .val (.int f), .val (.ref b1), .unset, .unset, .unset, .unset] [(.int v4), (.int (3 : Int32)), (.ref b1)])) _
    refine st12 _ ?_
    show Steps p.tables e below (T12.setTop (mkF m 64 #[.val (.int p1), .val (.long q2), .second, .val (.int p3), .val (.long q4), .second, .val (.int (1 : Int32)), .val (.int f), .val (.ref b1), .unset, .unset, .unset, .unset] [])) _
    refine XS.aload X12.here hx rfl (hb hby at_64) rfl rfl ?_
    refine XS.iconst X12.here hx rfl (hb hby at_66) ?_
    refine XS.lload X12.here hx rfl (hb hby at_67) rfl ?_
    refine XS.bipush X12.here hx rfl (hb hby at_69) ?_
    refine XS.lushr X12.here hx rfl (hb hby at_71) rfl ?_
    show Steps p.tables e below (T12.setTop (mkF m 72 #[.val (.int p1), .val (.long q2), .second, .val (.int p3), .val (.long q4), .second, .val (.int (1 : Int32)), .val (.int f), .val (.ref b1), .unset, .unset, .unset, .unset] [(.long ((q4.toUInt64 >>> ((32 : Int32) &&& 0x3f).toInt64.toUInt64).toInt64)), (.int (4 : Int32)), (.ref b1)])) _
    refine XS.l2i X12.here hx rfl (hb hby at_72) rfl ?_
    refine XS.i2b X12.here hx rfl (hb hby at_73) rfl ?_
    show Steps p.tables e below (T12.setTop (mkF m 74 #[.val (.int p1), .val (.long q2), .second, .val (.int p3), .val (.long q4), .second, .val (.int (1 : Int32)), .val (.int f), .val (.ref b1), .unset, .unset, .unset, .unset] [(.int ((((q4.toUInt64 >>> ((32 : Int32) &&& 0x3f).toInt64.toUInt64).toInt64).toInt32).toInt8.toInt32)), (.int (4 : Int32)), (.ref b1)])) _
    rw [← hv5]
    show Steps p.tables e below (T12.setTop (mkF m 74 #[.val (.int p1), .val (.long q2), .second, .val (.int p3), .val (.long q4), .second, .val (.int (1 : Int32)), .val (.int f), .val (.ref b1), .unset, .unset, .unset, .unset] [(.int v5), (.int (4 : Int32)), (.ref b1)])) _
    refine st15 _ ?_
    show Steps p.tables e below (T15.setTop (mkF m 75 #[.val (.int p1), .val (.long q2), .second, .val (.int p3), .val (.long q4), .second, .val (.int (1 : Int32)), .val (.int f), .val (.ref b1), .unset, .unset, .unset, .unset] [])) _
    refine XS.aload X15.here hx rfl (hb hby at_75) rfl rfl ?_
    refine XS.iconst X15.here hx rfl (hb hby at_77) ?_
    refine XS.lload X15.here hx rfl (hb hby at_78) rfl ?_
    refine XS.bipush X15.here hx rfl (hb hby at_80) ?_
    refine XS.lushr X15.here hx rfl (hb hby at_82) rfl ?_
    show Steps p.tables e below (T15.setTop (mkF m 83 #[.val (.int p1), .val (.long q2), .second, .val (.int p3), .val (.long q4), .second, .val (.int (1 : Int32)), .val (.int f), .val (.ref b1), .unset, .unset, .unset, .unset] [(.long ((q4.toUInt64 >>> ((40 : Int32) &&& 0x3f).toInt64.toUInt64).toInt64)), (.int (5 : Int32)), (.ref b1)])) _
    refine XS.l2i X15.here hx rfl (hb hby at_83) rfl ?_
    refine XS.i2b X15.here hx rfl (hb hby at_84) rfl ?_
    show Steps p.tables e below (T15.setTop (mkF m 85 #[.val (.int p1), .val (.long q2), .second, .val (.int p3), .val (.long q4), .second, .val (.int (1 : Int32)), .val (.int f), .val (.ref b1), .unset, .unset, .unset, .unset] [(.int ((((q4.toUInt64 >>> ((40 : Int32) &&& 0x3f).toInt64.toUInt64).toInt64).toInt32).toInt8.toInt32)), (.int (5 : Int32)), (.ref b1)])) _
    rw [← hv6]
    show Steps p.tables e below (T15.setTop (mkF m 85 #[.val (.int p1), .val (.long q2), .second, .val (.int p3), .val (.long q4), .second, .val (.int (1 : Int32)), .val (.int f), .val (.ref b1), .unset, .unset, .unset, .unset] [(.int v6), (.int (5 : Int32)), (.ref b1)])) _
    refine st18 _ ?_
    show Steps p.tables e below (T18.setTop (mkF m 86 #[.val (.int p1), .val (.long q2), .second, .val (.int p3), .val (.long q4), .second, .val (.int (1 : Int32)), .val (.int f), .val (.ref b1), .unset, .unset, .unset, .unset] [])) _
    refine XS.aload X18.here hx rfl (hb hby at_86) rfl rfl ?_
    refine XS.bipush X18.here hx rfl (hb hby at_88) ?_
    refine XS.lload X18.here hx rfl (hb hby at_90) rfl ?_
    refine XS.bipush X18.here hx rfl (hb hby at_92) ?_
    refine XS.lushr X18.here hx rfl (hb hby at_94) rfl ?_
    show Steps p.tables e below (T18.setTop (mkF m 95 #[.val (.int p1), .val (.long q2), .second, .val (.int p3), .val (.long q4), .second, .val (.int (1 : Int32)), .val (.int f), .val (.ref b1), .unset, .unset, .unset, .unset] [(.long ((q4.toUInt64 >>> ((48 : Int32) &&& 0x3f).toInt64.toUInt64).toInt64)), (.int (6 : Int32)), (.ref b1)])) _
    refine XS.l2i X18.here hx rfl (hb hby at_95) rfl ?_
    refine XS.i2b X18.here hx rfl (hb hby at_96) rfl ?_
    show Steps p.tables e below (T18.setTop (mkF m 97 #[.val (.int p1), .val (.long q2), .second, .val (.int p3), .val (.long q4), .second, .val (.int (1 : Int32)), .val (.int f), .val (.ref b1), .unset, .unset, .unset, .unset] [(.int ((((q4.toUInt64 >>> ((48 : Int32) &&& 0x3f).toInt64.toUInt64).toInt64).toInt32).toInt8.toInt32)), (.int (6 : Int32)), (.ref b1)])) _
    rw [← hv7]
    show Steps p.tables e below (T18.setTop (mkF m 97 #[.val (.int p1), .val (.long q2), .second, .val (.int p3), .val (.long q4), .second, .val (.int (1 : Int32)), .val (.int f), .val (.ref b1), .unset, .unset, .unset, .unset] [(.int v7), (.int (6 : Int32)), (.ref b1)])) _
    refine st21 _ ?_
    show Steps p.tables e below (T21.setTop (mkF m 98 #[.val (.int p1), .val (.long q2), .second, .val (.int p3), .val (.long q4), .second, .val (.int (1 : Int32)), .val (.int f), .val (.ref b1), .unset, .unset, .unset, .unset] [])) _
    refine XS.aload X21.here hx rfl (hb hby at_98) rfl rfl ?_
    refine XS.bipush X21.here hx rfl (hb hby at_100) ?_
    refine XS.lload X21.here hx rfl (hb hby at_102) rfl ?_
    refine XS.bipush X21.here hx rfl (hb hby at_104) ?_
    refine XS.lushr X21.here hx rfl (hb hby at_106) rfl ?_
    show Steps p.tables e below (T21.setTop (mkF m 107 #[.val (.int p1), .val (.long q2), .second, .val (.int p3), .val (.long q4), .second, .val (.int (1 : Int32)), .val (.int f), .val (.ref b1), .unset, .unset, .unset, .unset] [(.long ((q4.toUInt64 >>> ((56 : Int32) &&& 0x3f).toInt64.toUInt64).toInt64)), (.int (7 : Int32)), (.ref b1)])) _
    refine XS.l2i X21.here hx rfl (hb hby at_107) rfl ?_
    refine XS.i2b X21.here hx rfl (hb hby at_108) rfl ?_
    show Steps p.tables e below (T21.setTop (mkF m 109 #[.val (.int p1), .val (.long q2), .second, .val (.int p3), .val (.long q4), .second, .val (.int (1 : Int32)), .val (.int f), .val (.ref b1), .unset, .unset, .unset, .unset] [(.int ((((q4.toUInt64 >>> ((56 : Int32) &&& 0x3f).toInt64.toUInt64).toInt64).toInt32).toInt8.toInt32)), (.int (7 : Int32)), (.ref b1)])) _
    rw [← hv8]
    show Steps p.tables e below (T21.setTop (mkF m 109 #[.val (.int p1), .val (.long q2), .second, .val (.int p3), .val (.long q4), .second, .val (.int (1 : Int32)), .val (.int f), .val (.ref b1), .unset, .unset, .unset, .unset] [(.int v8), (.int (7 : Int32)), (.ref b1)])) _
    refine st24 _ ?_
    show Steps p.tables e below (T24.setTop (mkF m 110 #[.val (.int p1), .val (.long q2), .second, .val (.int p3), .val (.long q4), .second, .val (.int (1 : Int32)), .val (.int f), .val (.ref b1), .unset, .unset, .unset, .unset] [])) _
    refine XS.aload X24.here hx rfl (hb hby at_110) rfl rfl ?_
    refine XS.bipush X24.here hx rfl (hb hby at_112) ?_
    refine XS.lload X24.here hx rfl (hb hby at_114) rfl ?_
    refine XS.iconst X24.here hx rfl (hb hby at_116) ?_
    refine XS.lushr X24.here hx rfl (hb hby at_117) rfl ?_
    show Steps p.tables e below (T24.setTop (mkF m 118 #[.val (.int p1), .val (.long q2), .second, .val (.int p3), .val (.long q4), .second, .val (.int (1 : Int32)), .val (.int f), .val (.ref b1), .unset, .unset, .unset, .unset] [(.long ((q4.toUInt64 >>> ((4 : Int32) &&& 0x3f).toInt64.toUInt64).toInt64)), (.int (8 : Int32)), (.ref b1)])) _
    refine XS.l2i X24.here hx rfl (hb hby at_118) rfl ?_
    refine XS.i2b X24.here hx rfl (hb hby at_119) rfl ?_
    show Steps p.tables e below (T24.setTop (mkF m 120 #[.val (.int p1), .val (.long q2), .second, .val (.int p3), .val (.long q4), .second, .val (.int (1 : Int32)), .val (.int f), .val (.ref b1), .unset, .unset, .unset, .unset] [(.int ((((q4.toUInt64 >>> ((4 : Int32) &&& 0x3f).toInt64.toUInt64).toInt64).toInt32).toInt8.toInt32)), (.int (8 : Int32)), (.ref b1)])) _
    rw [← hv9]
    show Steps p.tables e below (T24.setTop (mkF m 120 #[.val (.int p1), .val (.long q2), .second, .val (.int p3), .val (.long q4), .second, .val (.int (1 : Int32)), .val (.int f), .val (.ref b1), .unset, .unset, .unset, .unset] [(.int v9), (.int (8 : Int32)), (.ref b1)])) _
    refine st27 _ ?_
    show Steps p.tables e below (T27.setTop (mkF m 121 #[.val (.int p1), .val (.long q2), .second, .val (.int p3), .val (.long q4), .second, .val (.int (1 : Int32)), .val (.int f), .val (.ref b1), .unset, .unset, .unset, .unset] [])) _
    refine XS.aload X27.here hx rfl (hb hby at_121) rfl rfl ?_
    refine XS.bipush X27.here hx rfl (hb hby at_123) ?_
    refine XS.lload X27.here hx rfl (hb hby at_125) rfl ?_
    refine XS.bipush X27.here hx rfl (hb hby at_127) ?_
    refine XS.lushr X27.here hx rfl (hb hby at_129) rfl ?_
    show Steps p.tables e below (T27.setTop (mkF m 130 #[.val (.int p1), .val (.long q2), .second, .val (.int p3), .val (.long q4), .second, .val (.int (1 : Int32)), .val (.int f), .val (.ref b1), .unset, .unset, .unset, .unset] [(.long ((q4.toUInt64 >>> ((12 : Int32) &&& 0x3f).toInt64.toUInt64).toInt64)), (.int (9 : Int32)), (.ref b1)])) _
    refine XS.l2i X27.here hx rfl (hb hby at_130) rfl ?_
    refine XS.i2b X27.here hx rfl (hb hby at_131) rfl ?_
    show Steps p.tables e below (T27.setTop (mkF m 132 #[.val (.int p1), .val (.long q2), .second, .val (.int p3), .val (.long q4), .second, .val (.int (1 : Int32)), .val (.int f), .val (.ref b1), .unset, .unset, .unset, .unset] [(.int ((((q4.toUInt64 >>> ((12 : Int32) &&& 0x3f).toInt64.toUInt64).toInt64).toInt32).toInt8.toInt32)), (.int (9 : Int32)), (.ref b1)])) _
    rw [← hv10]
    show Steps p.tables e below (T27.setTop (mkF m 132 #[.val (.int p1), .val (.long q2), .second, .val (.int p3), .val (.long q4), .second, .val (.int (1 : Int32)), .val (.int f), .val (.ref b1), .unset, .unset, .unset, .unset] [(.int v10), (.int (9 : Int32)), (.ref b1)])) _
    refine st30 _ ?_
    show Steps p.tables e below (T30.setTop (mkF m 133 #[.val (.int p1), .val (.long q2), .second, .val (.int p3), .val (.long q4), .second, .val (.int (1 : Int32)), .val (.int f), .val (.ref b1), .unset, .unset, .unset, .unset] [])) _
    refine XS.aload X30.here hx rfl (hb hby at_133) rfl rfl ?_
    refine XS.bipush X30.here hx rfl (hb hby at_135) ?_
    refine XS.lload X30.here hx rfl (hb hby at_137) rfl ?_
    refine XS.bipush X30.here hx rfl (hb hby at_139) ?_
    refine XS.lushr X30.here hx rfl (hb hby at_141) rfl ?_
    show Steps p.tables e below (T30.setTop (mkF m 142 #[.val (.int p1), .val (.long q2), .second, .val (.int p3), .val (.long q4), .second, .val (.int (1 : Int32)), .val (.int f), .val (.ref b1), .unset, .unset, .unset, .unset] [(.long ((q4.toUInt64 >>> ((20 : Int32) &&& 0x3f).toInt64.toUInt64).toInt64)), (.int (10 : Int32)), (.ref b1)])) _
    refine XS.l2i X30.here hx rfl (hb hby at_142) rfl ?_
    refine XS.i2b X30.here hx rfl (hb hby at_143) rfl ?_
    show Steps p.tables e below (T30.setTop (mkF m 144 #[.val (.int p1), .val (.long q2), .second, .val (.int p3), .val (.long q4), .second, .val (.int (1 : Int32)), .val (.int f), .val (.ref b1), .unset, .unset, .unset, .unset] [(.int ((((q4.toUInt64 >>> ((20 : Int32) &&& 0x3f).toInt64.toUInt64).toInt64).toInt32).toInt8.toInt32)), (.int (10 : Int32)), (.ref b1)])) _
    rw [← hv11]
    show Steps p.tables e below (T30.setTop (mkF m 144 #[.val (.int p1), .val (.long q2), .second, .val (.int p3), .val (.long q4), .second, .val (.int (1 : Int32)), .val (.int f), .val (.ref b1), .unset, .unset, .unset, .unset] [(.int v11), (.int (10 : Int32)), (.ref b1)])) _
    refine st33 _ ?_
    show Steps p.tables e below (T33.setTop (mkF m 145 #[.val (.int p1), .val (.long q2), .second, .val (.int p3), .val (.long q4), .second, .val (.int (1 : Int32)), .val (.int f), .val (.ref b1), .unset, .unset, .unset, .unset] [])) _
    refine XS.aload X33.here hx rfl (hb hby at_145) rfl rfl ?_
    refine XS.iload X33.here hx rfl (hb hby at_147) rfl ?_
    refine XS.iload X33.here hx rfl (hb hby at_149) rfl ?_
    refine XS.i2b X33.here hx rfl (hb hby at_151) rfl ?_
    show Steps p.tables e below (T33.setTop (mkF m 152 #[.val (.int p1), .val (.long q2), .second, .val (.int p3), .val (.long q4), .second, .val (.int (1 : Int32)), .val (.int f), .val (.ref b1), .unset, .unset, .unset, .unset] [(.int (f.toInt8.toInt32)), (.int (1 : Int32)), (.ref b1)])) _
    rw [← hv12]
    show Steps p.tables e below (T33.setTop (mkF m 152 #[.val (.int p1), .val (.long q2), .second, .val (.int p3), .val (.long q4), .second, .val (.int (1 : Int32)), .val (.int f), .val (.ref b1), .unset, .unset, .unset, .unset] [(.int v12), (.int (1 : Int32)), (.ref b1)])) _
    refine st36 _ ?_
    show Steps p.tables e below (T36.setTop (mkF m 153 #[.val (.int p1), .val (.long q2), .second, .val (.int p3), .val (.long q4), .second, .val (.int (1 : Int32)), .val (.int f), .val (.ref b1), .unset, .unset, .unset, .unset] [])) _
    refine XS.aload X36.here hx rfl (hb hby at_153) rfl rfl ?_
    refine XS.iload X36.here hx rfl (hb hby at_155) rfl ?_
    refine XS.iconst X36.here hx rfl (hb hby at_157) ?_
    refine XS.iadd X36.here hx rfl (hb hby at_158) rfl ?_
    refine XS.lloadN X36.here hx rfl (hb hby at_159) rfl ?_
    show Steps p.tables e below (T36.setTop (mkF m 160 #[.val (.int p1), .val (.long q2), .second, .val (.int p3), .val (.long q4), .second, .val (.int (1 : Int32)), .val (.int f), .val (.ref b1), .unset, .unset, .unset, .unset] [(.long q2), (.int ((1 : Int32) + (1 : Int32))), (.ref b1)])) _
    refine XS.bipush X36.here hx rfl (hb hby at_160) ?_
    refine XS.lushr X36.here hx rfl (hb hby at_162) rfl ?_
    refine XS.l2i X36.here hx rfl (hb hby at_163) rfl ?_
    refine XS.i2b X36.here hx rfl (hb hby at_164) rfl ?_
    show Steps p.tables e below (T36.setTop (mkF m 165 #[.val (.int p1), .val (.long q2), .second, .val (.int p3), .val (.long q4), .second, .val (.int (1 : Int32)), .val (.int f), .val (.ref b1), .unset, .unset, .unset, .unset] [(.int ((((q2.toUInt64 >>> ((48 : Int32) &&& 0x3f).toInt64.toUInt64).toInt64).toInt32).toInt8.toInt32)), (.int ((1 : Int32) + (1 : Int32))), (.ref b1)])) _
    rw [← hv13]
    show Steps p.tables e below (T36.setTop (mkF m 165 #[.val (.int p1), .val (.long q2), .second, .val (.int p3), .val (.long q4), .second, .val (.int (1 : Int32)), .val (.int f), .val (.ref b1), .unset, .unset, .unset, .unset] [(.int v13), (.int ((1 : Int32) + (1 : Int32))), (.ref b1)])) _
    refine st39 _ ?_
    show Steps p.tables e below (T39.setTop (mkF m 166 #[.val (.int p1), .val (.long q2), .second, .val (.int p3), .val (.long q4), .second, .val (.int (1 : Int32)), .val (.int f), .val (.ref b1), .unset, .unset, .unset, .unset] [])) _
    refine XS.aload X39.here hx rfl (hb hby at_166) rfl rfl ?_
    refine XS.iload X39.here hx rfl (hb hby at_168) rfl ?_
    refine XS.iconst X39.here hx rfl (hb hby at_170) ?_
    refine XS.iadd X39.here hx rfl (hb hby at_171) rfl ?_
    refine XS.lloadN X39.here hx rfl (hb hby at_172) rfl ?_
    show Steps p.tables e below (T39.setTop (mkF m 173 #[.val (.int p1), .val (.long q2), .second, .val (.int p3), .val (.long q4), .second, .val (.int (1 : Int32)), .val (.int f), .val (.ref b1), .unset, .unset, .unset, .unset] [(.long q2), (.int ((1 : Int32) + (2 : Int32))), (.ref b1)])) _
    refine XS.bipush X39.here hx rfl (hb hby at_173) ?_
    refine XS.lushr X39.here hx rfl (hb hby at_175) rfl ?_
    refine XS.l2i X39.here hx rfl (hb hby at_176) rfl ?_
    refine XS.i2b X39.here hx rfl (hb hby at_177) rfl ?_
    show Steps p.tables e below (T39.setTop (mkF m 178 #[.val (.int p1), .val (.long q2), .second, .val (.int p3), .val (.long q4), .second, .val (.int (1 : Int32)), .val (.int f), .val (.ref b1), .unset, .unset, .unset, .unset] [(.int ((((q2.toUInt64 >>> ((40 : Int32) &&& 0x3f).toInt64.toUInt64).toInt64).toInt32).toInt8.toInt32)), (.int ((1 : Int32) + (2 : Int32))), (.ref b1)])) _
    rw [← hv14]
    show Steps p.tables e below (T39.setTop (mkF m 178 #[.val (.int p1), .val (.long q2), .second, .val (.int p3), .val (.long q4), .second, .val (.int (1 : Int32)), .val (.int f), .val (.ref b1), .unset, .unset, .unset, .unset] [(.int v14), (.int ((1 : Int32) + (2 : Int32))), (.ref b1)])) _
    refine st42 _ ?_
    show Steps p.tables e below (T42.setTop (mkF m 179 #[.val (.int p1), .val (.long q2), .second, .val (.int p3), .val (.long q4), .second, .val (.int (1 : Int32)), .val (.int f), .val (.ref b1), .unset, .unset, .unset, .unset] [])) _
    refine XS.aload X42.here hx rfl (hb hby at_179) rfl rfl ?_
    refine XS.iload X42.here hx rfl (hb hby at_181) rfl ?_
    refine XS.iconst X42.here hx rfl (hb hby at_183) ?_
    refine XS.iadd X42.here hx rfl (hb hby at_184) rfl ?_
    refine XS.lloadN X42.here hx rfl (hb hby at_185) rfl ?_
    show Steps p.tables e below (T42.setTop (mkF m 186 #[.val (.int p1), .val (.long q2), .second, .val (.int p3), .val (.long q4), .second, .val (.int (1 : Int32)), .val (.int f), .val (.ref b1), .unset, .unset, .unset, .unset] [(.long q2), (.int ((1 : Int32) + (3 : Int32))), (.ref b1)])) _
    refine XS.bipush X42.here hx rfl (hb hby at_186) ?_
    refine XS.lushr X42.here hx rfl (hb hby at_188) rfl ?_
    refine XS.l2i X42.here hx rfl (hb hby at_189) rfl ?_
    refine XS.i2b X42.here hx rfl (hb hby at_190) rfl ?_
    show Steps p.tables e below (T42.setTop (mkF m 191 #[.val (.int p1), .val (.long q2), .second, .val (.int p3), .val (.long q4), .second, .val (.int (1 : Int32)), .val (.int f), .val (.ref b1), .unset, .unset, .unset, .unset] [(.int ((((q2.toUInt64 >>> ((32 : Int32) &&& 0x3f).toInt64.toUInt64).toInt64).toInt32).toInt8.toInt32)), (.int ((1 : Int32) + (3 : Int32))), (.ref b1)])) _
    rw [← hv15]
    show Steps p.tables e below (T42.setTop (mkF m 191 #[.val (.int p1), .val (.long q2), .second, .val (.int p3), .val (.long q4), .second, .val (.int (1 : Int32)), .val (.int f), .val (.ref b1), .unset, .unset, .unset, .unset] [(.int v15), (.int ((1 : Int32) + (3 : Int32))), (.ref b1)])) _
    refine st45 _ ?_
    show Steps p.tables e below (T45.setTop (mkF m 192 #[.val (.int p1), .val (.long q2), .second, .val (.int p3), .val (.long q4), .second, .val (.int (1 : Int32)), .val (.int f), .val (.ref b1), .unset, .unset, .unset, .unset] [])) _
    refine XS.aload X45.here hx rfl (hb hby at_192) rfl rfl ?_
    refine XS.iload X45.here hx rfl (hb hby at_194) rfl ?_
    refine XS.iconst X45.here hx rfl (hb hby at_196) ?_
    refine XS.iadd X45.here hx rfl (hb hby at_197) rfl ?_
    refine XS.lloadN X45.here hx rfl (hb hby at_198) rfl ?_
    show Steps p.tables e below (T45.setTop (mkF m 199 #[.val (.int p1), .val (.long q2), .second, .val (.int p3), .val (.long q4), .second, .val (.int (1 : Int32)), .val (.int f), .val (.ref b1), .unset, .unset, .unset, .unset] [(.long q2), (.int ((1 : Int32) + (4 : Int32))), (.ref b1)])) _
    refine XS.bipush X45.here hx rfl (hb hby at_199) ?_
    refine XS.lushr X45.here hx rfl (hb hby at_201) rfl ?_
    refine XS.l2i X45.here hx rfl (hb hby at_202) rfl ?_
    refine XS.i2b X45.here hx rfl (hb hby at_203) rfl ?_
    show Steps p.tables e below (T45.setTop (mkF m 204 #[.val (.int p1), .val (.long q2), .second, .val (.int p3), .val (.long q4), .second, .val (.int (1 : Int32)), .val (.int f), .val (.ref b1), .unset, .unset, .unset, .unset] [(.int ((((q2.toUInt64 >>> ((24 : Int32) &&& 0x3f).toInt64.toUInt64).toInt64).toInt32).toInt8.toInt32)), (.int ((1 : Int32) + (4 : Int32))), (.ref b1)])) _
    rw [← hv16]
    show Steps p.tables e below (T45.setTop (mkF m 204 #[.val (.int p1), .val (.long q2), .second, .val (.int p3), .val (.long q4), .second, .val (.int (1 : Int32)), .val (.int f), .val (.ref b1), .unset, .unset, .unset, .unset] [(.int v16), (.int ((1 : Int32) + (4 : Int32))), (.ref b1)])) _
    refine st48 _ ?_
    show Steps p.tables e below (T48.setTop (mkF m 205 #[.val (.int p1), .val (.long q2), .second, .val (.int p3), .val (.long q4), .second, .val (.int (1 : Int32)), .val (.int f), .val (.ref b1), .unset, .unset, .unset, .unset] [])) _
    refine XS.aload X48.here hx rfl (hb hby at_205) rfl rfl ?_
    refine XS.iload X48.here hx rfl (hb hby at_207) rfl ?_
    refine XS.iconst X48.here hx rfl (hb hby at_209) ?_
    refine XS.iadd X48.here hx rfl (hb hby at_210) rfl ?_
    refine XS.lloadN X48.here hx rfl (hb hby at_211) rfl ?_
    show Steps p.tables e below (T48.setTop (mkF m 212 #[.val (.int p1), .val (.long q2), .second, .val (.int p3), .val (.long q4), .second, .val (.int (1 : Int32)), .val (.int f), .val (.ref b1), .unset, .unset, .unset, .unset] [(.long q2), (.int ((1 : Int32) + (5 : Int32))), (.ref b1)])) _
    refine XS.bipush X48.here hx rfl (hb hby at_212) ?_
    refine XS.lushr X48.here hx rfl (hb hby at_214) rfl ?_
    refine XS.l2i X48.here hx rfl (hb hby at_215) rfl ?_
    refine XS.i2b X48.here hx rfl (hb hby at_216) rfl ?_
    show Steps p.tables e below (T48.setTop (mkF m 217 #[.val (.int p1), .val (.long q2), .second, .val (.int p3), .val (.long q4), .second, .val (.int (1 : Int32)), .val (.int f), .val (.ref b1), .unset, .unset, .unset, .unset] [(.int ((((q2.toUInt64 >>> ((16 : Int32) &&& 0x3f).toInt64.toUInt64).toInt64).toInt32).toInt8.toInt32)), (.int ((1 : Int32) + (5 : Int32))), (.ref b1)])) _
    rw [← hv17]
    show Steps p.tables e below (T48.setTop (mkF m 217 #[.val (.int p1), .val (.long q2), .second, .val (.int p3), .val (.long q4), .second, .val (.int (1 : Int32)), .val (.int f), .val (.ref b1), .unset, .unset, .unset, .unset] [(.int v17), (.int ((1 : Int32) + (5 : Int32))), (.ref b1)])) _
    refine st51 _ ?_
    show Steps p.tables e below (T51.setTop (mkF m 218 #[.val (.int p1), .val (.long q2), .second, .val (.int p3), .val (.long q4), .second, .val (.int (1 : Int32)), .val (.int f), .val (.ref b1), .unset, .unset, .unset, .unset] [])) _
    refine XS.aload X51.here hx rfl (hb hby at_218) rfl rfl ?_
    refine XS.iload X51.here hx rfl (hb hby at_220) rfl ?_
    refine XS.bipush X51.here hx rfl (hb hby at_222) ?_
    refine XS.iadd X51.here hx rfl (hb hby at_224) rfl ?_
    refine XS.lloadN X51.here hx rfl (hb hby at_225) rfl ?_
    show Steps p.tables e below (T51.setTop (mkF m 226 #[.val (.int p1), .val (.long q2), .second, .val (.int p3), .val (.long q4), .second, .val (.int (1 : Int32)), .val (.int f), .val (.ref b1), .unset, .unset, .unset, .unset] [(.long q2), (.int ((1 : Int32) + (6 : Int32))), (.ref b1)])) _
    refine XS.bipush X51.here hx rfl (hb hby at_226) ?_
    refine XS.lushr X51.here hx rfl (hb hby at_228) rfl ?_
    refine XS.l2i X51.here hx rfl (hb hby at_229) rfl ?_
    refine XS.i2b X51.here hx rfl (hb hby at_230) rfl ?_
    show Steps p.tables e below (T51.setTop (mkF m 231 #[.val (.int p1), .val (.long q2), .second, .val (.int p3), .val (.long q4), .second, .val (.int (1 : Int32)), .val (.int f), .val (.ref b1), .unset, .unset, .unset, .unset] [(.int ((((q2.toUInt64 >>> ((8 : Int32) &&& 0x3f).toInt64.toUInt64).toInt64).toInt32).toInt8.toInt32)), (.int ((1 : Int32) + (6 : Int32))), (.ref b1)])) _
    rw [← hv18]
    show Steps p.tables e below (T51.setTop (mkF m 231 #[.val (.int p1), .val (.long q2), .second, .val (.int p3), .val (.long q4), .second, .val (.int (1 : Int32)), .val (.int f), .val (.ref b1), .unset, .unset, .unset, .unset] [(.int v18), (.int ((1 : Int32) + (6 : Int32))), (.ref b1)])) _
    refine st54 _ ?_
    show Steps p.tables e below (T54.setTop (mkF m 232 #[.val (.int p1), .val (.long q2), .second, .val (.int p3), .val (.long q4), .second, .val (.int (1 : Int32)), .val (.int f), .val (.ref b1), .unset, .unset, .unset, .unset] [])) _
    refine XS.aload X54.here hx rfl (hb hby at_232) rfl rfl ?_
    refine XS.iload X54.here hx rfl (hb hby at_234) rfl ?_
    refine XS.bipush X54.here hx rfl (hb hby at_236) ?_
    refine XS.iadd X54.here hx rfl (hb hby at_238) rfl ?_
    refine XS.lloadN X54.here hx rfl (hb hby at_239) rfl ?_
    show Steps p.tables e below (T54.setTop (mkF m 240 #[.val (.int p1), .val (.long q2), .second, .val (.int p3), .val (.long q4), .second, .val (.int (1 : Int32)), .val (.int f), .val (.ref b1), .unset, .unset, .unset, .unset] [(.long q2), (.int ((1 : Int32) + (7 : Int32))), (.ref b1)])) _
    refine XS.l2i X54.here hx rfl (hb hby at_240) rfl ?_
    refine XS.i2b X54.here hx rfl (hb hby at_241) rfl ?_
    show Steps p.tables e below (T54.setTop (mkF m 242 #[.val (.int p1), .val (.long q2), .second, .val (.int p3), .val (.long q4), .second, .val (.int (1 : Int32)), .val (.int f), .val (.ref b1), .unset, .unset, .unset, .unset] [(.int ((q2.toInt32).toInt8.toInt32)), (.int ((1 : Int32) + (7 : Int32))), (.ref b1)])) _
    rw [← hv19]
    show Steps p.tables e below (T54.setTop (mkF m 242 #[.val (.int p1), .val (.long q2), .second, .val (.int p3), .val (.long q4), .second, .val (.int (1 : Int32)), .val (.int f), .val (.ref b1), .unset, .unset, .unset, .unset] [(.int v19), (.int ((1 : Int32) + (7 : Int32))), (.ref b1)])) _
    refine st57 _ ?_
    show Steps p.tables e below (T57.setTop (mkF m 243 #[.val (.int p1), .val (.long q2), .second, .val (.int p3), .val (.long q4), .second, .val (.int (1 : Int32)), .val (.int f), .val (.ref b1), .unset, .unset, .unset, .unset] [])) _
    refine XS.lloadN X57.here hx rfl (hb hby at_243) rfl ?_
    show Steps p.tables e below (T57.setTop (mkF m 244 #[.val (.int p1), .val (.long q2), .second, .val (.int p3), .val (.long q4), .second, .val (.int (1 : Int32)), .val (.int f), .val (.ref b1), .unset, .unset, .unset, .unset] [(.long q2)])) _
    refine X57.ldc2Long hx hown (mvT hZ (hw _ (List.mem_of_getElem? (i := 2) rfl))) (g := (mkF m 244 #[.val (.int p1), .val (.long q2), .second, .val (.int p3), .val (.long q4), .second, .val (.int (1 : Int32)), .val (.int f), .val (.ref b1), .unset, .unset, .unset, .unset] [(.long q2)])) rfl (hb hby at_244) _ ?_
    show Steps p.tables e below (T57.setTop (mkF m 247 #[.val (.int p1), .val (.long q2), .second, .val (.int p3), .val (.long q4), .second, .val (.int (1 : Int32)), .val (.int f), .val (.ref b1), .unset, .unset, .unset, .unset] [(.long (72057594037927935 : Int64)), (.long q2)])) _
    refine XS.land X57.here hx rfl (hb hby at_247) rfl ?_
    show Steps p.tables e below (T57.setTop (mkF m 248 #[.val (.int p1), .val (.long q2), .second, .val (.int p3), .val (.long q4), .second, .val (.int (1 : Int32)), .val (.int f), .val (.ref b1), .unset, .unset, .unset, .unset] [(.long (q2 &&& (72057594037927935 : Int64)))])) _
    refine XS.lstore X57.here hx rfl (hb hby at_248) rfl (l' := #[.val (.int p1), .val (.long q2), .second, .val (.int p3), .val (.long q4), .second, .val (.int (1 : Int32)), .val (.int f), .val (.ref b1), .val (.long (q2 &&& (72057594037927935 : Int64))), .second, .unset, .unset]) rfl ?_
    show Steps p.tables e below (T57.setTop (mkF m 250 #[.val (.int p1), .val (.long q2), .second, .val (.int p3), .val (.long q4), .second, .val (.int (1 : Int32)), .val (.int f), .val (.ref b1), .val (.long (q2 &&& (72057594037927935 : Int64))), .second, .unset, .unset] [])) _
    refine XS.iload X57.here hx rfl (hb hby at_250) rfl ?_
    refine XS.lload X57.here hx rfl (hb hby at_252) rfl ?_
    show Steps p.tables e below (T57.setTop (mkF m 254 #[.val (.int p1), .val (.long q2), .second, .val (.int p3), .val (.long q4), .second, .val (.int (1 : Int32)), .val (.int f), .val (.ref b1), .val (.long (q2 &&& (72057594037927935 : Int64))), .second, .unset, .unset] [(.long (q2 &&& (72057594037927935 : Int64))), (.int f)])) _
    refine st60 _ ?_
    show Steps p.tables e below (T60.setTop (mkF m 257 #[.val (.int p1), .val (.long q2), .second, .val (.int p3), .val (.long q4), .second, .val (.int (1 : Int32)), .val (.int f), .val (.ref b1), .val (.long (q2 &&& (72057594037927935 : Int64))), .second, .unset, .unset] [(.long w60)])) _
    refine XS.lstore X60.here hx rfl (hb hby at_257) rfl (l' := #[.val (.int p1), .val (.long q2), .second, .val (.int p3), .val (.long q4), .second, .val (.int (1 : Int32)), .val (.int f), .val (.ref b1), .val (.long (q2 &&& (72057594037927935 : Int64))), .second, .val (.long w60), .second]) rfl ?_
    show Steps p.tables e below (T60.setTop (mkF m 259 #[.val (.int p1), .val (.long q2), .second, .val (.int p3), .val (.long q4), .second, .val (.int (1 : Int32)), .val (.int f), .val (.ref b1), .val (.long (q2 &&& (72057594037927935 : Int64))), .second, .val (.long w60), .second] [])) _
    refine XS.aload X60.here hx rfl (hb hby at_259) rfl rfl ?_
    refine XS.iload X60.here hx rfl (hb hby at_261) rfl ?_
    show Steps p.tables e below (T60.setTop (mkF m 263 #[.val (.int p1), .val (.long q2), .second, .val (.int p3), .val (.long q4), .second, .val (.int (1 : Int32)), .val (.int f), .val (.ref b1), .val (.long (q2 &&& (72057594037927935 : Int64))), .second, .val (.long w60), .second] [(.int (1 : Int32)), (.ref b1)])) _
    refine st61 _ ?_
    show Steps p.tables e below (T61.setTop (mkF m 266 #[.val (.int p1), .val (.long q2), .second, .val (.int p3), .val (.long q4), .second, .val (.int (1 : Int32)), .val (.int f), .val (.ref b1), .val (.long (q2 &&& (72057594037927935 : Int64))), .second, .val (.long w60), .second] [(.long w61)])) _
    refine XS.lload X61.here hx rfl (hb hby at_266) rfl ?_
    show Steps p.tables e below (T61.setTop (mkF m 268 #[.val (.int p1), .val (.long q2), .second, .val (.int p3), .val (.long q4), .second, .val (.int (1 : Int32)), .val (.int f), .val (.ref b1), .val (.long (q2 &&& (72057594037927935 : Int64))), .second, .val (.long w60), .second] [(.long w60), (.long w61)])) _
    refine XS.lcmp X61.here hx rfl (hb hby at_268) rfl ?_
    show Steps p.tables e below (T61.setTop (mkF m 269 #[.val (.int p1), .val (.long q2), .second, .val (.int p3), .val (.long q4), .second, .val (.int (1 : Int32)), .val (.int f), .val (.ref b1), .val (.long (q2 &&& (72057594037927935 : Int64))), .second, .val (.long w60), .second] [(.int (lcmpW w61 w60))])) _
    refine XS.ifNo X61.here hx rfl (hb hby at_269) rfl ((if0 _ _).trans (teq (own_cmp V60 V61 : (lcmpW w61 w60) = (0 : Int32))).2) ?_
    show Steps p.tables e below (T61.setTop (mkF m 272 #[.val (.int p1), .val (.long q2), .second, .val (.int p3), .val (.long q4), .second, .val (.int (1 : Int32)), .val (.int f), .val (.ref b1), .val (.long (q2 &&& (72057594037927935 : Int64))), .second, .val (.long w60), .second] [])) _
    refine XS.iconst X61.here hx rfl (hb hby at_272) ?_
    show Steps p.tables e below (T61.setTop (mkF m 273 #[.val (.int p1), .val (.long q2), .second, .val (.int p3), .val (.long q4), .second, .val (.int (1 : Int32)), .val (.int f), .val (.ref b1), .val (.long (q2 &&& (72057594037927935 : Int64))), .second, .val (.long w60), .second] [(.int (1 : Int32))])) _
    refine XS.goto X61.here hx rfl (pc0 := 273) (pc' := 277) rfl (hb hby at_273) (by decide) (by decide) ?_
    show Steps p.tables e below (T61.setTop (mkF m 277 #[.val (.int p1), .val (.long q2), .second, .val (.int p3), .val (.long q4), .second, .val (.int (1 : Int32)), .val (.int f), .val (.ref b1), .val (.long (q2 &&& (72057594037927935 : Int64))), .second, .val (.long w60), .second] [(.int (1 : Int32))])) _
    exact retN X61 hx (t := .boolean) Bd.returns (by simp) (hb hby at_277) hr
  · show own_Qk (some (.int (1 : Int32))) h0 n0 _ T61.heap _
    rw [e61]
    exact ⟨rfl, N61, K57⟩
set_option maxRecDepth 65536 in
set_option maxHeartbeats 40000000 in
theorem r_law_2 (l : Launch) (Z : State) (a0 : Array Value) (hw : ∀ d ∈ tables_1, d.before a0 Z = true) (ws : List Jvm.Cond) (s_R s_F s_E s_L : Addr) (cl_R cl_F cl_E : Cell) (k_L : ClassId) (h0 : Heap) (n0 : Nat) (O0 : Old Z n0 h0) (G : own_Ctx Z Z.heap s_R s_F s_E s_L cl_R cl_F cl_E k_L) (p1 : Int32) (q2 : Int64) (p3 : Int32) (q4 : Int64) (f : Int32) (hs : p3 &&& (3 : Int32) = (2 : Int32)) (hf : (1 : Int32) + ((p1 &&& (2147483647 : Int32)) % (254 : Int32)) = f) (hf1 : 1 ≤ f.toInt) (hf2 : f.toInt ≤ 254) :
    MetFree l x (head1 (Jvm.Cond.code x code maxLocals ret :: ws) room_1) (fun a U => a = #[(.int p1), (.long q2), (.int p3), (.long q4)] ∧ Z.Warmed39 U.vm ∧ U.heap = h0) (fun _ _ _ _ _ => True) (fun _ U o U' => ∃ v L, o = .returned v ∧ own_Qk (some (.int (1 : Int32))) h0 n0 v U'.heap L ∧ FrameEnd U o U' L 16 128) := by
  have G0 := G
  obtain ⟨S_R, C_R, S_F, C_F, S_E, C_E, S_L, V_L, R_1, R_2, R_3, R_4, R_5, F_0, F_1, F_2, F_3, F_4, F_5, F_6, F_7, F_8, F_9, F_10, F_11, F_12, F_13, F_14, E_0, E_1, E_2, E_3, E_4, E_5, E_6, E_7, E_8, E_9, E_10, E_11, E_12, E_13, E_14⟩ := G
  refine MetFree.of_bodySF (plainFor_of_name pn_0) hisR ?_
  intro p e s m args below meth c s₁ Bd hml0 hP hK
  obtain ⟨rfl, hZ, hh⟩ := hP
  have hx := Bd.exec
  have hby := Bd.bytes
  have hml : c.maxLocals = 13 := hml0
  have hown : s.vm.findClass "com/example/rattan/rattan/storage/label/ComponentCodeDecodePinLaw" = some m.cls := findClass_of_methodNamed Bd.named
  have hnm := (name_of_methodNamed Bd.named Bd.method).1
  have X0 : Stand p l e room_1 s m #[(.int p1), (.long q2), (.int p3), (.long q4)] below meth c s₁ [] 0 0 := Stand.of_body Bd
  have e0 : s₁.heap = h0 := by rw [← hh, Bd.state]; rfl
  have N0 := Fr.nil n0
  have pre0 : ∀ t, Steps p.tables e below (s₁.setTop (mkF m 0 #[.val (.int p1), .val (.long q2), .second, .val (.int p3), .val (.long q4), .second, .unset, .unset, .unset, .unset, .unset, .unset, .unset] [])) t → Steps p.tables e below (s₁.setTop (entryFrame m #[(.int p1), (.long q2), (.int p3), (.long q4)] maxLocals)) t := fun t k => castTop (ef_0_3 m p1 q2 p3 q4) k
  obtain ⟨T1, h1, k1, X1, e1, E1, A1, st1⟩ := newP X0 hx hZ (hw _ (List.mem_of_getElem? (i := 1) rfl)) e0 (g := (mkF m 19 #[.val (.int p1), .val (.long q2), .second, .val (.int p3), .val (.long q4), .second, .val (.int (2 : Int32)), .val (.int f), .unset, .unset, .unset, .unset, .unset] [(.int (11 : Int32))])) rfl (hb hby at_19) rfl (by decide) (cap := 11) (by decide) (by decide) (by decide) (by decide)
  obtain ⟨b1, g1⟩ : ∃ z, z = h0.size := ⟨_, rfl⟩
  have g_b1 : n0 ≤ b1 := Nat.le_trans (O0.1 ▸ O0.2.1) (Nat.le_of_eq g1.symm)
  have sz_b1 : h0.size ≤ b1 := Nat.le_trans (Keep.refl h0 []).1 (Nat.le_of_eq g1.symm)
  rw [← g1] at A1 st1
  have O1 := O0.ext E1
  have K1 : Keep h0 h1 [] := (Keep.refl h0 []).ext E1
  have V1 : Arv Z h1 b1 k1 .byte (11 : Int32) [(.int (0 : Int32)), (.int (0 : Int32)), (.int (0 : Int32)), (.int (0 : Int32)), (.int (0 : Int32)), (.int (0 : Int32)), (.int (0 : Int32)), (.int (0 : Int32)), (.int (0 : Int32)), (.int (0 : Int32)), (.int (0 : Int32))] (.int (0 : Int32)) := (Arv.new A1 (by decide)).pad (pad_rep [] (.int (0 : Int32)) 11)
  obtain ⟨v1, hv1⟩ : ∃ z : Int32, z = ((q4.toInt32).toInt8.toInt32) := ⟨_, rfl⟩
  have vc2 := V1
  obtain ⟨cl2, Ar2, qk2, S2, Nn2, Hs2, Gf2⟩ := vc2
  have hin2 : ¬ ((0 : Int32) < 0 ∨ cl2.slots.size ≤ ((0 : Int32)).toNatClampNeg) := inb_of S2 ⟨by decide, by decide⟩
  obtain ⟨T3, h3, X3, e3, W3, st3⟩ := stB X1 hx hZ e1 Ar2 (j := (0 : Int32)) hin2 (g := (mkF m 30 #[.val (.int p1), .val (.long q2), .second, .val (.int p3), .val (.long q4), .second, .val (.int (2 : Int32)), .val (.int f), .val (.ref b1), .unset, .unset, .unset, .unset] [(.int v1), (.int (0 : Int32)), (.ref b1)])) rfl rfl (hb hby at_30)
  have O3 := O1.wr W3 g_b1
  have K3 : Keep h0 h3 [] := K1.wr W3 (Or.inr sz_b1)
  have N3 := Fr.snoc X3 N0 g_b1
  have f4 : Arv Z h3 b1 k1 .byte (11 : Int32) [(.int (nar .byte v1)), (.int (0 : Int32)), (.int (0 : Int32)), (.int (0 : Int32)), (.int (0 : Int32)), (.int (0 : Int32)), (.int (0 : Int32)), (.int (0 : Int32)), (.int (0 : Int32)), (.int (0 : Int32)), (.int (0 : Int32))] (.int (0 : Int32)) := Arv.set Ar2 qk2 S2 Nn2 Hs2 Gf2 (fits_nar_byte _) W3 0 rfl (Nat.le_of_ble_eq_true rfl)
  obtain ⟨v2, hv2⟩ : ∃ z : Int32, z = ((((q4.toUInt64 >>> ((8 : Int32) &&& 0x3f).toInt64.toUInt64).toInt64).toInt32).toInt8.toInt32) := ⟨_, rfl⟩
  have vc5 := f4
  obtain ⟨cl5, Ar5, qk5, S5, Nn5, Hs5, Gf5⟩ := vc5
  have hin5 : ¬ ((1 : Int32) < 0 ∨ cl5.slots.size ≤ ((1 : Int32)).toNatClampNeg) := inb_of S5 ⟨by decide, by decide⟩
  obtain ⟨T6, h6, X6, e6, W6, st6⟩ := stB X3 hx hZ e3 Ar5 (j := (1 : Int32)) hin5 (g := (mkF m 41 #[.val (.int p1), .val (.long q2), .second, .val (.int p3), .val (.long q4), .second, .val (.int (2 : Int32)), .val (.int f), .val (.ref b1), .unset, .unset, .unset, .unset] [(.int v2), (.int (1 : Int32)), (.ref b1)])) rfl rfl (hb hby at_41)
  have O6 := O3.wr W6 g_b1
  have K6 : Keep h0 h6 [] := K3.wr W6 (Or.inr sz_b1)
  have N6 := Fr.snoc X6 N3 g_b1
  have f7 : Arv Z h6 b1 k1 .byte (11 : Int32) [(.int (nar .byte v1)), (.int (nar .byte v2)), (.int (0 : Int32)), (.int (0 : Int32)), (.int (0 : Int32)), (.int (0 : Int32)), (.int (0 : Int32)), (.int (0 : Int32)), (.int (0 : Int32)), (.int (0 : Int32)), (.int (0 : Int32))] (.int (0 : Int32)) := Arv.set Ar5 qk5 S5 Nn5 Hs5 Gf5 (fits_nar_byte _) W6 1 rfl (Nat.le_of_ble_eq_true rfl)
  obtain ⟨v3, hv3⟩ : ∃ z : Int32, z = ((((q4.toUInt64 >>> ((16 : Int32) &&& 0x3f).toInt64.toUInt64).toInt64).toInt32).toInt8.toInt32) := ⟨_, rfl⟩
  have vc8 := f7
  obtain ⟨cl8, Ar8, qk8, S8, Nn8, Hs8, Gf8⟩ := vc8
  have hin8 : ¬ ((2 : Int32) < 0 ∨ cl8.slots.size ≤ ((2 : Int32)).toNatClampNeg) := inb_of S8 ⟨by decide, by decide⟩
  obtain ⟨T9, h9, X9, e9, W9, st9⟩ := stB X6 hx hZ e6 Ar8 (j := (2 : Int32)) hin8 (g := (mkF m 52 #[.val (.int p1), .val (.long q2), .second, .val (.int p3), .val (.long q4), .second, .val (.int (2 : Int32)), .val (.int f), .val (.ref b1), .unset, .unset, .unset, .unset] [(.int v3), (.int (2 : Int32)), (.ref b1)])) rfl rfl (hb hby at_52)
  have O9 := O6.wr W9 g_b1
  have K9 : Keep h0 h9 [] := K6.wr W9 (Or.inr sz_b1)
  have N9 := Fr.snoc X9 N6 g_b1
  have f10 : Arv Z h9 b1 k1 .byte (11 : Int32) [(.int (nar .byte v1)), (.int (nar .byte v2)), (.int (nar .byte v3)), (.int (0 : Int32)), (.int (0 : Int32)), (.int (0 : Int32)), (.int (0 : Int32)), (.int (0 : Int32)), (.int (0 : Int32)), (.int (0 : Int32)), (.int (0 : Int32))] (.int (0 : Int32)) := Arv.set Ar8 qk8 S8 Nn8 Hs8 Gf8 (fits_nar_byte _) W9 2 rfl (Nat.le_of_ble_eq_true rfl)
  obtain ⟨v4, hv4⟩ : ∃ z : Int32, z = ((((q4.toUInt64 >>> ((24 : Int32) &&& 0x3f).toInt64.toUInt64).toInt64).toInt32).toInt8.toInt32) := ⟨_, rfl⟩
  have vc11 := f10
  obtain ⟨cl11, Ar11, qk11, S11, Nn11, Hs11, Gf11⟩ := vc11
  have hin11 : ¬ ((3 : Int32) < 0 ∨ cl11.slots.size ≤ ((3 : Int32)).toNatClampNeg) := inb_of S11 ⟨by decide, by decide⟩
  obtain ⟨T12, h12, X12, e12, W12, st12⟩ := stB X9 hx hZ e9 Ar11 (j := (3 : Int32)) hin11 (g := (mkF m 63 #[.val (.int p1), .val (.long q2), .second, .val (.int p3), .val (.long q4), .second, .val (.int (2 : Int32)), .val (.int f), .val (.ref b1), .unset, .unset, .unset, .unset] [(.int v4), (.int (3 : Int32)), (.ref b1)])) rfl rfl (hb hby at_63)
  have O12 := O9.wr W12 g_b1
  have K12 : Keep h0 h12 [] := K9.wr W12 (Or.inr sz_b1)
  have N12 := Fr.snoc X12 N9 g_b1
  have f13 : Arv Z h12 b1 k1 .byte (11 : Int32) [(.int (nar .byte v1)), (.int (nar .byte v2)), (.int (nar .byte v3)), (.int (nar .byte v4)), (.int (0 : Int32)), (.int (0 : Int32)), (.int (0 : Int32)), (.int (0 : Int32)), (.int (0 : Int32)), (.int (0 : Int32)), (.int (0 : Int32))] (.int (0 : Int32)) := Arv.set Ar11 qk11 S11 Nn11 Hs11 Gf11 (fits_nar_byte _) W12 3 rfl (Nat.le_of_ble_eq_true rfl)
  obtain ⟨v5, hv5⟩ : ∃ z : Int32, z = ((((q4.toUInt64 >>> ((32 : Int32) &&& 0x3f).toInt64.toUInt64).toInt64).toInt32).toInt8.toInt32) := ⟨_, rfl⟩
  have vc14 := f13
  obtain ⟨cl14, Ar14, qk14, S14, Nn14, Hs14, Gf14⟩ := vc14
  have hin14 : ¬ ((4 : Int32) < 0 ∨ cl14.slots.size ≤ ((4 : Int32)).toNatClampNeg) := inb_of S14 ⟨by decide, by decide⟩
  obtain ⟨T15, h15, X15, e15, W15, st15⟩ := stB X12 hx hZ e12 Ar14 (j := (4 : Int32)) hin14 (g := (mkF m 74 #[.val (.int p1), .val (.long q2), .second, .val (.int p3), .val (.long q4), .second, .val (.int (2 : Int32)), .val (.int f), .val (.ref b1), .unset, .unset, .unset, .unset] [(.int v5), (.int (4 : Int32)), (.ref b1)])) rfl rfl (hb hby at_74)
  have O15 := O12.wr W15 g_b1
  have K15 : Keep h0 h15 [] := K12.wr W15 (Or.inr sz_b1)
  have N15 := Fr.snoc X15 N12 g_b1
  have f16 : Arv Z h15 b1 k1 .byte (11 : Int32) [(.int (nar .byte v1)), (.int (nar .byte v2)), (.int (nar .byte v3)), (.int (nar .byte v4)), (.int (nar .byte v5)), (.int (0 : Int32)), (.int (0 : Int32)), (.int (0 : Int32)), (.int (0 : Int32)), (.int (0 : Int32)), (.int (0 : Int32))] (.int (0 : Int32)) := Arv.set Ar14 qk14 S14 Nn14 Hs14 Gf14 (fits_nar_byte _) W15 4 rfl (Nat.le_of_ble_eq_true rfl)
  obtain ⟨v6, hv6⟩ : ∃ z : Int32, z = ((((q4.toUInt64 >>> ((40 : Int32) &&& 0x3f).toInt64.toUInt64).toInt64).toInt32).toInt8.toInt32) := ⟨_, rfl⟩
  have vc17 := f16
  obtain ⟨cl17, Ar17, qk17, S17, Nn17, Hs17, Gf17⟩ := vc17
  have hin17 : ¬ ((5 : Int32) < 0 ∨ cl17.slots.size ≤ ((5 : Int32)).toNatClampNeg) := inb_of S17 ⟨by decide, by decide⟩
  obtain ⟨T18, h18, X18, e18, W18, st18⟩ := stB X15 hx hZ e15 Ar17 (j := (5 : Int32)) hin17 (g := (mkF m 85 #[.val (.int p1), .val (.long q2), .second, .val (.int p3), .val (.long q4), .second, .val (.int (2 : Int32)), .val (.int f), .val (.ref b1), .unset, .unset, .unset, .unset] [(.int v6), (.int (5 : Int32)), (.ref b1)])) rfl rfl (hb hby at_85)
  have O18 := O15.wr W18 g_b1
  have K18 : Keep h0 h18 [] := K15.wr W18 (Or.inr sz_b1)
  have N18 := Fr.snoc X18 N15 g_b1
  have f19 : Arv Z h18 b1 k1 .byte (11 : Int32) [(.int (nar .byte v1)), (.int (nar .byte v2)), (.int (nar .byte v3)), (.int (nar .byte v4)), (.int (nar .byte v5)), (.int (nar .byte v6)), (.int (0 : Int32)), (.int (0 : Int32)), (.int (0 : Int32)), (.int (0 : Int32)), (.int (0 : Int32))] (.int (0 : Int32)) := Arv.set Ar17 qk17 S17 Nn17 Hs17 Gf17 (fits_nar_byte _) W18 5 rfl (Nat.le_of_ble_eq_true rfl)
  obtain ⟨v7, hv7⟩ : ∃ z : Int32, z = ((((q4.toUInt64 >>> ((48 : Int32) &&& 0x3f).toInt64.toUInt64).toInt64).toInt32).toInt8.toInt32) := ⟨_, rfl⟩
  have vc20 := f19
  obtain ⟨cl20, Ar20, qk20, S20, Nn20, Hs20, Gf20⟩ := vc20
  have hin20 : ¬ ((6 : Int32) < 0 ∨ cl20.slots.size ≤ ((6 : Int32)).toNatClampNeg) := inb_of S20 ⟨by decide, by decide⟩
  obtain ⟨T21, h21, X21, e21, W21, st21⟩ := stB X18 hx hZ e18 Ar20 (j := (6 : Int32)) hin20 (g := (mkF m 97 #[.val (.int p1), .val (.long q2), .second, .val (.int p3), .val (.long q4), .second, .val (.int (2 : Int32)), .val (.int f), .val (.ref b1), .unset, .unset, .unset, .unset] [(.int v7), (.int (6 : Int32)), (.ref b1)])) rfl rfl (hb hby at_97)
  have O21 := O18.wr W21 g_b1
  have K21 : Keep h0 h21 [] := K18.wr W21 (Or.inr sz_b1)
  have N21 := Fr.snoc X21 N18 g_b1
  have f22 : Arv Z h21 b1 k1 .byte (11 : Int32) [(.int (nar .byte v1)), (.int (nar .byte v2)), (.int (nar .byte v3)), (.int (nar .byte v4)), (.int (nar .byte v5)), (.int (nar .byte v6)), (.int (nar .byte v7)), (.int (0 : Int32)), (.int (0 : Int32)), (.int (0 : Int32)), (.int (0 : Int32))] (.int (0 : Int32)) := Arv.set Ar20 qk20 S20 Nn20 Hs20 Gf20 (fits_nar_byte _) W21 6 rfl (Nat.le_of_ble_eq_true rfl)
  obtain ⟨v8, hv8⟩ : ∃ z : Int32, z = ((((q4.toUInt64 >>> ((56 : Int32) &&& 0x3f).toInt64.toUInt64).toInt64).toInt32).toInt8.toInt32) := ⟨_, rfl⟩
  have vc23 := f22
  obtain ⟨cl23, Ar23, qk23, S23, Nn23, Hs23, Gf23⟩ := vc23
  have hin23 : ¬ ((7 : Int32) < 0 ∨ cl23.slots.size ≤ ((7 : Int32)).toNatClampNeg) := inb_of S23 ⟨by decide, by decide⟩
  obtain ⟨T24, h24, X24, e24, W24, st24⟩ := stB X21 hx hZ e21 Ar23 (j := (7 : Int32)) hin23 (g := (mkF m 109 #[.val (.int p1), .val (.long q2), .second, .val (.int p3), .val (.long q4), .second, .val (.int (2 : Int32)), .val (.int f), .val (.ref b1), .unset, .unset, .unset, .unset] [(.int v8), (.int (7 : Int32)), (.ref b1)])) rfl rfl (hb hby at_109)
  have O24 := O21.wr W24 g_b1
  have K24 : Keep h0 h24 [] := K21.wr W24 (Or.inr sz_b1)
  have N24 := Fr.snoc X24 N21 g_b1
  have f25 : Arv Z h24 b1 k1 .byte (11 : Int32) [(.int (nar .byte v1)), (.int (nar .byte v2)), (.int (nar .byte v3)), (.int (nar .byte v4)), (.int (nar .byte v5)), (.int (nar .byte v6)), (.int (nar .byte v7)), (.int (nar .byte v8)), (.int (0 : Int32)), (.int (0 : Int32)), (.int (0 : Int32))] (.int (0 : Int32)) := Arv.set Ar23 qk23 S23 Nn23 Hs23 Gf23 (fits_nar_byte _) W24 7 rfl (Nat.le_of_ble_eq_true rfl)
  obtain ⟨v9, hv9⟩ : ∃ z : Int32, z = ((((q4.toUInt64 >>> ((4 : Int32) &&& 0x3f).toInt64.toUInt64).toInt64).toInt32).toInt8.toInt32) := ⟨_, rfl⟩
  have vc26 := f25
  obtain ⟨cl26, Ar26, qk26, S26, Nn26, Hs26, Gf26⟩ := vc26
  have hin26 : ¬ ((8 : Int32) < 0 ∨ cl26.slots.size ≤ ((8 : Int32)).toNatClampNeg) := inb_of S26 ⟨by decide, by decide⟩
  obtain ⟨T27, h27, X27, e27, W27, st27⟩ := stB X24 hx hZ e24 Ar26 (j := (8 : Int32)) hin26 (g := (mkF m 120 #[.val (.int p1), .val (.long q2), .second, .val (.int p3), .val (.long q4), .second, .val (.int (2 : Int32)), .val (.int f), .val (.ref b1), .unset, .unset, .unset, .unset] [(.int v9), (.int (8 : Int32)), (.ref b1)])) rfl rfl (hb hby at_120)
  have O27 := O24.wr W27 g_b1
  have K27 : Keep h0 h27 [] := K24.wr W27 (Or.inr sz_b1)
  have N27 := Fr.snoc X27 N24 g_b1
  have f28 : Arv Z h27 b1 k1 .byte (11 : Int32) [(.int (nar .byte v1)), (.int (nar .byte v2)), (.int (nar .byte v3)), (.int (nar .byte v4)), (.int (nar .byte v5)), (.int (nar .byte v6)), (.int (nar .byte v7)), (.int (nar .byte v8)), (.int (nar .byte v9)), (.int (0 : Int32)), (.int (0 : Int32))] (.int (0 : Int32)) := Arv.set Ar26 qk26 S26 Nn26 Hs26 Gf26 (fits_nar_byte _) W27 8 rfl (Nat.le_of_ble_eq_true rfl)
  obtain ⟨v10, hv10⟩ : ∃ z : Int32, z = ((((q4.toUInt64 >>> ((12 : Int32) &&& 0x3f).toInt64.toUInt64).toInt64).toInt32).toInt8.toInt32) := ⟨_, rfl⟩
  have vc29 := f28
  obtain ⟨cl29, Ar29, qk29, S29, Nn29, Hs29, Gf29⟩ := vc29
  have hin29 : ¬ ((9 : Int32) < 0 ∨ cl29.slots.size ≤ ((9 : Int32)).toNatClampNeg) := inb_of S29 ⟨by decide, by decide⟩
  obtain ⟨T30, h30, X30, e30, W30, st30⟩ := stB X27 hx hZ e27 Ar29 (j := (9 : Int32)) hin29 (g := (mkF m 132 #[.val (.int p1), .val (.long q2), .second, .val (.int p3), .val (.long q4), .second, .val (.int (2 : Int32)), .val (.int f), .val (.ref b1), .unset, .unset, .unset, .unset] [(.int v10), (.int (9 : Int32)), (.ref b1)])) rfl rfl (hb hby at_132)
  have O30 := O27.wr W30 g_b1
  have K30 : Keep h0 h30 [] := K27.wr W30 (Or.inr sz_b1)
  have N30 := Fr.snoc X30 N27 g_b1
  have f31 : Arv Z h30 b1 k1 .byte (11 : Int32) [(.int (nar .byte v1)), (.int (nar .byte v2)), (.int (nar .byte v3)), (.int (nar .byte v4)), (.int (nar .byte v5)), (.int (nar .byte v6)), (.int (nar .byte v7)), (.int (nar .byte v8)), (.int (nar .byte v9)), (.int (nar .byte v10)), (.int (0 : Int32))] (.int (0 : Int32)) := Arv.set Ar29 qk29 S29 Nn29 Hs29 Gf29 (fits_nar_byte _) W30 9 rfl (Nat.le_of_ble_eq_true rfl)
  obtain ⟨v11, hv11⟩ : ∃ z : Int32, z = ((((q4.toUInt64 >>> ((20 : Int32) &&& 0x3f).toInt64.toUInt64).toInt64).toInt32).toInt8.toInt32) := ⟨_, rfl⟩
  have vc32 := f31
  obtain ⟨cl32, Ar32, qk32, S32, Nn32, Hs32, Gf32⟩ := vc32
  have hin32 : ¬ ((10 : Int32) < 0 ∨ cl32.slots.size ≤ ((10 : Int32)).toNatClampNeg) := inb_of S32 ⟨by decide, by decide⟩
  obtain ⟨T33, h33, X33, e33, W33, st33⟩ := stB X30 hx hZ e30 Ar32 (j := (10 : Int32)) hin32 (g := (mkF m 144 #[.val (.int p1), .val (.long q2), .second, .val (.int p3), .val (.long q4), .second, .val (.int (2 : Int32)), .val (.int f), .val (.ref b1), .unset, .unset, .unset, .unset] [(.int v11), (.int (10 : Int32)), (.ref b1)])) rfl rfl (hb hby at_144)
  have O33 := O30.wr W33 g_b1
  have K33 : Keep h0 h33 [] := K30.wr W33 (Or.inr sz_b1)
  have N33 := Fr.snoc X33 N30 g_b1
  have f34 : Arv Z h33 b1 k1 .byte (11 : Int32) [(.int (nar .byte v1)), (.int (nar .byte v2)), (.int (nar .byte v3)), (.int (nar .byte v4)), (.int (nar .byte v5)), (.int (nar .byte v6)), (.int (nar .byte v7)), (.int (nar .byte v8)), (.int (nar .byte v9)), (.int (nar .byte v10)), (.int (nar .byte v11))] (.int (0 : Int32)) := Arv.set Ar32 qk32 S32 Nn32 Hs32 Gf32 (fits_nar_byte _) W33 10 rfl (Nat.le_of_ble_eq_true rfl)
  obtain ⟨v12, hv12⟩ : ∃ z : Int32, z = (f.toInt8.toInt32) := ⟨_, rfl⟩
  have vc35 := f34
  obtain ⟨cl35, Ar35, qk35, S35, Nn35, Hs35, Gf35⟩ := vc35
  have hin35 : ¬ ((2 : Int32) < 0 ∨ cl35.slots.size ≤ ((2 : Int32)).toNatClampNeg) := inb_of S35 ⟨by decide, by decide⟩
  obtain ⟨T36, h36, X36, e36, W36, st36⟩ := stB X33 hx hZ e33 Ar35 (j := (2 : Int32)) hin35 (g := (mkF m 152 #[.val (.int p1), .val (.long q2), .second, .val (.int p3), .val (.long q4), .second, .val (.int (2 : Int32)), .val (.int f), .val (.ref b1), .unset, .unset, .unset, .unset] [(.int v12), (.int (2 : Int32)), (.ref b1)])) rfl rfl (hb hby at_152)
  have O36 := O33.wr W36 g_b1
  have K36 : Keep h0 h36 [] := K33.wr W36 (Or.inr sz_b1)
  have N36 := Fr.snoc X36 N33 g_b1
  have f37 : Arv Z h36 b1 k1 .byte (11 : Int32) [(.int (nar .byte v1)), (.int (nar .byte v2)), (.int (nar .byte v12)), (.int (nar .byte v4)), (.int (nar .byte v5)), (.int (nar .byte v6)), (.int (nar .byte v7)), (.int (nar .byte v8)), (.int (nar .byte v9)), (.int (nar .byte v10)), (.int (nar .byte v11))] (.int (0 : Int32)) := Arv.set Ar35 qk35 S35 Nn35 Hs35 Gf35 (fits_nar_byte _) W36 2 rfl (Nat.le_of_ble_eq_true rfl)
  obtain ⟨v13, hv13⟩ : ∃ z : Int32, z = ((((q2.toUInt64 >>> ((48 : Int32) &&& 0x3f).toInt64.toUInt64).toInt64).toInt32).toInt8.toInt32) := ⟨_, rfl⟩
  have vc38 := f37
  obtain ⟨cl38, Ar38, qk38, S38, Nn38, Hs38, Gf38⟩ := vc38
  have hin38 : ¬ (((2 : Int32) + (1 : Int32)) < 0 ∨ cl38.slots.size ≤ (((2 : Int32) + (1 : Int32))).toNatClampNeg) := inb_of S38 ⟨by decide, by decide⟩
  obtain ⟨T39, h39, X39, e39, W39, st39⟩ := stB X36 hx hZ e36 Ar38 (j := ((2 : Int32) + (1 : Int32))) hin38 (g := (mkF m 165 #[.val (.int p1), .val (.long q2), .second, .val (.int p3), .val (.long q4), .second, .val (.int (2 : Int32)), .val (.int f), .val (.ref b1), .unset, .unset, .unset, .unset] [(.int v13), (.int ((2 : Int32) + (1 : Int32))), (.ref b1)])) rfl rfl (hb hby at_165)
  have O39 := O36.wr W39 g_b1
  have K39 : Keep h0 h39 [] := K36.wr W39 (Or.inr sz_b1)
  have N39 := Fr.snoc X39 N36 g_b1
  have f40 : Arv Z h39 b1 k1 .byte (11 : Int32) [(.int (nar .byte v1)), (.int (nar .byte v2)), (.int (nar .byte v12)), (.int (nar .byte v13)), (.int (nar .byte v5)), (.int (nar .byte v6)), (.int (nar .byte v7)), (.int (nar .byte v8)), (.int (nar .byte v9)), (.int (nar .byte v10)), (.int (nar .byte v11))] (.int (0 : Int32)) := Arv.set Ar38 qk38 S38 Nn38 Hs38 Gf38 (fits_nar_byte _) W39 3 rfl (Nat.le_of_ble_eq_true rfl)
  obtain ⟨v14, hv14⟩ : ∃ z : Int32, z = ((((q2.toUInt64 >>> ((40 : Int32) &&& 0x3f).toInt64.toUInt64).toInt64).toInt32).toInt8.toInt32) := ⟨_, rfl⟩
  have vc41 := f40
  obtain ⟨cl41, Ar41, qk41, S41, Nn41, Hs41, Gf41⟩ := vc41
  have hin41 : ¬ (((2 : Int32) + (2 : Int32)) < 0 ∨ cl41.slots.size ≤ (((2 : Int32) + (2 : Int32))).toNatClampNeg) := inb_of S41 ⟨by decide, by decide⟩
  obtain ⟨T42, h42, X42, e42, W42, st42⟩ := stB X39 hx hZ e39 Ar41 (j := ((2 : Int32) + (2 : Int32))) hin41 (g := (mkF m 178 #[.val (.int p1), .val (.long q2), .second, .val (.int p3), .val (.long q4), .second, .val (.int (2 : Int32)), .val (.int f), .val (.ref b1), .unset, .unset, .unset, .unset] [(.int v14), (.int ((2 : Int32) + (2 : Int32))), (.ref b1)])) rfl rfl (hb hby at_178)
  have O42 := O39.wr W42 g_b1
  have K42 : Keep h0 h42 [] := K39.wr W42 (Or.inr sz_b1)
  have N42 := Fr.snoc X42 N39 g_b1
  have f43 : Arv Z h42 b1 k1 .byte (11 : Int32) [(.int (nar .byte v1)), (.int (nar .byte v2)), (.int (nar .byte v12)), (.int (nar .byte v13)), (.int (nar .byte v14)), (.int (nar .byte v6)), (.int (nar .byte v7)), (.int (nar .byte v8)), (.int (nar .byte v9)), (.int (nar .byte v10)), (.int (nar .byte v11))] (.int (0 : Int32)) := Arv.set Ar41 qk41 S41 Nn41 Hs41 Gf41 (fits_nar_byte _) W42 4 rfl (Nat.le_of_ble_eq_true rfl)
  obtain ⟨v15, hv15⟩ : ∃ z : Int32, z = ((((q2.toUInt64 >>> ((32 : Int32) &&& 0x3f).toInt64.toUInt64).toInt64).toInt32).toInt8.toInt32) := ⟨_, rfl⟩
  have vc44 := f43
  obtain ⟨cl44, Ar44, qk44, S44, Nn44, Hs44, Gf44⟩ := vc44
  have hin44 : ¬ (((2 : Int32) + (3 : Int32)) < 0 ∨ cl44.slots.size ≤ (((2 : Int32) + (3 : Int32))).toNatClampNeg) := inb_of S44 ⟨by decide, by decide⟩
  obtain ⟨T45, h45, X45, e45, W45, st45⟩ := stB X42 hx hZ e42 Ar44 (j := ((2 : Int32) + (3 : Int32))) hin44 (g := (mkF m 191 #[.val (.int p1), .val (.long q2), .second, .val (.int p3), .val (.long q4), .second, .val (.int (2 : Int32)), .val (.int f), .val (.ref b1), .unset, .unset, .unset, .unset] [(.int v15), (.int ((2 : Int32) + (3 : Int32))), (.ref b1)])) rfl rfl (hb hby at_191)
  have O45 := O42.wr W45 g_b1
  have K45 : Keep h0 h45 [] := K42.wr W45 (Or.inr sz_b1)
  have N45 := Fr.snoc X45 N42 g_b1
  have f46 : Arv Z h45 b1 k1 .byte (11 : Int32) [(.int (nar .byte v1)), (.int (nar .byte v2)), (.int (nar .byte v12)), (.int (nar .byte v13)), (.int (nar .byte v14)), (.int (nar .byte v15)), (.int (nar .byte v7)), (.int (nar .byte v8)), (.int (nar .byte v9)), (.int (nar .byte v10)), (.int (nar .byte v11))] (.int (0 : Int32)) := Arv.set Ar44 qk44 S44 Nn44 Hs44 Gf44 (fits_nar_byte _) W45 5 rfl (Nat.le_of_ble_eq_true rfl)
  obtain ⟨v16, hv16⟩ : ∃ z : Int32, z = ((((q2.toUInt64 >>> ((24 : Int32) &&& 0x3f).toInt64.toUInt64).toInt64).toInt32).toInt8.toInt32) := ⟨_, rfl⟩
  have vc47 := f46
  obtain ⟨cl47, Ar47, qk47, S47, Nn47, Hs47, Gf47⟩ := vc47
  have hin47 : ¬ (((2 : Int32) + (4 : Int32)) < 0 ∨ cl47.slots.size ≤ (((2 : Int32) + (4 : Int32))).toNatClampNeg) := inb_of S47 ⟨by decide, by decide⟩
  obtain ⟨T48, h48, X48, e48, W48, st48⟩ := stB X45 hx hZ e45 Ar47 (j := ((2 : Int32) + (4 : Int32))) hin47 (g := (mkF m 204 #[.val (.int p1), .val (.long q2), .second, .val (.int p3), .val (.long q4), .second, .val (.int (2 : Int32)), .val (.int f), .val (.ref b1), .unset, .unset, .unset, .unset] [(.int v16), (.int ((2 : Int32) + (4 : Int32))), (.ref b1)])) rfl rfl (hb hby at_204)
  have O48 := O45.wr W48 g_b1
  have K48 : Keep h0 h48 [] := K45.wr W48 (Or.inr sz_b1)
  have N48 := Fr.snoc X48 N45 g_b1
  have f49 : Arv Z h48 b1 k1 .byte (11 : Int32) [(.int (nar .byte v1)), (.int (nar .byte v2)), (.int (nar .byte v12)), (.int (nar .byte v13)), (.int (nar .byte v14)), (.int (nar .byte v15)), (.int (nar .byte v16)), (.int (nar .byte v8)), (.int (nar .byte v9)), (.int (nar .byte v10)), (.int (nar .byte v11))] (.int (0 : Int32)) := Arv.set Ar47 qk47 S47 Nn47 Hs47 Gf47 (fits_nar_byte _) W48 6 rfl (Nat.le_of_ble_eq_true rfl)
  obtain ⟨v17, hv17⟩ : ∃ z : Int32, z = ((((q2.toUInt64 >>> ((16 : Int32) &&& 0x3f).toInt64.toUInt64).toInt64).toInt32).toInt8.toInt32) := ⟨_, rfl⟩
  have vc50 := f49
  obtain ⟨cl50, Ar50, qk50, S50, Nn50, Hs50, Gf50⟩ := vc50
  have hin50 : ¬ (((2 : Int32) + (5 : Int32)) < 0 ∨ cl50.slots.size ≤ (((2 : Int32) + (5 : Int32))).toNatClampNeg) := inb_of S50 ⟨by decide, by decide⟩
  obtain ⟨T51, h51, X51, e51, W51, st51⟩ := stB X48 hx hZ e48 Ar50 (j := ((2 : Int32) + (5 : Int32))) hin50 (g := (mkF m 217 #[.val (.int p1), .val (.long q2), .second, .val (.int p3), .val (.long q4), .second, .val (.int (2 : Int32)), .val (.int f), .val (.ref b1), .unset, .unset, .unset, .unset] [(.int v17), (.int ((2 : Int32) + (5 : Int32))), (.ref b1)])) rfl rfl (hb hby at_217)
  have O51 := O48.wr W51 g_b1
  have K51 : Keep h0 h51 [] := K48.wr W51 (Or.inr sz_b1)
  have N51 := Fr.snoc X51 N48 g_b1
  have f52 : Arv Z h51 b1 k1 .byte (11 : Int32) [(.int (nar .byte v1)), (.int (nar .byte v2)), (.int (nar .byte v12)), (.int (nar .byte v13)), (.int (nar .byte v14)), (.int (nar .byte v15)), (.int (nar .byte v16)), (.int (nar .byte v17)), (.int (nar .byte v9)), (.int (nar .byte v10)), (.int (nar .byte v11))] (.int (0 : Int32)) := Arv.set Ar50 qk50 S50 Nn50 Hs50 Gf50 (fits_nar_byte _) W51 7 rfl (Nat.le_of_ble_eq_true rfl)
  obtain ⟨v18, hv18⟩ : ∃ z : Int32, z = ((((q2.toUInt64 >>> ((8 : Int32) &&& 0x3f).toInt64.toUInt64).toInt64).toInt32).toInt8.toInt32) := ⟨_, rfl⟩
  have vc53 := f52
  obtain ⟨cl53, Ar53, qk53, S53, Nn53, Hs53, Gf53⟩ := vc53
  have hin53 : ¬ (((2 : Int32) + (6 : Int32)) < 0 ∨ cl53.slots.size ≤ (((2 : Int32) + (6 : Int32))).toNatClampNeg) := inb_of S53 ⟨by decide, by decide⟩
  obtain ⟨T54, h54, X54, e54, W54, st54⟩ := stB X51 hx hZ e51 Ar53 (j := ((2 : Int32) + (6 : Int32))) hin53 (g := (mkF m 231 #[.val (.int p1), .val (.long q2), .second, .val (.int p3), .val (.long q4), .second, .val (.int (2 : Int32)), .val (.int f), .val (.ref b1), .unset, .unset, .unset, .unset] [(.int v18), (.int ((2 : Int32) + (6 : Int32))), (.ref b1)])) rfl rfl (hb hby at_231)
  have O54 := O51.wr W54 g_b1
  have K54 : Keep h0 h54 [] := K51.wr W54 (Or.inr sz_b1)
  have N54 := Fr.snoc X54 N51 g_b1
  have f55 : Arv Z h54 b1 k1 .byte (11 : Int32) [(.int (nar .byte v1)), (.int (nar .byte v2)), (.int (nar .byte v12)), (.int (nar .byte v13)), (.int (nar .byte v14)), (.int (nar .byte v15)), (.int (nar .byte v16)), (.int (nar .byte v17)), (.int (nar .byte v18)), (.int (nar .byte v10)), (.int (nar .byte v11))] (.int (0 : Int32)) := Arv.set Ar53 qk53 S53 Nn53 Hs53 Gf53 (fits_nar_byte _) W54 8 rfl (Nat.le_of_ble_eq_true rfl)
  obtain ⟨v19, hv19⟩ : ∃ z : Int32, z = ((q2.toInt32).toInt8.toInt32) := ⟨_, rfl⟩
  have vc56 := f55
  obtain ⟨cl56, Ar56, qk56, S56, Nn56, Hs56, Gf56⟩ := vc56
  have hin56 : ¬ (((2 : Int32) + (7 : Int32)) < 0 ∨ cl56.slots.size ≤ (((2 : Int32) + (7 : Int32))).toNatClampNeg) := inb_of S56 ⟨by decide, by decide⟩
  obtain ⟨T57, h57, X57, e57, W57, st57⟩ := stB X54 hx hZ e54 Ar56 (j := ((2 : Int32) + (7 : Int32))) hin56 (g := (mkF m 242 #[.val (.int p1), .val (.long q2), .second, .val (.int p3), .val (.long q4), .second, .val (.int (2 : Int32)), .val (.int f), .val (.ref b1), .unset, .unset, .unset, .unset] [(.int v19), (.int ((2 : Int32) + (7 : Int32))), (.ref b1)])) rfl rfl (hb hby at_242)
  have O57 := O54.wr W57 g_b1
  have K57 : Keep h0 h57 [] := K54.wr W57 (Or.inr sz_b1)
  have N57 := Fr.snoc X57 N54 g_b1
  have f58 : Arv Z h57 b1 k1 .byte (11 : Int32) [(.int (nar .byte v1)), (.int (nar .byte v2)), (.int (nar .byte v12)), (.int (nar .byte v13)), (.int (nar .byte v14)), (.int (nar .byte v15)), (.int (nar .byte v16)), (.int (nar .byte v17)), (.int (nar .byte v18)), (.int (nar .byte v19)), (.int (nar .byte v11))] (.int (0 : Int32)) := Arv.set Ar56 qk56 S56 Nn56 Hs56 Gf56 (fits_nar_byte _) W57 9 rfl (Nat.le_of_ble_eq_true rfl)
  obtain ⟨LL59, X59, N59⟩ : ∃ LL, Stand p l e room_1 s m #[(.int p1), (.long q2), (.int p3), (.long q4)] below meth c T57 LL 1 11 ∧ Fr n0 LL := ⟨_, X57, N57⟩
  obtain ⟨_, _, ⟨T60, L60, k60, n60⟩, -, X60, ⟨Lc60, hQ60, l60, y60, z60⟩, st60⟩ := Jvm.LawKit.callS X59 hx (y := (⟨"com/example/rattan/rattan/storage/label/ComponentCodeDecodePinLaw", "expected", "(IJ)J"⟩ : MethodName)) hown (mvT hZ (hw _ (List.mem_of_getElem? (i := 3) rfl))) (mvT hZ (hw _ (List.mem_of_getElem? (i := 4) rfl))) (mvT hZ (hw _ (List.mem_of_getElem? (i := 5) rfl))) (mvT hZ (hw _ (List.mem_of_getElem? (i := 6) rfl))) (by decide) (backOf (W := 0) (r_exp l Z a0 hw [] s_R s_F s_E s_L cl_R cl_F cl_E k_L h57 n0 O57 G0 f (q2 &&& (72057594037927935 : Int64)) hf1 hf2 (own_low0 q2) (own_low1 q2)) hZ (hw _ (List.mem_of_getElem? (i := 6) rfl)) (hw _ (List.mem_of_getElem? (i := 5) rfl)) (by decide) (by decide)) (g := (mkF m 254 #[.val (.int p1), .val (.long q2), .second, .val (.int p3), .val (.long q4), .second, .val (.int (2 : Int32)), .val (.int f), .val (.ref b1), .val (.long (q2 &&& (72057594037927935 : Int64))), .second, .unset, .unset] [(.long (q2 &&& (72057594037927935 : Int64))), (.int f)])) rfl (by rw [hml]; rfl) (argsL := [(.int f), (.long (q2 &&& (72057594037927935 : Int64)))]) (rest := []) (lenOf pd_1 rfl) rfl (by show 2 * 0 + _ ≤ _; exact Nat.le_of_eq rfl) (hb hby at_254) (fun _ _ => ⟨rfl, e57, (by decide : 1 + 0 ≤ _), (by decide : 11 + 0 ≤ _)⟩)
  dsimp only [Pt.U, Pt.locs, Pt.cells, Pt.slots] at X60 l60 y60 z60 st60 hQ60
  subst l60 y60 z60
  obtain ⟨w60, rfl, N60q, e60, V60⟩ := hQ60
  have N60 := Fr.app N59 N60q
  obtain ⟨_, _, ⟨T61, L61, k61, n61⟩, -, X61, ⟨Lc61, hQ61, l61, y61, z61⟩, st61⟩ := Jvm.LawKit.callS X60 hx (y := (⟨"com/example/rattan/rattan/storage/label/ComponentCode", "decode", "([BI)J"⟩ : MethodName)) hown (mvT hZ (hw _ (List.mem_of_getElem? (i := 11) rfl))) (mvT hZ (hw _ (List.mem_of_getElem? (i := 12) rfl))) (mvT hZ (hw _ (List.mem_of_getElem? (i := 13) rfl))) (mvT hZ (hw _ (List.mem_of_getElem? (i := 14) rfl))) (by decide) (backOf (W := 0) (r_dec l Z a0 hw [] s_R s_F s_E s_L cl_R cl_F cl_E k_L h57 n0 O57 G0 b1 k1 _ (2 : Int32) (nar .byte v12) (nar .byte v13) (nar .byte v14) (nar .byte v15) (nar .byte v16) (nar .byte v17) (nar .byte v18) (nar .byte v19) (q2 &&& (72057594037927935 : Int64)).toInt f f58 (by rw [hv12]; exact own_g hf1 hf2) hf1 hf2 (own_low0 q2) (own_low1 q2) ⟨by decide, by decide⟩ rfl ⟨by decide, by decide⟩ rfl ⟨by decide, by decide⟩ rfl ⟨by decide, by decide⟩ rfl ⟨by decide, by decide⟩ rfl ⟨by decide, by decide⟩ rfl ⟨by decide, by decide⟩ rfl ⟨by decide, by decide⟩ rfl (by rw [hv13]; exact own_Y1 q2) (by rw [hv14]; exact own_Y2 q2) (by rw [hv15]; exact own_Y3 q2) (by rw [hv16]; exact own_Y4 q2) (by rw [hv17]; exact own_Y5 q2) (by rw [hv18]; exact own_Y6 q2) (by rw [hv19]; exact own_Y7 q2)) hZ (hw _ (List.mem_of_getElem? (i := 14) rfl)) (hw _ (List.mem_of_getElem? (i := 13) rfl)) (by decide) (by decide)) (g := (mkF m 263 #[.val (.int p1), .val (.long q2), .second, .val (.int p3), .val (.long q4), .second, .val (.int (2 : Int32)), .val (.int f), .val (.ref b1), .val (.long (q2 &&& (72057594037927935 : Int64))), .second, .val (.long w60), .second] [(.int (2 : Int32)), (.ref b1)])) rfl (by rw [hml]; rfl) (argsL := [(.ref b1), (.int (2 : Int32))]) (rest := []) (lenOf pd_2 rfl) rfl (by show 2 * 0 + _ ≤ _; exact Nat.le_of_eq rfl) (hb hby at_263) (fun _ _ => ⟨rfl, e60, (by decide : 1 + 0 ≤ _), (by decide : 11 + 0 ≤ _)⟩)
  dsimp only [Pt.U, Pt.locs, Pt.cells, Pt.slots] at X61 l61 y61 z61 st61 hQ61
  subst l61 y61 z61
  obtain ⟨w61, rfl, N61q, e61, V61⟩ := hQ61
  have N61 := Fr.app N60 N61q
  obtain ⟨fs, hr, hrun, hended, hW, hsame⟩ := X61.leave (v := some (.int (1 : Int32))) (fun h => by rw [Bd.returns] at h; cases h)
  refine ⟨_, _, pre0 _ ?_, hrun, hended, _, _, rfl, ?_, ⟨_, rfl⟩, hW, hsame.mono (by decide) (by decide)⟩
  · show Steps p.tables e below (s₁.setTop (mkF m 0 #[.val (.int p1), .val (.long q2), .second, .val (.int p3), .val (.long q4), .second, .unset, .unset, .unset, .unset, .unset, .unset, .unset] [])) _
    refine XS.iloadN X0.here hx rfl (hb hby at_0) rfl ?_
    refine XS.iconst X0.here hx rfl (hb hby at_1) ?_
    refine XS.iand X0.here hx rfl (hb hby at_2) rfl ?_
    show Steps p.tables e below (s₁.setTop (mkF m 3 #[.val (.int p1), .val (.long q2), .second, .val (.int p3), .val (.long q4), .second, .unset, .unset, .unset, .unset, .unset, .unset, .unset] [(.int (p3 &&& (3 : Int32)))])) _
    rw [hs]
    refine XS.istore X0.here hx rfl (hb hby at_3) rfl (l' := #[.val (.int p1), .val (.long q2), .second, .val (.int p3), .val (.long q4), .second, .val (.int (2 : Int32)), .unset, .unset, .unset, .unset, .unset, .unset]) rfl ?_
    show Steps p.tables e below (s₁.setTop (mkF m 5 #[.val (.int p1), .val (.long q2), .second, .val (.int p3), .val (.long q4), .second, .val (.int (2 : Int32)), .unset, .unset, .unset, .unset, .unset, .unset] [])) _
    refine XS.iconst X0.here hx rfl (hb hby at_5) ?_
    refine XS.iloadN X0.here hx rfl (hb hby at_6) rfl ?_
    show Steps p.tables e below (s₁.setTop (mkF m 7 #[.val (.int p1), .val (.long q2), .second, .val (.int p3), .val (.long q4), .second, .val (.int (2 : Int32)), .unset, .unset, .unset, .unset, .unset, .unset] [(.int p1), (.int (1 : Int32))])) _
    refine X0.ldcInt hx hown (mvT hZ (hw _ (List.mem_of_getElem? (i := 0) rfl))) (g := (mkF m 7 #[.val (.int p1), .val (.long q2), .second, .val (.int p3), .val (.long q4), .second, .val (.int (2 : Int32)), .unset, .unset, .unset, .unset, .unset, .unset] [(.int p1), (.int (1 : Int32))])) rfl (hb hby at_7) _ ?_
    show Steps p.tables e below (s₁.setTop (mkF m 9 #[.val (.int p1), .val (.long q2), .second, .val (.int p3), .val (.long q4), .second, .val (.int (2 : Int32)), .unset, .unset, .unset, .unset, .unset, .unset] [(.int (2147483647 : Int32)), (.int p1), (.int (1 : Int32))])) _
    refine XS.iand X0.here hx rfl (hb hby at_9) rfl ?_
    refine XS.sipush X0.here hx rfl (hb hby at_10) ?_
    show Steps p.tables e below (s₁.setTop (mkF m 13 #[.val (.int p1), .val (.long q2), .second, .val (.int p3), .val (.long q4), .second, .val (.int (2 : Int32)), .unset, .unset, .unset, .unset, .unset, .unset] [(.int (254 : Int32)), (.int (p1 &&& (2147483647 : Int32))), (.int (1 : Int32))])) _
    refine iremM X0 hx rfl (hb hby at_13) rfl (by decide) ?_
    show Steps p.tables e below (s₁.setTop (mkF m 14 #[.val (.int p1), .val (.long q2), .second, .val (.int p3), .val (.long q4), .second, .val (.int (2 : Int32)), .unset, .unset, .unset, .unset, .unset, .unset] [(.int ((p1 &&& (2147483647 : Int32)) % (254 : Int32))), (.int (1 : Int32))])) _
    refine XS.iadd X0.here hx rfl (hb hby at_14) rfl ?_
    show Steps p.tables e below (s₁.setTop (mkF m 15 #[.val (.int p1), .val (.long q2), .second, .val (.int p3), .val (.long q4), .second, .val (.int (2 : Int32)), .unset, .unset, .unset, .unset, .unset, .unset] [(.int ((1 : Int32) + ((p1 &&& (2147483647 : Int32)) % (254 : Int32))))])) _
    rw [hf]
    refine XS.istore X0.here hx rfl (hb hby at_15) rfl (l' := #[.val (.int p1), .val (.long q2), .second, .val (.int p3), .val (.long q4), .second, .val (.int (2 : Int32)), .val (.int f), .unset, .unset, .unset, .unset, .unset]) rfl ?_
    show Steps p.tables e below (s₁.setTop (mkF m 17 #[.val (.int p1), .val (.long q2), .second, .val (.int p3), .val (.long q4), .second, .val (.int (2 : Int32)), .val (.int f), .unset, .unset, .unset, .unset, .unset] [])) _
    refine XS.bipush X0.here hx rfl (hb hby at_17) ?_
    show Steps p.tables e below (s₁.setTop (mkF m 19 #[.val (.int p1), .val (.long q2), .second, .val (.int p3), .val (.long q4), .second, .val (.int (2 : Int32)), .val (.int f), .unset, .unset, .unset, .unset, .unset] [(.int (11 : Int32))])) _
    refine st1 _ ?_
    show Steps p.tables e below (T1.setTop (mkF m 21 #[.val (.int p1), .val (.long q2), .second, .val (.int p3), .val (.long q4), .second, .val (.int (2 : Int32)), .val (.int f), .unset, .unset, .unset, .unset, .unset] [(.ref b1)])) _
    refine XS.astore X1.here hx rfl (hb hby at_21) rfl rfl (l' := #[.val (.int p1), .val (.long q2), .second, .val (.int p3), .val (.long q4), .second, .val (.int (2 : Int32)), .val (.int f), .val (.ref b1), .unset, .unset, .unset, .unset]) rfl ?_
    show Steps p.tables e below (T1.setTop (mkF m 23 #[.val (.int p1), .val (.long q2), .second, .val (.int p3), .val (.long q4), .second, .val (.int (2 : Int32)), .val (.int f), .val (.ref b1), .unset, .unset, .unset, .unset] [])) _
    refine XS.aload X1.here hx rfl (hb hby at_23) rfl rfl ?_
    refine XS.iconst X1.here hx rfl (hb hby at_25) ?_
    refine XS.lload X1.here hx rfl (hb hby at_26) rfl ?_
    refine XS.l2i X1.here hx rfl (hb hby at_28) rfl ?_
    refine XS.i2b X1.here hx rfl (hb hby at_29) rfl ?_
    show Steps p.tables e below (T1.setTop (mkF m 30 #[.val (.int p1), .val (.long q2), .second, .val (.int p3), .val (.long q4), .second, .val (.int (2 : Int32)), .val (.int f), .val (.ref b1), .unset, .unset, .unset, .unset] [(.int ((q4.toInt32).toInt8.toInt32)), (.int (0 : Int32)), (.ref b1)])) _
    rw [← hv1]
    show Steps p.tables e below (T1.setTop (mkF m 30 #[.val (.int p1), .val (.long q2), .second, .val (.int p3), .val (.long q4), .second, .val (.int (2 : Int32)), .val (.int f), .val (.ref b1), .unset, .unset, .unset, .unset] [(.int v1), (.int (0 : Int32)), (.ref b1)])) _
    refine st3 _ ?_
    show Steps p.tables e below (T3.setTop (mkF m 31 #[.val (.int p1), .val (.long q2), .second, .val (.int p3), .val (.long q4), .second, .val (.int (2 : Int32)), .val (.int f), .val (.ref b1), .unset, .unset, .unset, .unset] [])) _
    refine XS.aload X3.here hx rfl (hb hby at_31) rfl rfl ?_
    refine XS.iconst X3.here hx rfl (hb hby at_33) ?_
    refine XS.lload X3.here hx rfl (hb hby at_34) rfl ?_
    refine XS.bipush X3.here hx rfl (hb hby at_36) ?_
    refine XS.lushr X3.here hx rfl (hb hby at_38) rfl ?_
    show Steps p.tables e below (T3.setTop (mkF m 39 #[.val (.int p1), .val (.long q2), .second, .val (.int p3), .val (.long q4), .second, .val (.int (2 : Int32)), .val (.int f), .val (.ref b1), .unset, .unset, .unset, .unset] [(.long ((q4.toUInt64 >>> ((8 : Int32) &&& 0x3f).toInt64.toUInt64).toInt64)), (.int (1 : Int32)), (.ref b1)])) _
    refine XS.l2i X3.here hx rfl (hb hby at_39) rfl ?_
    refine XS.i2b X3.here hx rfl (hb hby at_40) rfl ?_
    show Steps p.tables e below (T3.setTop (mkF m 41 #[.val (.int p1), .val (.long q2), .second, .val (.int p3), .val (.long q4), .second, .val (.int (2 : Int32)), .val (.int f), .val (.ref b1), .unset, .unset, .unset, .unset] [(.int ((((q4.toUInt64 >>> ((8 : Int32) &&& 0x3f).toInt64.toUInt64).toInt64).toInt32).toInt8.toInt32)), (.int (1 : Int32)), (.ref b1)])) _
    rw [← hv2]
    show Steps p.tables e below (T3.setTop (mkF m 41 #[.val (.int p1), .val (.long q2), .second, .val (.int p3), .val (.long q4), .second, .val (.int (2 : Int32)), .val (.int f), .val (.ref b1), .unset, .unset, .unset, .unset] [(.int v2), (.int (1 : Int32)), (.ref b1)])) _
    refine st6 _ ?_
    show Steps p.tables e below (T6.setTop (mkF m 42 #[.val (.int p1), .val (.long q2), .second, .val (.int p3), .val (.long q4), .second, .val (.int (2 : Int32)), .val (.int f), .val (.ref b1), .unset, .unset, .unset, .unset] [])) _
    refine XS.aload X6.here hx rfl (hb hby at_42) rfl rfl ?_
    refine XS.iconst X6.here hx rfl (hb hby at_44) ?_
    refine XS.lload X6.here hx rfl (hb hby at_45) rfl ?_
    refine XS.bipush X6.here hx rfl (hb hby at_47) ?_
    refine XS.lushr X6.here hx rfl (hb hby at_49) rfl ?_
    show Steps p.tables e below (T6.setTop (mkF m 50 #[.val (.int p1), .val (.long q2), .second, .val (.int p3), .val (.long q4), .second, .val (.int (2 : Int32)), .val (.int f), .val (.ref b1), .unset, .unset, .unset, .unset] [(.long ((q4.toUInt64 >>> ((16 : Int32) &&& 0x3f).toInt64.toUInt64).toInt64)), (.int (2 : Int32)), (.ref b1)])) _
    refine XS.l2i X6.here hx rfl (hb hby at_50) rfl ?_
    refine XS.i2b X6.here hx rfl (hb hby at_51) rfl ?_
    show Steps p.tables e below (T6.setTop (mkF m 52 #[.val (.int p1), .val (.long q2), .second, .val (.int p3), .val (.long q4), .second, .val (.int (2 : Int32)), .val (.int f), .val (.ref b1), .unset, .unset, .unset, .unset] [(.int ((((q4.toUInt64 >>> ((16 : Int32) &&& 0x3f).toInt64.toUInt64).toInt64).toInt32).toInt8.toInt32)), (.int (2 : Int32)), (.ref b1)])) _
    rw [← hv3]
    show Steps p.tables e below (T6.setTop (mkF m 52 #[.val (.int p1), .val (.long q2), .second, .val (.int p3), .val (.long q4), .second, .val (.int (2 : Int32)), .val (.int f), .val (.ref b1), .unset, .unset, .unset, .unset] [(.int v3), (.int (2 : Int32)), (.ref b1)])) _
    refine st9 _ ?_
    show Steps p.tables e below (T9.setTop (mkF m 53 #[.val (.int p1), .val (.long q2), .second, .val (.int p3), .val (.long q4), .second, .val (.int (2 : Int32)), .val (.int f), .val (.ref b1), .unset, .unset, .unset, .unset] [])) _
    refine XS.aload X9.here hx rfl (hb hby at_53) rfl rfl ?_
    refine XS.iconst X9.here hx rfl (hb hby at_55) ?_
    refine XS.lload X9.here hx rfl (hb hby at_56) rfl ?_
    refine XS.bipush X9.here hx rfl (hb hby at_58) ?_
    refine XS.lushr X9.here hx rfl (hb hby at_60) rfl ?_
    show Steps p.tables e below (T9.setTop (mkF m 61 #[.val (.int p1), .val (.long q2), .second, .val (.int p3), .val (.long q4), .second, .val (.int (2 : Int32)), .val (.int f), .val (.ref b1), .unset, .unset, .unset, .unset] [(.long ((q4.toUInt64 >>> ((24 : Int32) &&& 0x3f).toInt64.toUInt64).toInt64)), (.int (3 : Int32)), (.ref b1)])) _
    refine XS.l2i X9.here hx rfl (hb hby at_61) rfl ?_
    refine XS.i2b X9.here hx rfl (hb hby at_62) rfl ?_
    show Steps p.tables e below (T9.setTop (mkF m 63 #[.val (.int p1), .val (.long q2), .second, .val (.int p3), .val (.long q4), .second, .val (.int (2 : Int32)), .val (.int f), .val (.ref b1), .unset, .unset, .unset, .unset] [(.int ((((q4.toUInt64 >>> ((24 : Int32) &&& 0x3f).toInt64.toUInt64).toInt64).toInt32).toInt8.toInt32)), (.int (3 : Int32)), (.ref b1)])) _
    rw [← hv4]
    show Steps p.tables e below (T9.setTop (mkF m 63 #[.val (.int p1), .val (.long q2), .second, .val (.int p3), .val (.long q4), .second, .val (.int (2 : Int32)), .val (.int f), .val (.ref b1), .unset, .unset, .unset, .unset] [(.int v4), (.int (3 : Int32)), (.ref b1)])) _
    refine st12 _ ?_
    show Steps p.tables e below (T12.setTop (mkF m 64 #[.val (.int p1), .val (.long q2), .second, .val (.int p3), .val (.long q4), .second, .val (.int (2 : Int32)), .val (.int f), .val (.ref b1), .unset, .unset, .unset, .unset] [])) _
    refine XS.aload X12.here hx rfl (hb hby at_64) rfl rfl ?_
    refine XS.iconst X12.here hx rfl (hb hby at_66) ?_
    refine XS.lload X12.here hx rfl (hb hby at_67) rfl ?_
    refine XS.bipush X12.here hx rfl (hb hby at_69) ?_
    refine XS.lushr X12.here hx rfl (hb hby at_71) rfl ?_
    show Steps p.tables e below (T12.setTop (mkF m 72 #[.val (.int p1), .val (.long q2), .second, .val (.int p3), .val (.long q4), .second, .val (.int (2 : Int32)), .val (.int f), .val (.ref b1), .unset, .unset, .unset, .unset] [(.long ((q4.toUInt64 >>> ((32 : Int32) &&& 0x3f).toInt64.toUInt64).toInt64)), (.int (4 : Int32)), (.ref b1)])) _
    refine XS.l2i X12.here hx rfl (hb hby at_72) rfl ?_
    refine XS.i2b X12.here hx rfl (hb hby at_73) rfl ?_
    show Steps p.tables e below (T12.setTop (mkF m 74 #[.val (.int p1), .val (.long q2), .second, .val (.int p3), .val (.long q4), .second, .val (.int (2 : Int32)), .val (.int f), .val (.ref b1), .unset, .unset, .unset, .unset] [(.int ((((q4.toUInt64 >>> ((32 : Int32) &&& 0x3f).toInt64.toUInt64).toInt64).toInt32).toInt8.toInt32)), (.int (4 : Int32)), (.ref b1)])) _
    rw [← hv5]
    show Steps p.tables e below (T12.setTop (mkF m 74 #[.val (.int p1), .val (.long q2), .second, .val (.int p3), .val (.long q4), .second, .val (.int (2 : Int32)), .val (.int f), .val (.ref b1), .unset, .unset, .unset, .unset] [(.int v5), (.int (4 : Int32)), (.ref b1)])) _
    refine st15 _ ?_
    show Steps p.tables e below (T15.setTop (mkF m 75 #[.val (.int p1), .val (.long q2), .second, .val (.int p3), .val (.long q4), .second, .val (.int (2 : Int32)), .val (.int f), .val (.ref b1), .unset, .unset, .unset, .unset] [])) _
    refine XS.aload X15.here hx rfl (hb hby at_75) rfl rfl ?_
    refine XS.iconst X15.here hx rfl (hb hby at_77) ?_
    refine XS.lload X15.here hx rfl (hb hby at_78) rfl ?_
    refine XS.bipush X15.here hx rfl (hb hby at_80) ?_
    refine XS.lushr X15.here hx rfl (hb hby at_82) rfl ?_
    show Steps p.tables e below (T15.setTop (mkF m 83 #[.val (.int p1), .val (.long q2), .second, .val (.int p3), .val (.long q4), .second, .val (.int (2 : Int32)), .val (.int f), .val (.ref b1), .unset, .unset, .unset, .unset] [(.long ((q4.toUInt64 >>> ((40 : Int32) &&& 0x3f).toInt64.toUInt64).toInt64)), (.int (5 : Int32)), (.ref b1)])) _
    refine XS.l2i X15.here hx rfl (hb hby at_83) rfl ?_
    refine XS.i2b X15.here hx rfl (hb hby at_84) rfl ?_
    show Steps p.tables e below (T15.setTop (mkF m 85 #[.val (.int p1), .val (.long q2), .second, .val (.int p3), .val (.long q4), .second, .val (.int (2 : Int32)), .val (.int f), .val (.ref b1), .unset, .unset, .unset, .unset] [(.int ((((q4.toUInt64 >>> ((40 : Int32) &&& 0x3f).toInt64.toUInt64).toInt64).toInt32).toInt8.toInt32)), (.int (5 : Int32)), (.ref b1)])) _
    rw [← hv6]
    show Steps p.tables e below (T15.setTop (mkF m 85 #[.val (.int p1), .val (.long q2), .second, .val (.int p3), .val (.long q4), .second, .val (.int (2 : Int32)), .val (.int f), .val (.ref b1), .unset, .unset, .unset, .unset] [(.int v6), (.int (5 : Int32)), (.ref b1)])) _
    refine st18 _ ?_
    show Steps p.tables e below (T18.setTop (mkF m 86 #[.val (.int p1), .val (.long q2), .second, .val (.int p3), .val (.long q4), .second, .val (.int (2 : Int32)), .val (.int f), .val (.ref b1), .unset, .unset, .unset, .unset] [])) _
    refine XS.aload X18.here hx rfl (hb hby at_86) rfl rfl ?_
    refine XS.bipush X18.here hx rfl (hb hby at_88) ?_
    refine XS.lload X18.here hx rfl (hb hby at_90) rfl ?_
    refine XS.bipush X18.here hx rfl (hb hby at_92) ?_
    refine XS.lushr X18.here hx rfl (hb hby at_94) rfl ?_
    show Steps p.tables e below (T18.setTop (mkF m 95 #[.val (.int p1), .val (.long q2), .second, .val (.int p3), .val (.long q4), .second, .val (.int (2 : Int32)), .val (.int f), .val (.ref b1), .unset, .unset, .unset, .unset] [(.long ((q4.toUInt64 >>> ((48 : Int32) &&& 0x3f).toInt64.toUInt64).toInt64)), (.int (6 : Int32)), (.ref b1)])) _
    refine XS.l2i X18.here hx rfl (hb hby at_95) rfl ?_
    refine XS.i2b X18.here hx rfl (hb hby at_96) rfl ?_
    show Steps p.tables e below (T18.setTop (mkF m 97 #[.val (.int p1), .val (.long q2), .second, .val (.int p3), .val (.long q4), .second, .val (.int (2 : Int32)), .val (.int f), .val (.ref b1), .unset, .unset, .unset, .unset] [(.int ((((q4.toUInt64 >>> ((48 : Int32) &&& 0x3f).toInt64.toUInt64).toInt64).toInt32).toInt8.toInt32)), (.int (6 : Int32)), (.ref b1)])) _
    rw [← hv7]
    show Steps p.tables e below (T18.setTop (mkF m 97 #[.val (.int p1), .val (.long q2), .second, .val (.int p3), .val (.long q4), .second, .val (.int (2 : Int32)), .val (.int f), .val (.ref b1), .unset, .unset, .unset, .unset] [(.int v7), (.int (6 : Int32)), (.ref b1)])) _
    refine st21 _ ?_
    show Steps p.tables e below (T21.setTop (mkF m 98 #[.val (.int p1), .val (.long q2), .second, .val (.int p3), .val (.long q4), .second, .val (.int (2 : Int32)), .val (.int f), .val (.ref b1), .unset, .unset, .unset, .unset] [])) _
    refine XS.aload X21.here hx rfl (hb hby at_98) rfl rfl ?_
    refine XS.bipush X21.here hx rfl (hb hby at_100) ?_
    refine XS.lload X21.here hx rfl (hb hby at_102) rfl ?_
    refine XS.bipush X21.here hx rfl (hb hby at_104) ?_
    refine XS.lushr X21.here hx rfl (hb hby at_106) rfl ?_
    show Steps p.tables e below (T21.setTop (mkF m 107 #[.val (.int p1), .val (.long q2), .second, .val (.int p3), .val (.long q4), .second, .val (.int (2 : Int32)), .val (.int f), .val (.ref b1), .unset, .unset, .unset, .unset] [(.long ((q4.toUInt64 >>> ((56 : Int32) &&& 0x3f).toInt64.toUInt64).toInt64)), (.int (7 : Int32)), (.ref b1)])) _
    refine XS.l2i X21.here hx rfl (hb hby at_107) rfl ?_
    refine XS.i2b X21.here hx rfl (hb hby at_108) rfl ?_
    show Steps p.tables e below (T21.setTop (mkF m 109 #[.val (.int p1), .val (.long q2), .second, .val (.int p3), .val (.long q4), .second, .val (.int (2 : Int32)), .val (.int f), .val (.ref b1), .unset, .unset, .unset, .unset] [(.int ((((q4.toUInt64 >>> ((56 : Int32) &&& 0x3f).toInt64.toUInt64).toInt64).toInt32).toInt8.toInt32)), (.int (7 : Int32)), (.ref b1)])) _
    rw [← hv8]
    show Steps p.tables e below (T21.setTop (mkF m 109 #[.val (.int p1), .val (.long q2), .second, .val (.int p3), .val (.long q4), .second, .val (.int (2 : Int32)), .val (.int f), .val (.ref b1), .unset, .unset, .unset, .unset] [(.int v8), (.int (7 : Int32)), (.ref b1)])) _
    refine st24 _ ?_
    show Steps p.tables e below (T24.setTop (mkF m 110 #[.val (.int p1), .val (.long q2), .second, .val (.int p3), .val (.long q4), .second, .val (.int (2 : Int32)), .val (.int f), .val (.ref b1), .unset, .unset, .unset, .unset] [])) _
    refine XS.aload X24.here hx rfl (hb hby at_110) rfl rfl ?_
    refine XS.bipush X24.here hx rfl (hb hby at_112) ?_
    refine XS.lload X24.here hx rfl (hb hby at_114) rfl ?_
    refine XS.iconst X24.here hx rfl (hb hby at_116) ?_
    refine XS.lushr X24.here hx rfl (hb hby at_117) rfl ?_
    show Steps p.tables e below (T24.setTop (mkF m 118 #[.val (.int p1), .val (.long q2), .second, .val (.int p3), .val (.long q4), .second, .val (.int (2 : Int32)), .val (.int f), .val (.ref b1), .unset, .unset, .unset, .unset] [(.long ((q4.toUInt64 >>> ((4 : Int32) &&& 0x3f).toInt64.toUInt64).toInt64)), (.int (8 : Int32)), (.ref b1)])) _
    refine XS.l2i X24.here hx rfl (hb hby at_118) rfl ?_
    refine XS.i2b X24.here hx rfl (hb hby at_119) rfl ?_
    show Steps p.tables e below (T24.setTop (mkF m 120 #[.val (.int p1), .val (.long q2), .second, .val (.int p3), .val (.long q4), .second, .val (.int (2 : Int32)), .val (.int f), .val (.ref b1), .unset, .unset, .unset, .unset] [(.int ((((q4.toUInt64 >>> ((4 : Int32) &&& 0x3f).toInt64.toUInt64).toInt64).toInt32).toInt8.toInt32)), (.int (8 : Int32)), (.ref b1)])) _
    rw [← hv9]
    show Steps p.tables e below (T24.setTop (mkF m 120 #[.val (.int p1), .val (.long q2), .second, .val (.int p3), .val (.long q4), .second, .val (.int (2 : Int32)), .val (.int f), .val (.ref b1), .unset, .unset, .unset, .unset] [(.int v9), (.int (8 : Int32)), (.ref b1)])) _
    refine st27 _ ?_
    show Steps p.tables e below (T27.setTop (mkF m 121 #[.val (.int p1), .val (.long q2), .second, .val (.int p3), .val (.long q4), .second, .val (.int (2 : Int32)), .val (.int f), .val (.ref b1), .unset, .unset, .unset, .unset] [])) _
    refine XS.aload X27.here hx rfl (hb hby at_121) rfl rfl ?_
    refine XS.bipush X27.here hx rfl (hb hby at_123) ?_
    refine XS.lload X27.here hx rfl (hb hby at_125) rfl ?_
    refine XS.bipush X27.here hx rfl (hb hby at_127) ?_
    refine XS.lushr X27.here hx rfl (hb hby at_129) rfl ?_
    show Steps p.tables e below (T27.setTop (mkF m 130 #[.val (.int p1), .val (.long q2), .second, .val (.int p3), .val (.long q4), .second, .val (.int (2 : Int32)), .val (.int f), .val (.ref b1), .unset, .unset, .unset, .unset] [(.long ((q4.toUInt64 >>> ((12 : Int32) &&& 0x3f).toInt64.toUInt64).toInt64)), (.int (9 : Int32)), (.ref b1)])) _
    refine XS.l2i X27.here hx rfl (hb hby at_130) rfl ?_
    refine XS.i2b X27.here hx rfl (hb hby at_131) rfl ?_
    show Steps p.tables e below (T27.setTop (mkF m 132 #[.val (.int p1), .val (.long q2), .second, .val (.int p3), .val (.long q4), .second, .val (.int (2 : Int32)), .val (.int f), .val (.ref b1), .unset, .unset, .unset, .unset] [(.int ((((q4.toUInt64 >>> ((12 : Int32) &&& 0x3f).toInt64.toUInt64).toInt64).toInt32).toInt8.toInt32)), (.int (9 : Int32)), (.ref b1)])) _
    rw [← hv10]
    show Steps p.tables e below (T27.setTop (mkF m 132 #[.val (.int p1), .val (.long q2), .second, .val (.int p3), .val (.long q4), .second, .val (.int (2 : Int32)), .val (.int f), .val (.ref b1), .unset, .unset, .unset, .unset] [(.int v10), (.int (9 : Int32)), (.ref b1)])) _
    refine st30 _ ?_
    show Steps p.tables e below (T30.setTop (mkF m 133 #[.val (.int p1), .val (.long q2), .second, .val (.int p3), .val (.long q4), .second, .val (.int (2 : Int32)), .val (.int f), .val (.ref b1), .unset, .unset, .unset, .unset] [])) _
    refine XS.aload X30.here hx rfl (hb hby at_133) rfl rfl ?_
    refine XS.bipush X30.here hx rfl (hb hby at_135) ?_
    refine XS.lload X30.here hx rfl (hb hby at_137) rfl ?_
    refine XS.bipush X30.here hx rfl (hb hby at_139) ?_
    refine XS.lushr X30.here hx rfl (hb hby at_141) rfl ?_
    show Steps p.tables e below (T30.setTop (mkF m 142 #[.val (.int p1), .val (.long q2), .second, .val (.int p3), .val (.long q4), .second, .val (.int (2 : Int32)), .val (.int f), .val (.ref b1), .unset, .unset, .unset, .unset] [(.long ((q4.toUInt64 >>> ((20 : Int32) &&& 0x3f).toInt64.toUInt64).toInt64)), (.int (10 : Int32)), (.ref b1)])) _
    refine XS.l2i X30.here hx rfl (hb hby at_142) rfl ?_
    refine XS.i2b X30.here hx rfl (hb hby at_143) rfl ?_
    show Steps p.tables e below (T30.setTop (mkF m 144 #[.val (.int p1), .val (.long q2), .second, .val (.int p3), .val (.long q4), .second, .val (.int (2 : Int32)), .val (.int f), .val (.ref b1), .unset, .unset, .unset, .unset] [(.int ((((q4.toUInt64 >>> ((20 : Int32) &&& 0x3f).toInt64.toUInt64).toInt64).toInt32).toInt8.toInt32)), (.int (10 : Int32)), (.ref b1)])) _
    rw [← hv11]
    show Steps p.tables e below (T30.setTop (mkF m 144 #[.val (.int p1), .val (.long q2), .second, .val (.int p3), .val (.long q4), .second, .val (.int (2 : Int32)), .val (.int f), .val (.ref b1), .unset, .unset, .unset, .unset] [(.int v11), (.int (10 : Int32)), (.ref b1)])) _
    refine st33 _ ?_
    show Steps p.tables e below (T33.setTop (mkF m 145 #[.val (.int p1), .val (.long q2), .second, .val (.int p3), .val (.long q4), .second, .val (.int (2 : Int32)), .val (.int f), .val (.ref b1), .unset, .unset, .unset, .unset] [])) _
    refine XS.aload X33.here hx rfl (hb hby at_145) rfl rfl ?_
    refine XS.iload X33.here hx rfl (hb hby at_147) rfl ?_
    refine XS.iload X33.here hx rfl (hb hby at_149) rfl ?_
    refine XS.i2b X33.here hx rfl (hb hby at_151) rfl ?_
    show Steps p.tables e below (T33.setTop (mkF m 152 #[.val (.int p1), .val (.long q2), .second, .val (.int p3), .val (.long q4), .second, .val (.int (2 : Int32)), .val (.int f), .val (.ref b1), .unset, .unset, .unset, .unset] [(.int (f.toInt8.toInt32)), (.int (2 : Int32)), (.ref b1)])) _
    rw [← hv12]
    show Steps p.tables e below (T33.setTop (mkF m 152 #[.val (.int p1), .val (.long q2), .second, .val (.int p3), .val (.long q4), .second, .val (.int (2 : Int32)), .val (.int f), .val (.ref b1), .unset, .unset, .unset, .unset] [(.int v12), (.int (2 : Int32)), (.ref b1)])) _
    refine st36 _ ?_
    show Steps p.tables e below (T36.setTop (mkF m 153 #[.val (.int p1), .val (.long q2), .second, .val (.int p3), .val (.long q4), .second, .val (.int (2 : Int32)), .val (.int f), .val (.ref b1), .unset, .unset, .unset, .unset] [])) _
    refine XS.aload X36.here hx rfl (hb hby at_153) rfl rfl ?_
    refine XS.iload X36.here hx rfl (hb hby at_155) rfl ?_
    refine XS.iconst X36.here hx rfl (hb hby at_157) ?_
    refine XS.iadd X36.here hx rfl (hb hby at_158) rfl ?_
    refine XS.lloadN X36.here hx rfl (hb hby at_159) rfl ?_
    show Steps p.tables e below (T36.setTop (mkF m 160 #[.val (.int p1), .val (.long q2), .second, .val (.int p3), .val (.long q4), .second, .val (.int (2 : Int32)), .val (.int f), .val (.ref b1), .unset, .unset, .unset, .unset] [(.long q2), (.int ((2 : Int32) + (1 : Int32))), (.ref b1)])) _
    refine XS.bipush X36.here hx rfl (hb hby at_160) ?_
    refine XS.lushr X36.here hx rfl (hb hby at_162) rfl ?_
    refine XS.l2i X36.here hx rfl (hb hby at_163) rfl ?_
    refine XS.i2b X36.here hx rfl (hb hby at_164) rfl ?_
    show Steps p.tables e below (T36.setTop (mkF m 165 #[.val (.int p1), .val (.long q2), .second, .val (.int p3), .val (.long q4), .second, .val (.int (2 : Int32)), .val (.int f), .val (.ref b1), .unset, .unset, .unset, .unset] [(.int ((((q2.toUInt64 >>> ((48 : Int32) &&& 0x3f).toInt64.toUInt64).toInt64).toInt32).toInt8.toInt32)), (.int ((2 : Int32) + (1 : Int32))), (.ref b1)])) _
    rw [← hv13]
    show Steps p.tables e below (T36.setTop (mkF m 165 #[.val (.int p1), .val (.long q2), .second, .val (.int p3), .val (.long q4), .second, .val (.int (2 : Int32)), .val (.int f), .val (.ref b1), .unset, .unset, .unset, .unset] [(.int v13), (.int ((2 : Int32) + (1 : Int32))), (.ref b1)])) _
    refine st39 _ ?_
    show Steps p.tables e below (T39.setTop (mkF m 166 #[.val (.int p1), .val (.long q2), .second, .val (.int p3), .val (.long q4), .second, .val (.int (2 : Int32)), .val (.int f), .val (.ref b1), .unset, .unset, .unset, .unset] [])) _
    refine XS.aload X39.here hx rfl (hb hby at_166) rfl rfl ?_
    refine XS.iload X39.here hx rfl (hb hby at_168) rfl ?_
    refine XS.iconst X39.here hx rfl (hb hby at_170) ?_
    refine XS.iadd X39.here hx rfl (hb hby at_171) rfl ?_
    refine XS.lloadN X39.here hx rfl (hb hby at_172) rfl ?_
    show Steps p.tables e below (T39.setTop (mkF m 173 #[.val (.int p1), .val (.long q2), .second, .val (.int p3), .val (.long q4), .second, .val (.int (2 : Int32)), .val (.int f), .val (.ref b1), .unset, .unset, .unset, .unset] [(.long q2), (.int ((2 : Int32) + (2 : Int32))), (.ref b1)])) _
    refine XS.bipush X39.here hx rfl (hb hby at_173) ?_
    refine XS.lushr X39.here hx rfl (hb hby at_175) rfl ?_
    refine XS.l2i X39.here hx rfl (hb hby at_176) rfl ?_
    refine XS.i2b X39.here hx rfl (hb hby at_177) rfl ?_
    show Steps p.tables e below (T39.setTop (mkF m 178 #[.val (.int p1), .val (.long q2), .second, .val (.int p3), .val (.long q4), .second, .val (.int (2 : Int32)), .val (.int f), .val (.ref b1), .unset, .unset, .unset, .unset] [(.int ((((q2.toUInt64 >>> ((40 : Int32) &&& 0x3f).toInt64.toUInt64).toInt64).toInt32).toInt8.toInt32)), (.int ((2 : Int32) + (2 : Int32))), (.ref b1)])) _
    rw [← hv14]
    show Steps p.tables e below (T39.setTop (mkF m 178 #[.val (.int p1), .val (.long q2), .second, .val (.int p3), .val (.long q4), .second, .val (.int (2 : Int32)), .val (.int f), .val (.ref b1), .unset, .unset, .unset, .unset] [(.int v14), (.int ((2 : Int32) + (2 : Int32))), (.ref b1)])) _
    refine st42 _ ?_
    show Steps p.tables e below (T42.setTop (mkF m 179 #[.val (.int p1), .val (.long q2), .second, .val (.int p3), .val (.long q4), .second, .val (.int (2 : Int32)), .val (.int f), .val (.ref b1), .unset, .unset, .unset, .unset] [])) _
    refine XS.aload X42.here hx rfl (hb hby at_179) rfl rfl ?_
    refine XS.iload X42.here hx rfl (hb hby at_181) rfl ?_
    refine XS.iconst X42.here hx rfl (hb hby at_183) ?_
    refine XS.iadd X42.here hx rfl (hb hby at_184) rfl ?_
    refine XS.lloadN X42.here hx rfl (hb hby at_185) rfl ?_
    show Steps p.tables e below (T42.setTop (mkF m 186 #[.val (.int p1), .val (.long q2), .second, .val (.int p3), .val (.long q4), .second, .val (.int (2 : Int32)), .val (.int f), .val (.ref b1), .unset, .unset, .unset, .unset] [(.long q2), (.int ((2 : Int32) + (3 : Int32))), (.ref b1)])) _
    refine XS.bipush X42.here hx rfl (hb hby at_186) ?_
    refine XS.lushr X42.here hx rfl (hb hby at_188) rfl ?_
    refine XS.l2i X42.here hx rfl (hb hby at_189) rfl ?_
    refine XS.i2b X42.here hx rfl (hb hby at_190) rfl ?_
    show Steps p.tables e below (T42.setTop (mkF m 191 #[.val (.int p1), .val (.long q2), .second, .val (.int p3), .val (.long q4), .second, .val (.int (2 : Int32)), .val (.int f), .val (.ref b1), .unset, .unset, .unset, .unset] [(.int ((((q2.toUInt64 >>> ((32 : Int32) &&& 0x3f).toInt64.toUInt64).toInt64).toInt32).toInt8.toInt32)), (.int ((2 : Int32) + (3 : Int32))), (.ref b1)])) _
    rw [← hv15]
    show Steps p.tables e below (T42.setTop (mkF m 191 #[.val (.int p1), .val (.long q2), .second, .val (.int p3), .val (.long q4), .second, .val (.int (2 : Int32)), .val (.int f), .val (.ref b1), .unset, .unset, .unset, .unset] [(.int v15), (.int ((2 : Int32) + (3 : Int32))), (.ref b1)])) _
    refine st45 _ ?_
    show Steps p.tables e below (T45.setTop (mkF m 192 #[.val (.int p1), .val (.long q2), .second, .val (.int p3), .val (.long q4), .second, .val (.int (2 : Int32)), .val (.int f), .val (.ref b1), .unset, .unset, .unset, .unset] [])) _
    refine XS.aload X45.here hx rfl (hb hby at_192) rfl rfl ?_
    refine XS.iload X45.here hx rfl (hb hby at_194) rfl ?_
    refine XS.iconst X45.here hx rfl (hb hby at_196) ?_
    refine XS.iadd X45.here hx rfl (hb hby at_197) rfl ?_
    refine XS.lloadN X45.here hx rfl (hb hby at_198) rfl ?_
    show Steps p.tables e below (T45.setTop (mkF m 199 #[.val (.int p1), .val (.long q2), .second, .val (.int p3), .val (.long q4), .second, .val (.int (2 : Int32)), .val (.int f), .val (.ref b1), .unset, .unset, .unset, .unset] [(.long q2), (.int ((2 : Int32) + (4 : Int32))), (.ref b1)])) _
    refine XS.bipush X45.here hx rfl (hb hby at_199) ?_
    refine XS.lushr X45.here hx rfl (hb hby at_201) rfl ?_
    refine XS.l2i X45.here hx rfl (hb hby at_202) rfl ?_
    refine XS.i2b X45.here hx rfl (hb hby at_203) rfl ?_
    show Steps p.tables e below (T45.setTop (mkF m 204 #[.val (.int p1), .val (.long q2), .second, .val (.int p3), .val (.long q4), .second, .val (.int (2 : Int32)), .val (.int f), .val (.ref b1), .unset, .unset, .unset, .unset] [(.int ((((q2.toUInt64 >>> ((24 : Int32) &&& 0x3f).toInt64.toUInt64).toInt64).toInt32).toInt8.toInt32)), (.int ((2 : Int32) + (4 : Int32))), (.ref b1)])) _
    rw [← hv16]
    show Steps p.tables e below (T45.setTop (mkF m 204 #[.val (.int p1), .val (.long q2), .second, .val (.int p3), .val (.long q4), .second, .val (.int (2 : Int32)), .val (.int f), .val (.ref b1), .unset, .unset, .unset, .unset] [(.int v16), (.int ((2 : Int32) + (4 : Int32))), (.ref b1)])) _
    refine st48 _ ?_
    show Steps p.tables e below (T48.setTop (mkF m 205 #[.val (.int p1), .val (.long q2), .second, .val (.int p3), .val (.long q4), .second, .val (.int (2 : Int32)), .val (.int f), .val (.ref b1), .unset, .unset, .unset, .unset] [])) _
    refine XS.aload X48.here hx rfl (hb hby at_205) rfl rfl ?_
    refine XS.iload X48.here hx rfl (hb hby at_207) rfl ?_
    refine XS.iconst X48.here hx rfl (hb hby at_209) ?_
    refine XS.iadd X48.here hx rfl (hb hby at_210) rfl ?_
    refine XS.lloadN X48.here hx rfl (hb hby at_211) rfl ?_
    show Steps p.tables e below (T48.setTop (mkF m 212 #[.val (.int p1), .val (.long q2), .second, .val (.int p3), .val (.long q4), .second, .val (.int (2 : Int32)), .val (.int f), .val (.ref b1), .unset, .unset, .unset, .unset] [(.long q2), (.int ((2 : Int32) + (5 : Int32))), (.ref b1)])) _
    refine XS.bipush X48.here hx rfl (hb hby at_212) ?_
    refine XS.lushr X48.here hx rfl (hb hby at_214) rfl ?_
    refine XS.l2i X48.here hx rfl (hb hby at_215) rfl ?_
    refine XS.i2b X48.here hx rfl (hb hby at_216) rfl ?_
    show Steps p.tables e below (T48.setTop (mkF m 217 #[.val (.int p1), .val (.long q2), .second, .val (.int p3), .val (.long q4), .second, .val (.int (2 : Int32)), .val (.int f), .val (.ref b1), .unset, .unset, .unset, .unset] [(.int ((((q2.toUInt64 >>> ((16 : Int32) &&& 0x3f).toInt64.toUInt64).toInt64).toInt32).toInt8.toInt32)), (.int ((2 : Int32) + (5 : Int32))), (.ref b1)])) _
    rw [← hv17]
    show Steps p.tables e below (T48.setTop (mkF m 217 #[.val (.int p1), .val (.long q2), .second, .val (.int p3), .val (.long q4), .second, .val (.int (2 : Int32)), .val (.int f), .val (.ref b1), .unset, .unset, .unset, .unset] [(.int v17), (.int ((2 : Int32) + (5 : Int32))), (.ref b1)])) _
    refine st51 _ ?_
    show Steps p.tables e below (T51.setTop (mkF m 218 #[.val (.int p1), .val (.long q2), .second, .val (.int p3), .val (.long q4), .second, .val (.int (2 : Int32)), .val (.int f), .val (.ref b1), .unset, .unset, .unset, .unset] [])) _
    refine XS.aload X51.here hx rfl (hb hby at_218) rfl rfl ?_
    refine XS.iload X51.here hx rfl (hb hby at_220) rfl ?_
    refine XS.bipush X51.here hx rfl (hb hby at_222) ?_
    refine XS.iadd X51.here hx rfl (hb hby at_224) rfl ?_
    refine XS.lloadN X51.here hx rfl (hb hby at_225) rfl ?_
    show Steps p.tables e below (T51.setTop (mkF m 226 #[.val (.int p1), .val (.long q2), .second, .val (.int p3), .val (.long q4), .second, .val (.int (2 : Int32)), .val (.int f), .val (.ref b1), .unset, .unset, .unset, .unset] [(.long q2), (.int ((2 : Int32) + (6 : Int32))), (.ref b1)])) _
    refine XS.bipush X51.here hx rfl (hb hby at_226) ?_
    refine XS.lushr X51.here hx rfl (hb hby at_228) rfl ?_
    refine XS.l2i X51.here hx rfl (hb hby at_229) rfl ?_
    refine XS.i2b X51.here hx rfl (hb hby at_230) rfl ?_
    show Steps p.tables e below (T51.setTop (mkF m 231 #[.val (.int p1), .val (.long q2), .second, .val (.int p3), .val (.long q4), .second, .val (.int (2 : Int32)), .val (.int f), .val (.ref b1), .unset, .unset, .unset, .unset] [(.int ((((q2.toUInt64 >>> ((8 : Int32) &&& 0x3f).toInt64.toUInt64).toInt64).toInt32).toInt8.toInt32)), (.int ((2 : Int32) + (6 : Int32))), (.ref b1)])) _
    rw [← hv18]
    show Steps p.tables e below (T51.setTop (mkF m 231 #[.val (.int p1), .val (.long q2), .second, .val (.int p3), .val (.long q4), .second, .val (.int (2 : Int32)), .val (.int f), .val (.ref b1), .unset, .unset, .unset, .unset] [(.int v18), (.int ((2 : Int32) + (6 : Int32))), (.ref b1)])) _
    refine st54 _ ?_
    show Steps p.tables e below (T54.setTop (mkF m 232 #[.val (.int p1), .val (.long q2), .second, .val (.int p3), .val (.long q4), .second, .val (.int (2 : Int32)), .val (.int f), .val (.ref b1), .unset, .unset, .unset, .unset] [])) _
    refine XS.aload X54.here hx rfl (hb hby at_232) rfl rfl ?_
    refine XS.iload X54.here hx rfl (hb hby at_234) rfl ?_
    refine XS.bipush X54.here hx rfl (hb hby at_236) ?_
    refine XS.iadd X54.here hx rfl (hb hby at_238) rfl ?_
    refine XS.lloadN X54.here hx rfl (hb hby at_239) rfl ?_
    show Steps p.tables e below (T54.setTop (mkF m 240 #[.val (.int p1), .val (.long q2), .second, .val (.int p3), .val (.long q4), .second, .val (.int (2 : Int32)), .val (.int f), .val (.ref b1), .unset, .unset, .unset, .unset] [(.long q2), (.int ((2 : Int32) + (7 : Int32))), (.ref b1)])) _
    refine XS.l2i X54.here hx rfl (hb hby at_240) rfl ?_
    refine XS.i2b X54.here hx rfl (hb hby at_241) rfl ?_
    show Steps p.tables e below (T54.setTop (mkF m 242 #[.val (.int p1), .val (.long q2), .second, .val (.int p3), .val (.long q4), .second, .val (.int (2 : Int32)), .val (.int f), .val (.ref b1), .unset, .unset, .unset, .unset] [(.int ((q2.toInt32).toInt8.toInt32)), (.int ((2 : Int32) + (7 : Int32))), (.ref b1)])) _
    rw [← hv19]
    show Steps p.tables e below (T54.setTop (mkF m 242 #[.val (.int p1), .val (.long q2), .second, .val (.int p3), .val (.long q4), .second, .val (.int (2 : Int32)), .val (.int f), .val (.ref b1), .unset, .unset, .unset, .unset] [(.int v19), (.int ((2 : Int32) + (7 : Int32))), (.ref b1)])) _
    refine st57 _ ?_
    show Steps p.tables e below (T57.setTop (mkF m 243 #[.val (.int p1), .val (.long q2), .second, .val (.int p3), .val (.long q4), .second, .val (.int (2 : Int32)), .val (.int f), .val (.ref b1), .unset, .unset, .unset, .unset] [])) _
    refine XS.lloadN X57.here hx rfl (hb hby at_243) rfl ?_
    show Steps p.tables e below (T57.setTop (mkF m 244 #[.val (.int p1), .val (.long q2), .second, .val (.int p3), .val (.long q4), .second, .val (.int (2 : Int32)), .val (.int f), .val (.ref b1), .unset, .unset, .unset, .unset] [(.long q2)])) _
    refine X57.ldc2Long hx hown (mvT hZ (hw _ (List.mem_of_getElem? (i := 2) rfl))) (g := (mkF m 244 #[.val (.int p1), .val (.long q2), .second, .val (.int p3), .val (.long q4), .second, .val (.int (2 : Int32)), .val (.int f), .val (.ref b1), .unset, .unset, .unset, .unset] [(.long q2)])) rfl (hb hby at_244) _ ?_
    show Steps p.tables e below (T57.setTop (mkF m 247 #[.val (.int p1), .val (.long q2), .second, .val (.int p3), .val (.long q4), .second, .val (.int (2 : Int32)), .val (.int f), .val (.ref b1), .unset, .unset, .unset, .unset] [(.long (72057594037927935 : Int64)), (.long q2)])) _
    refine XS.land X57.here hx rfl (hb hby at_247) rfl ?_
    show Steps p.tables e below (T57.setTop (mkF m 248 #[.val (.int p1), .val (.long q2), .second, .val (.int p3), .val (.long q4), .second, .val (.int (2 : Int32)), .val (.int f), .val (.ref b1), .unset, .unset, .unset, .unset] [(.long (q2 &&& (72057594037927935 : Int64)))])) _
    refine XS.lstore X57.here hx rfl (hb hby at_248) rfl (l' := #[.val (.int p1), .val (.long q2), .second, .val (.int p3), .val (.long q4), .second, .val (.int (2 : Int32)), .val (.int f), .val (.ref b1), .val (.long (q2 &&& (72057594037927935 : Int64))), .second, .unset, .unset]) rfl ?_
    show Steps p.tables e below (T57.setTop (mkF m 250 #[.val (.int p1), .val (.long q2), .second, .val (.int p3), .val (.long q4), .second, .val (.int (2 : Int32)), .val (.int f), .val (.ref b1), .val (.long (q2 &&& (72057594037927935 : Int64))), .second, .unset, .unset] [])) _
    refine XS.iload X57.here hx rfl (hb hby at_250) rfl ?_
    refine XS.lload X57.here hx rfl (hb hby at_252) rfl ?_
    show Steps p.tables e below (T57.setTop (mkF m 254 #[.val (.int p1), .val (.long q2), .second, .val (.int p3), .val (.long q4), .second, .val (.int (2 : Int32)), .val (.int f), .val (.ref b1), .val (.long (q2 &&& (72057594037927935 : Int64))), .second, .unset, .unset] [(.long (q2 &&& (72057594037927935 : Int64))), (.int f)])) _
    refine st60 _ ?_
    show Steps p.tables e below (T60.setTop (mkF m 257 #[.val (.int p1), .val (.long q2), .second, .val (.int p3), .val (.long q4), .second, .val (.int (2 : Int32)), .val (.int f), .val (.ref b1), .val (.long (q2 &&& (72057594037927935 : Int64))), .second, .unset, .unset] [(.long w60)])) _
    refine XS.lstore X60.here hx rfl (hb hby at_257) rfl (l' := #[.val (.int p1), .val (.long q2), .second, .val (.int p3), .val (.long q4), .second, .val (.int (2 : Int32)), .val (.int f), .val (.ref b1), .val (.long (q2 &&& (72057594037927935 : Int64))), .second, .val (.long w60), .second]) rfl ?_
    show Steps p.tables e below (T60.setTop (mkF m 259 #[.val (.int p1), .val (.long q2), .second, .val (.int p3), .val (.long q4), .second, .val (.int (2 : Int32)), .val (.int f), .val (.ref b1), .val (.long (q2 &&& (72057594037927935 : Int64))), .second, .val (.long w60), .second] [])) _
    refine XS.aload X60.here hx rfl (hb hby at_259) rfl rfl ?_
    refine XS.iload X60.here hx rfl (hb hby at_261) rfl ?_
    show Steps p.tables e below (T60.setTop (mkF m 263 #[.val (.int p1), .val (.long q2), .second, .val (.int p3), .val (.long q4), .second, .val (.int (2 : Int32)), .val (.int f), .val (.ref b1), .val (.long (q2 &&& (72057594037927935 : Int64))), .second, .val (.long w60), .second] [(.int (2 : Int32)), (.ref b1)])) _
    refine st61 _ ?_
    show Steps p.tables e below (T61.setTop (mkF m 266 #[.val (.int p1), .val (.long q2), .second, .val (.int p3), .val (.long q4), .second, .val (.int (2 : Int32)), .val (.int f), .val (.ref b1), .val (.long (q2 &&& (72057594037927935 : Int64))), .second, .val (.long w60), .second] [(.long w61)])) _
    refine XS.lload X61.here hx rfl (hb hby at_266) rfl ?_
    show Steps p.tables e below (T61.setTop (mkF m 268 #[.val (.int p1), .val (.long q2), .second, .val (.int p3), .val (.long q4), .second, .val (.int (2 : Int32)), .val (.int f), .val (.ref b1), .val (.long (q2 &&& (72057594037927935 : Int64))), .second, .val (.long w60), .second] [(.long w60), (.long w61)])) _
    refine XS.lcmp X61.here hx rfl (hb hby at_268) rfl ?_
    show Steps p.tables e below (T61.setTop (mkF m 269 #[.val (.int p1), .val (.long q2), .second, .val (.int p3), .val (.long q4), .second, .val (.int (2 : Int32)), .val (.int f), .val (.ref b1), .val (.long (q2 &&& (72057594037927935 : Int64))), .second, .val (.long w60), .second] [(.int (lcmpW w61 w60))])) _
    refine XS.ifNo X61.here hx rfl (hb hby at_269) rfl ((if0 _ _).trans (teq (own_cmp V60 V61 : (lcmpW w61 w60) = (0 : Int32))).2) ?_
    show Steps p.tables e below (T61.setTop (mkF m 272 #[.val (.int p1), .val (.long q2), .second, .val (.int p3), .val (.long q4), .second, .val (.int (2 : Int32)), .val (.int f), .val (.ref b1), .val (.long (q2 &&& (72057594037927935 : Int64))), .second, .val (.long w60), .second] [])) _
    refine XS.iconst X61.here hx rfl (hb hby at_272) ?_
    show Steps p.tables e below (T61.setTop (mkF m 273 #[.val (.int p1), .val (.long q2), .second, .val (.int p3), .val (.long q4), .second, .val (.int (2 : Int32)), .val (.int f), .val (.ref b1), .val (.long (q2 &&& (72057594037927935 : Int64))), .second, .val (.long w60), .second] [(.int (1 : Int32))])) _
    refine XS.goto X61.here hx rfl (pc0 := 273) (pc' := 277) rfl (hb hby at_273) (by decide) (by decide) ?_
    show Steps p.tables e below (T61.setTop (mkF m 277 #[.val (.int p1), .val (.long q2), .second, .val (.int p3), .val (.long q4), .second, .val (.int (2 : Int32)), .val (.int f), .val (.ref b1), .val (.long (q2 &&& (72057594037927935 : Int64))), .second, .val (.long w60), .second] [(.int (1 : Int32))])) _
    exact retN X61 hx (t := .boolean) Bd.returns (by simp) (hb hby at_277) hr
  · show own_Qk (some (.int (1 : Int32))) h0 n0 _ T61.heap _
    rw [e61]
    exact ⟨rfl, N61, K57⟩
set_option maxRecDepth 65536 in
set_option maxHeartbeats 40000000 in
theorem r_law_3 (l : Launch) (Z : State) (a0 : Array Value) (hw : ∀ d ∈ tables_1, d.before a0 Z = true) (ws : List Jvm.Cond) (s_R s_F s_E s_L : Addr) (cl_R cl_F cl_E : Cell) (k_L : ClassId) (h0 : Heap) (n0 : Nat) (O0 : Old Z n0 h0) (G : own_Ctx Z Z.heap s_R s_F s_E s_L cl_R cl_F cl_E k_L) (p1 : Int32) (q2 : Int64) (p3 : Int32) (q4 : Int64) (f : Int32) (hs : p3 &&& (3 : Int32) = (3 : Int32)) (hf : (1 : Int32) + ((p1 &&& (2147483647 : Int32)) % (254 : Int32)) = f) (hf1 : 1 ≤ f.toInt) (hf2 : f.toInt ≤ 254) :
    MetFree l x (head1 (Jvm.Cond.code x code maxLocals ret :: ws) room_1) (fun a U => a = #[(.int p1), (.long q2), (.int p3), (.long q4)] ∧ Z.Warmed39 U.vm ∧ U.heap = h0) (fun _ _ _ _ _ => True) (fun _ U o U' => ∃ v L, o = .returned v ∧ own_Qk (some (.int (1 : Int32))) h0 n0 v U'.heap L ∧ FrameEnd U o U' L 16 128) := by
  have G0 := G
  obtain ⟨S_R, C_R, S_F, C_F, S_E, C_E, S_L, V_L, R_1, R_2, R_3, R_4, R_5, F_0, F_1, F_2, F_3, F_4, F_5, F_6, F_7, F_8, F_9, F_10, F_11, F_12, F_13, F_14, E_0, E_1, E_2, E_3, E_4, E_5, E_6, E_7, E_8, E_9, E_10, E_11, E_12, E_13, E_14⟩ := G
  refine MetFree.of_bodySF (plainFor_of_name pn_0) hisR ?_
  intro p e s m args below meth c s₁ Bd hml0 hP hK
  obtain ⟨rfl, hZ, hh⟩ := hP
  have hx := Bd.exec
  have hby := Bd.bytes
  have hml : c.maxLocals = 13 := hml0
  have hown : s.vm.findClass "com/example/rattan/rattan/storage/label/ComponentCodeDecodePinLaw" = some m.cls := findClass_of_methodNamed Bd.named
  have hnm := (name_of_methodNamed Bd.named Bd.method).1
  have X0 : Stand p l e room_1 s m #[(.int p1), (.long q2), (.int p3), (.long q4)] below meth c s₁ [] 0 0 := Stand.of_body Bd
  have e0 : s₁.heap = h0 := by rw [← hh, Bd.state]; rfl
  have N0 := Fr.nil n0
  have pre0 : ∀ t, Steps p.tables e below (s₁.setTop (mkF m 0 #[.val (.int p1), .val (.long q2), .second, .val (.int p3), .val (.long q4), .second, .unset, .unset, .unset, .unset, .unset, .unset, .unset] [])) t → Steps p.tables e below (s₁.setTop (entryFrame m #[(.int p1), (.long q2), (.int p3), (.long q4)] maxLocals)) t := fun t k => castTop (ef_0_3 m p1 q2 p3 q4) k
  obtain ⟨T1, h1, k1, X1, e1, E1, A1, st1⟩ := newP X0 hx hZ (hw _ (List.mem_of_getElem? (i := 1) rfl)) e0 (g := (mkF m 19 #[.val (.int p1), .val (.long q2), .second, .val (.int p3), .val (.long q4), .second, .val (.int (3 : Int32)), .val (.int f), .unset, .unset, .unset, .unset, .unset] [(.int (11 : Int32))])) rfl (hb hby at_19) rfl (by decide) (cap := 11) (by decide) (by decide) (by decide) (by decide)
  obtain ⟨b1, g1⟩ : ∃ z, z = h0.size := ⟨_, rfl⟩
  have g_b1 : n0 ≤ b1 := Nat.le_trans (O0.1 ▸ O0.2.1) (Nat.le_of_eq g1.symm)
  have sz_b1 : h0.size ≤ b1 := Nat.le_trans (Keep.refl h0 []).1 (Nat.le_of_eq g1.symm)
  rw [← g1] at A1 st1
  have O1 := O0.ext E1
  have K1 : Keep h0 h1 [] := (Keep.refl h0 []).ext E1
  have V1 : Arv Z h1 b1 k1 .byte (11 : Int32) [(.int (0 : Int32)), (.int (0 : Int32)), (.int (0 : Int32)), (.int (0 : Int32)), (.int (0 : Int32)), (.int (0 : Int32)), (.int (0 : Int32)), (.int (0 : Int32)), (.int (0 : Int32)), (.int (0 : Int32)), (.int (0 : Int32))] (.int (0 : Int32)) := (Arv.new A1 (by decide)).pad (pad_rep [] (.int (0 : Int32)) 11)
  obtain ⟨v1, hv1⟩ : ∃ z : Int32, z = ((q4.toInt32).toInt8.toInt32) := ⟨_, rfl⟩
  have vc2 := V1
  obtain ⟨cl2, Ar2, qk2, S2, Nn2, Hs2, Gf2⟩ := vc2
  have hin2 : ¬ ((0 : Int32) < 0 ∨ cl2.slots.size ≤ ((0 : Int32)).toNatClampNeg) := inb_of S2 ⟨by decide, by decide⟩
  obtain ⟨T3, h3, X3, e3, W3, st3⟩ := stB X1 hx hZ e1 Ar2 (j := (0 : Int32)) hin2 (g := (mkF m 30 #[.val (.int p1), .val (.long q2), .second, .val (.int p3), .val (.long q4), .second, .val (.int (3 : Int32)), .val (.int f), .val (.ref b1), .unset, .unset, .unset, .unset] [(.int v1), (.int (0 : Int32)), (.ref b1)])) rfl rfl (hb hby at_30)
  have O3 := O1.wr W3 g_b1
  have K3 : Keep h0 h3 [] := K1.wr W3 (Or.inr sz_b1)
  have N3 := Fr.snoc X3 N0 g_b1
  have f4 : Arv Z h3 b1 k1 .byte (11 : Int32) [(.int (nar .byte v1)), (.int (0 : Int32)), (.int (0 : Int32)), (.int (0 : Int32)), (.int (0 : Int32)), (.int (0 : Int32)), (.int (0 : Int32)), (.int (0 : Int32)), (.int (0 : Int32)), (.int (0 : Int32)), (.int (0 : Int32))] (.int (0 : Int32)) := Arv.set Ar2 qk2 S2 Nn2 Hs2 Gf2 (fits_nar_byte _) W3 0 rfl (Nat.le_of_ble_eq_true rfl)
  obtain ⟨v2, hv2⟩ : ∃ z : Int32, z = ((((q4.toUInt64 >>> ((8 : Int32) &&& 0x3f).toInt64.toUInt64).toInt64).toInt32).toInt8.toInt32) := ⟨_, rfl⟩
  have vc5 := f4
  obtain ⟨cl5, Ar5, qk5, S5, Nn5, Hs5, Gf5⟩ := vc5
  have hin5 : ¬ ((1 : Int32) < 0 ∨ cl5.slots.size ≤ ((1 : Int32)).toNatClampNeg) := inb_of S5 ⟨by decide, by decide⟩
  obtain ⟨T6, h6, X6, e6, W6, st6⟩ := stB X3 hx hZ e3 Ar5 (j := (1 : Int32)) hin5 (g := (mkF m 41 #[.val (.int p1), .val (.long q2), .second, .val (.int p3), .val (.long q4), .second, .val (.int (3 : Int32)), .val (.int f), .val (.ref b1), .unset, .unset, .unset, .unset] [(.int v2), (.int (1 : Int32)), (.ref b1)])) rfl rfl (hb hby at_41)
  have O6 := O3.wr W6 g_b1
  have K6 : Keep h0 h6 [] := K3.wr W6 (Or.inr sz_b1)
  have N6 := Fr.snoc X6 N3 g_b1
  have f7 : Arv Z h6 b1 k1 .byte (11 : Int32) [(.int (nar .byte v1)), (.int (nar .byte v2)), (.int (0 : Int32)), (.int (0 : Int32)), (.int (0 : Int32)), (.int (0 : Int32)), (.int (0 : Int32)), (.int (0 : Int32)), (.int (0 : Int32)), (.int (0 : Int32)), (.int (0 : Int32))] (.int (0 : Int32)) := Arv.set Ar5 qk5 S5 Nn5 Hs5 Gf5 (fits_nar_byte _) W6 1 rfl (Nat.le_of_ble_eq_true rfl)
  obtain ⟨v3, hv3⟩ : ∃ z : Int32, z = ((((q4.toUInt64 >>> ((16 : Int32) &&& 0x3f).toInt64.toUInt64).toInt64).toInt32).toInt8.toInt32) := ⟨_, rfl⟩
  have vc8 := f7
  obtain ⟨cl8, Ar8, qk8, S8, Nn8, Hs8, Gf8⟩ := vc8
  have hin8 : ¬ ((2 : Int32) < 0 ∨ cl8.slots.size ≤ ((2 : Int32)).toNatClampNeg) := inb_of S8 ⟨by decide, by decide⟩
  obtain ⟨T9, h9, X9, e9, W9, st9⟩ := stB X6 hx hZ e6 Ar8 (j := (2 : Int32)) hin8 (g := (mkF m 52 #[.val (.int p1), .val (.long q2), .second, .val (.int p3), .val (.long q4), .second, .val (.int (3 : Int32)), .val (.int f), .val (.ref b1), .unset, .unset, .unset, .unset] [(.int v3), (.int (2 : Int32)), (.ref b1)])) rfl rfl (hb hby at_52)
  have O9 := O6.wr W9 g_b1
  have K9 : Keep h0 h9 [] := K6.wr W9 (Or.inr sz_b1)
  have N9 := Fr.snoc X9 N6 g_b1
  have f10 : Arv Z h9 b1 k1 .byte (11 : Int32) [(.int (nar .byte v1)), (.int (nar .byte v2)), (.int (nar .byte v3)), (.int (0 : Int32)), (.int (0 : Int32)), (.int (0 : Int32)), (.int (0 : Int32)), (.int (0 : Int32)), (.int (0 : Int32)), (.int (0 : Int32)), (.int (0 : Int32))] (.int (0 : Int32)) := Arv.set Ar8 qk8 S8 Nn8 Hs8 Gf8 (fits_nar_byte _) W9 2 rfl (Nat.le_of_ble_eq_true rfl)
  obtain ⟨v4, hv4⟩ : ∃ z : Int32, z = ((((q4.toUInt64 >>> ((24 : Int32) &&& 0x3f).toInt64.toUInt64).toInt64).toInt32).toInt8.toInt32) := ⟨_, rfl⟩
  have vc11 := f10
  obtain ⟨cl11, Ar11, qk11, S11, Nn11, Hs11, Gf11⟩ := vc11
  have hin11 : ¬ ((3 : Int32) < 0 ∨ cl11.slots.size ≤ ((3 : Int32)).toNatClampNeg) := inb_of S11 ⟨by decide, by decide⟩
  obtain ⟨T12, h12, X12, e12, W12, st12⟩ := stB X9 hx hZ e9 Ar11 (j := (3 : Int32)) hin11 (g := (mkF m 63 #[.val (.int p1), .val (.long q2), .second, .val (.int p3), .val (.long q4), .second, .val (.int (3 : Int32)), .val (.int f), .val (.ref b1), .unset, .unset, .unset, .unset] [(.int v4), (.int (3 : Int32)), (.ref b1)])) rfl rfl (hb hby at_63)
  have O12 := O9.wr W12 g_b1
  have K12 : Keep h0 h12 [] := K9.wr W12 (Or.inr sz_b1)
  have N12 := Fr.snoc X12 N9 g_b1
  have f13 : Arv Z h12 b1 k1 .byte (11 : Int32) [(.int (nar .byte v1)), (.int (nar .byte v2)), (.int (nar .byte v3)), (.int (nar .byte v4)), (.int (0 : Int32)), (.int (0 : Int32)), (.int (0 : Int32)), (.int (0 : Int32)), (.int (0 : Int32)), (.int (0 : Int32)), (.int (0 : Int32))] (.int (0 : Int32)) := Arv.set Ar11 qk11 S11 Nn11 Hs11 Gf11 (fits_nar_byte _) W12 3 rfl (Nat.le_of_ble_eq_true rfl)
  obtain ⟨v5, hv5⟩ : ∃ z : Int32, z = ((((q4.toUInt64 >>> ((32 : Int32) &&& 0x3f).toInt64.toUInt64).toInt64).toInt32).toInt8.toInt32) := ⟨_, rfl⟩
  have vc14 := f13
  obtain ⟨cl14, Ar14, qk14, S14, Nn14, Hs14, Gf14⟩ := vc14
  have hin14 : ¬ ((4 : Int32) < 0 ∨ cl14.slots.size ≤ ((4 : Int32)).toNatClampNeg) := inb_of S14 ⟨by decide, by decide⟩
  obtain ⟨T15, h15, X15, e15, W15, st15⟩ := stB X12 hx hZ e12 Ar14 (j := (4 : Int32)) hin14 (g := (mkF m 74 #[.val (.int p1), .val (.long q2), .second, .val (.int p3), .val (.long q4), .second, .val (.int (3 : Int32)), .val (.int f), .val (.ref b1), .unset, .unset, .unset, .unset] [(.int v5), (.int (4 : Int32)), (.ref b1)])) rfl rfl (hb hby at_74)
  have O15 := O12.wr W15 g_b1
  have K15 : Keep h0 h15 [] := K12.wr W15 (Or.inr sz_b1)
  have N15 := Fr.snoc X15 N12 g_b1
  have f16 : Arv Z h15 b1 k1 .byte (11 : Int32) [(.int (nar .byte v1)), (.int (nar .byte v2)), (.int (nar .byte v3)), (.int (nar .byte v4)), (.int (nar .byte v5)), (.int (0 : Int32)), (.int (0 : Int32)), (.int (0 : Int32)), (.int (0 : Int32)), (.int (0 : Int32)), (.int (0 : Int32))] (.int (0 : Int32)) := Arv.set Ar14 qk14 S14 Nn14 Hs14 Gf14 (fits_nar_byte _) W15 4 rfl (Nat.le_of_ble_eq_true rfl)
  obtain ⟨v6, hv6⟩ : ∃ z : Int32, z = ((((q4.toUInt64 >>> ((40 : Int32) &&& 0x3f).toInt64.toUInt64).toInt64).toInt32).toInt8.toInt32) := ⟨_, rfl⟩
  have vc17 := f16
  obtain ⟨cl17, Ar17, qk17, S17, Nn17, Hs17, Gf17⟩ := vc17
  have hin17 : ¬ ((5 : Int32) < 0 ∨ cl17.slots.size ≤ ((5 : Int32)).toNatClampNeg) := inb_of S17 ⟨by decide, by decide⟩
  obtain ⟨T18, h18, X18, e18, W18, st18⟩ := stB X15 hx hZ e15 Ar17 (j := (5 : Int32)) hin17 (g := (mkF m 85 #[.val (.int p1), .val (.long q2), .second, .val (.int p3), .val (.long q4), .second, .val (.int (3 : Int32)), .val (.int f), .val (.ref b1), .unset, .unset, .unset, .unset] [(.int v6), (.int (5 : Int32)), (.ref b1)])) rfl rfl (hb hby at_85)
  have O18 := O15.wr W18 g_b1
  have K18 : Keep h0 h18 [] := K15.wr W18 (Or.inr sz_b1)
  have N18 := Fr.snoc X18 N15 g_b1
  have f19 : Arv Z h18 b1 k1 .byte (11 : Int32) [(.int (nar .byte v1)), (.int (nar .byte v2)), (.int (nar .byte v3)), (.int (nar .byte v4)), (.int (nar .byte v5)), (.int (nar .byte v6)), (.int (0 : Int32)), (.int (0 : Int32)), (.int (0 : Int32)), (.int (0 : Int32)), (.int (0 : Int32))] (.int (0 : Int32)) := Arv.set Ar17 qk17 S17 Nn17 Hs17 Gf17 (fits_nar_byte _) W18 5 rfl (Nat.le_of_ble_eq_true rfl)
  obtain ⟨v7, hv7⟩ : ∃ z : Int32, z = ((((q4.toUInt64 >>> ((48 : Int32) &&& 0x3f).toInt64.toUInt64).toInt64).toInt32).toInt8.toInt32) := ⟨_, rfl⟩
  have vc20 := f19
  obtain ⟨cl20, Ar20, qk20, S20, Nn20, Hs20, Gf20⟩ := vc20
  have hin20 : ¬ ((6 : Int32) < 0 ∨ cl20.slots.size ≤ ((6 : Int32)).toNatClampNeg) := inb_of S20 ⟨by decide, by decide⟩
  obtain ⟨T21, h21, X21, e21, W21, st21⟩ := stB X18 hx hZ e18 Ar20 (j := (6 : Int32)) hin20 (g := (mkF m 97 #[.val (.int p1), .val (.long q2), .second, .val (.int p3), .val (.long q4), .second, .val (.int (3 : Int32)), .val (.int f), .val (.ref b1), .unset, .unset, .unset, .unset] [(.int v7), (.int (6 : Int32)), (.ref b1)])) rfl rfl (hb hby at_97)
  have O21 := O18.wr W21 g_b1
  have K21 : Keep h0 h21 [] := K18.wr W21 (Or.inr sz_b1)
  have N21 := Fr.snoc X21 N18 g_b1
  have f22 : Arv Z h21 b1 k1 .byte (11 : Int32) [(.int (nar .byte v1)), (.int (nar .byte v2)), (.int (nar .byte v3)), (.int (nar .byte v4)), (.int (nar .byte v5)), (.int (nar .byte v6)), (.int (nar .byte v7)), (.int (0 : Int32)), (.int (0 : Int32)), (.int (0 : Int32)), (.int (0 : Int32))] (.int (0 : Int32)) := Arv.set Ar20 qk20 S20 Nn20 Hs20 Gf20 (fits_nar_byte _) W21 6 rfl (Nat.le_of_ble_eq_true rfl)
  obtain ⟨v8, hv8⟩ : ∃ z : Int32, z = ((((q4.toUInt64 >>> ((56 : Int32) &&& 0x3f).toInt64.toUInt64).toInt64).toInt32).toInt8.toInt32) := ⟨_, rfl⟩
  have vc23 := f22
  obtain ⟨cl23, Ar23, qk23, S23, Nn23, Hs23, Gf23⟩ := vc23
  have hin23 : ¬ ((7 : Int32) < 0 ∨ cl23.slots.size ≤ ((7 : Int32)).toNatClampNeg) := inb_of S23 ⟨by decide, by decide⟩
  obtain ⟨T24, h24, X24, e24, W24, st24⟩ := stB X21 hx hZ e21 Ar23 (j := (7 : Int32)) hin23 (g := (mkF m 109 #[.val (.int p1), .val (.long q2), .second, .val (.int p3), .val (.long q4), .second, .val (.int (3 : Int32)), .val (.int f), .val (.ref b1), .unset, .unset, .unset, .unset] [(.int v8), (.int (7 : Int32)), (.ref b1)])) rfl rfl (hb hby at_109)
  have O24 := O21.wr W24 g_b1
  have K24 : Keep h0 h24 [] := K21.wr W24 (Or.inr sz_b1)
  have N24 := Fr.snoc X24 N21 g_b1
  have f25 : Arv Z h24 b1 k1 .byte (11 : Int32) [(.int (nar .byte v1)), (.int (nar .byte v2)), (.int (nar .byte v3)), (.int (nar .byte v4)), (.int (nar .byte v5)), (.int (nar .byte v6)), (.int (nar .byte v7)), (.int (nar .byte v8)), (.int (0 : Int32)), (.int (0 : Int32)), (.int (0 : Int32))] (.int (0 : Int32)) := Arv.set Ar23 qk23 S23 Nn23 Hs23 Gf23 (fits_nar_byte _) W24 7 rfl (Nat.le_of_ble_eq_true rfl)
  obtain ⟨v9, hv9⟩ : ∃ z : Int32, z = ((((q4.toUInt64 >>> ((4 : Int32) &&& 0x3f).toInt64.toUInt64).toInt64).toInt32).toInt8.toInt32) := ⟨_, rfl⟩
  have vc26 := f25
  obtain ⟨cl26, Ar26, qk26, S26, Nn26, Hs26, Gf26⟩ := vc26
  have hin26 : ¬ ((8 : Int32) < 0 ∨ cl26.slots.size ≤ ((8 : Int32)).toNatClampNeg) := inb_of S26 ⟨by decide, by decide⟩
  obtain ⟨T27, h27, X27, e27, W27, st27⟩ := stB X24 hx hZ e24 Ar26 (j := (8 : Int32)) hin26 (g := (mkF m 120 #[.val (.int p1), .val (.long q2), .second, .val (.int p3), .val (.long q4), .second, .val (.int (3 : Int32)), .val (.int f), .val (.ref b1), .unset, .unset, .unset, .unset] [(.int v9), (.int (8 : Int32)), (.ref b1)])) rfl rfl (hb hby at_120)
  have O27 := O24.wr W27 g_b1
  have K27 : Keep h0 h27 [] := K24.wr W27 (Or.inr sz_b1)
  have N27 := Fr.snoc X27 N24 g_b1
  have f28 : Arv Z h27 b1 k1 .byte (11 : Int32) [(.int (nar .byte v1)), (.int (nar .byte v2)), (.int (nar .byte v3)), (.int (nar .byte v4)), (.int (nar .byte v5)), (.int (nar .byte v6)), (.int (nar .byte v7)), (.int (nar .byte v8)), (.int (nar .byte v9)), (.int (0 : Int32)), (.int (0 : Int32))] (.int (0 : Int32)) := Arv.set Ar26 qk26 S26 Nn26 Hs26 Gf26 (fits_nar_byte _) W27 8 rfl (Nat.le_of_ble_eq_true rfl)
  obtain ⟨v10, hv10⟩ : ∃ z : Int32, z = ((((q4.toUInt64 >>> ((12 : Int32) &&& 0x3f).toInt64.toUInt64).toInt64).toInt32).toInt8.toInt32) := ⟨_, rfl⟩
  have vc29 := f28
  obtain ⟨cl29, Ar29, qk29, S29, Nn29, Hs29, Gf29⟩ := vc29
  have hin29 : ¬ ((9 : Int32) < 0 ∨ cl29.slots.size ≤ ((9 : Int32)).toNatClampNeg) := inb_of S29 ⟨by decide, by decide⟩
  obtain ⟨T30, h30, X30, e30, W30, st30⟩ := stB X27 hx hZ e27 Ar29 (j := (9 : Int32)) hin29 (g := (mkF m 132 #[.val (.int p1), .val (.long q2), .second, .val (.int p3), .val (.long q4), .second, .val (.int (3 : Int32)), .val (.int f), .val (.ref b1), .unset, .unset, .unset, .unset] [(.int v10), (.int (9 : Int32)), (.ref b1)])) rfl rfl (hb hby at_132)
  have O30 := O27.wr W30 g_b1
  have K30 : Keep h0 h30 [] := K27.wr W30 (Or.inr sz_b1)
  have N30 := Fr.snoc X30 N27 g_b1
  have f31 : Arv Z h30 b1 k1 .byte (11 : Int32) [(.int (nar .byte v1)), (.int (nar .byte v2)), (.int (nar .byte v3)), (.int (nar .byte v4)), (.int (nar .byte v5)), (.int (nar .byte v6)), (.int (nar .byte v7)), (.int (nar .byte v8)), (.int (nar .byte v9)), (.int (nar .byte v10)), (.int (0 : Int32))] (.int (0 : Int32)) := Arv.set Ar29 qk29 S29 Nn29 Hs29 Gf29 (fits_nar_byte _) W30 9 rfl (Nat.le_of_ble_eq_true rfl)
  obtain ⟨v11, hv11⟩ : ∃ z : Int32, z = ((((q4.toUInt64 >>> ((20 : Int32) &&& 0x3f).toInt64.toUInt64).toInt64).toInt32).toInt8.toInt32) := ⟨_, rfl⟩
  have vc32 := f31
  obtain ⟨cl32, Ar32, qk32, S32, Nn32, Hs32, Gf32⟩ := vc32
  have hin32 : ¬ ((10 : Int32) < 0 ∨ cl32.slots.size ≤ ((10 : Int32)).toNatClampNeg) := inb_of S32 ⟨by decide, by decide⟩
  obtain ⟨T33, h33, X33, e33, W33, st33⟩ := stB X30 hx hZ e30 Ar32 (j := (10 : Int32)) hin32 (g := (mkF m 144 #[.val (.int p1), .val (.long q2), .second, .val (.int p3), .val (.long q4), .second, .val (.int (3 : Int32)), .val (.int f), .val (.ref b1), .unset, .unset, .unset, .unset] [(.int v11), (.int (10 : Int32)), (.ref b1)])) rfl rfl (hb hby at_144)
  have O33 := O30.wr W33 g_b1
  have K33 : Keep h0 h33 [] := K30.wr W33 (Or.inr sz_b1)
  have N33 := Fr.snoc X33 N30 g_b1
  have f34 : Arv Z h33 b1 k1 .byte (11 : Int32) [(.int (nar .byte v1)), (.int (nar .byte v2)), (.int (nar .byte v3)), (.int (nar .byte v4)), (.int (nar .byte v5)), (.int (nar .byte v6)), (.int (nar .byte v7)), (.int (nar .byte v8)), (.int (nar .byte v9)), (.int (nar .byte v10)), (.int (nar .byte v11))] (.int (0 : Int32)) := Arv.set Ar32 qk32 S32 Nn32 Hs32 Gf32 (fits_nar_byte _) W33 10 rfl (Nat.le_of_ble_eq_true rfl)
  obtain ⟨v12, hv12⟩ : ∃ z : Int32, z = (f.toInt8.toInt32) := ⟨_, rfl⟩
  have vc35 := f34
  obtain ⟨cl35, Ar35, qk35, S35, Nn35, Hs35, Gf35⟩ := vc35
  have hin35 : ¬ ((3 : Int32) < 0 ∨ cl35.slots.size ≤ ((3 : Int32)).toNatClampNeg) := inb_of S35 ⟨by decide, by decide⟩
  obtain ⟨T36, h36, X36, e36, W36, st36⟩ := stB X33 hx hZ e33 Ar35 (j := (3 : Int32)) hin35 (g := (mkF m 152 #[.val (.int p1), .val (.long q2), .second, .val (.int p3), .val (.long q4), .second, .val (.int (3 : Int32)), .val (.int f), .val (.ref b1), .unset, .unset, .unset, .unset] [(.int v12), (.int (3 : Int32)), (.ref b1)])) rfl rfl (hb hby at_152)
  have O36 := O33.wr W36 g_b1
  have K36 : Keep h0 h36 [] := K33.wr W36 (Or.inr sz_b1)
  have N36 := Fr.snoc X36 N33 g_b1
  have f37 : Arv Z h36 b1 k1 .byte (11 : Int32) [(.int (nar .byte v1)), (.int (nar .byte v2)), (.int (nar .byte v3)), (.int (nar .byte v12)), (.int (nar .byte v5)), (.int (nar .byte v6)), (.int (nar .byte v7)), (.int (nar .byte v8)), (.int (nar .byte v9)), (.int (nar .byte v10)), (.int (nar .byte v11))] (.int (0 : Int32)) := Arv.set Ar35 qk35 S35 Nn35 Hs35 Gf35 (fits_nar_byte _) W36 3 rfl (Nat.le_of_ble_eq_true rfl)
  obtain ⟨v13, hv13⟩ : ∃ z : Int32, z = ((((q2.toUInt64 >>> ((48 : Int32) &&& 0x3f).toInt64.toUInt64).toInt64).toInt32).toInt8.toInt32) := ⟨_, rfl⟩
  have vc38 := f37
  obtain ⟨cl38, Ar38, qk38, S38, Nn38, Hs38, Gf38⟩ := vc38
  have hin38 : ¬ (((3 : Int32) + (1 : Int32)) < 0 ∨ cl38.slots.size ≤ (((3 : Int32) + (1 : Int32))).toNatClampNeg) := inb_of S38 ⟨by decide, by decide⟩
  obtain ⟨T39, h39, X39, e39, W39, st39⟩ := stB X36 hx hZ e36 Ar38 (j := ((3 : Int32) + (1 : Int32))) hin38 (g := (mkF m 165 #[.val (.int p1), .val (.long q2), .second, .val (.int p3), .val (.long q4), .second, .val (.int (3 : Int32)), .val (.int f), .val (.ref b1), .unset, .unset, .unset, .unset] [(.int v13), (.int ((3 : Int32) + (1 : Int32))), (.ref b1)])) rfl rfl (hb hby at_165)
  have O39 := O36.wr W39 g_b1
  have K39 : Keep h0 h39 [] := K36.wr W39 (Or.inr sz_b1)
  have N39 := Fr.snoc X39 N36 g_b1
  have f40 : Arv Z h39 b1 k1 .byte (11 : Int32) [(.int (nar .byte v1)), (.int (nar .byte v2)), (.int (nar .byte v3)), (.int (nar .byte v12)), (.int (nar .byte v13)), (.int (nar .byte v6)), (.int (nar .byte v7)), (.int (nar .byte v8)), (.int (nar .byte v9)), (.int (nar .byte v10)), (.int (nar .byte v11))] (.int (0 : Int32)) := Arv.set Ar38 qk38 S38 Nn38 Hs38 Gf38 (fits_nar_byte _) W39 4 rfl (Nat.le_of_ble_eq_true rfl)
  obtain ⟨v14, hv14⟩ : ∃ z : Int32, z = ((((q2.toUInt64 >>> ((40 : Int32) &&& 0x3f).toInt64.toUInt64).toInt64).toInt32).toInt8.toInt32) := ⟨_, rfl⟩
  have vc41 := f40
  obtain ⟨cl41, Ar41, qk41, S41, Nn41, Hs41, Gf41⟩ := vc41
  have hin41 : ¬ (((3 : Int32) + (2 : Int32)) < 0 ∨ cl41.slots.size ≤ (((3 : Int32) + (2 : Int32))).toNatClampNeg) := inb_of S41 ⟨by decide, by decide⟩
  obtain ⟨T42, h42, X42, e42, W42, st42⟩ := stB X39 hx hZ e39 Ar41 (j := ((3 : Int32) + (2 : Int32))) hin41 (g := (mkF m 178 #[.val (.int p1), .val (.long q2), .second, .val (.int p3), .val (.long q4), .second, .val (.int (3 : Int32)), .val (.int f), .val (.ref b1), .unset, .unset, .unset, .unset] [(.int v14), (.int ((3 : Int32) + (2 : Int32))), (.ref b1)])) rfl rfl (hb hby at_178)
  have O42 := O39.wr W42 g_b1
  have K42 : Keep h0 h42 [] := K39.wr W42 (Or.inr sz_b1)
  have N42 := Fr.snoc X42 N39 g_b1
  have f43 : Arv Z h42 b1 k1 .byte (11 : Int32) [(.int (nar .byte v1)), (.int (nar .byte v2)), (.int (nar .byte v3)), (.int (nar .byte v12)), (.int (nar .byte v13)), (.int (nar .byte v14)), (.int (nar .byte v7)), (.int (nar .byte v8)), (.int (nar .byte v9)), (.int (nar .byte v10)), (.int (nar .byte v11))] (.int (0 : Int32)) := Arv.set Ar41 qk41 S41 Nn41 Hs41 Gf41 (fits_nar_byte _) W42 5 rfl (Nat.le_of_ble_eq_true rfl)
  obtain ⟨v15, hv15⟩ : ∃ z : Int32, z = ((((q2.toUInt64 >>> ((32 : Int32) &&& 0x3f).toInt64.toUInt64).toInt64).toInt32).toInt8.toInt32) := ⟨_, rfl⟩
  have vc44 := f43
  obtain ⟨cl44, Ar44, qk44, S44, Nn44, Hs44, Gf44⟩ := vc44
  have hin44 : ¬ (((3 : Int32) + (3 : Int32)) < 0 ∨ cl44.slots.size ≤ (((3 : Int32) + (3 : Int32))).toNatClampNeg) := inb_of S44 ⟨by decide, by decide⟩
  obtain ⟨T45, h45, X45, e45, W45, st45⟩ := stB X42 hx hZ e42 Ar44 (j := ((3 : Int32) + (3 : Int32))) hin44 (g := (mkF m 191 #[.val (.int p1), .val (.long q2), .second, .val (.int p3), .val (.long q4), .second, .val (.int (3 : Int32)), .val (.int f), .val (.ref b1), .unset, .unset, .unset, .unset] [(.int v15), (.int ((3 : Int32) + (3 : Int32))), (.ref b1)])) rfl rfl (hb hby at_191)
  have O45 := O42.wr W45 g_b1
  have K45 : Keep h0 h45 [] := K42.wr W45 (Or.inr sz_b1)
  have N45 := Fr.snoc X45 N42 g_b1
  have f46 : Arv Z h45 b1 k1 .byte (11 : Int32) [(.int (nar .byte v1)), (.int (nar .byte v2)), (.int (nar .byte v3)), (.int (nar .byte v12)), (.int (nar .byte v13)), (.int (nar .byte v14)), (.int (nar .byte v15)), (.int (nar .byte v8)), (.int (nar .byte v9)), (.int (nar .byte v10)), (.int (nar .byte v11))] (.int (0 : Int32)) := Arv.set Ar44 qk44 S44 Nn44 Hs44 Gf44 (fits_nar_byte _) W45 6 rfl (Nat.le_of_ble_eq_true rfl)
  obtain ⟨v16, hv16⟩ : ∃ z : Int32, z = ((((q2.toUInt64 >>> ((24 : Int32) &&& 0x3f).toInt64.toUInt64).toInt64).toInt32).toInt8.toInt32) := ⟨_, rfl⟩
  have vc47 := f46
  obtain ⟨cl47, Ar47, qk47, S47, Nn47, Hs47, Gf47⟩ := vc47
  have hin47 : ¬ (((3 : Int32) + (4 : Int32)) < 0 ∨ cl47.slots.size ≤ (((3 : Int32) + (4 : Int32))).toNatClampNeg) := inb_of S47 ⟨by decide, by decide⟩
  obtain ⟨T48, h48, X48, e48, W48, st48⟩ := stB X45 hx hZ e45 Ar47 (j := ((3 : Int32) + (4 : Int32))) hin47 (g := (mkF m 204 #[.val (.int p1), .val (.long q2), .second, .val (.int p3), .val (.long q4), .second, .val (.int (3 : Int32)), .val (.int f), .val (.ref b1), .unset, .unset, .unset, .unset] [(.int v16), (.int ((3 : Int32) + (4 : Int32))), (.ref b1)])) rfl rfl (hb hby at_204)
  have O48 := O45.wr W48 g_b1
  have K48 : Keep h0 h48 [] := K45.wr W48 (Or.inr sz_b1)
  have N48 := Fr.snoc X48 N45 g_b1
  have f49 : Arv Z h48 b1 k1 .byte (11 : Int32) [(.int (nar .byte v1)), (.int (nar .byte v2)), (.int (nar .byte v3)), (.int (nar .byte v12)), (.int (nar .byte v13)), (.int (nar .byte v14)), (.int (nar .byte v15)), (.int (nar .byte v16)), (.int (nar .byte v9)), (.int (nar .byte v10)), (.int (nar .byte v11))] (.int (0 : Int32)) := Arv.set Ar47 qk47 S47 Nn47 Hs47 Gf47 (fits_nar_byte _) W48 7 rfl (Nat.le_of_ble_eq_true rfl)
  obtain ⟨v17, hv17⟩ : ∃ z : Int32, z = ((((q2.toUInt64 >>> ((16 : Int32) &&& 0x3f).toInt64.toUInt64).toInt64).toInt32).toInt8.toInt32) := ⟨_, rfl⟩
  have vc50 := f49
  obtain ⟨cl50, Ar50, qk50, S50, Nn50, Hs50, Gf50⟩ := vc50
  have hin50 : ¬ (((3 : Int32) + (5 : Int32)) < 0 ∨ cl50.slots.size ≤ (((3 : Int32) + (5 : Int32))).toNatClampNeg) := inb_of S50 ⟨by decide, by decide⟩
  obtain ⟨T51, h51, X51, e51, W51, st51⟩ := stB X48 hx hZ e48 Ar50 (j := ((3 : Int32) + (5 : Int32))) hin50 (g := (mkF m 217 #[.val (.int p1), .val (.long q2), .second, .val (.int p3), .val (.long q4), .second, .val (.int (3 : Int32)), .val (.int f), .val (.ref b1), .unset, .unset, .unset, .unset] [(.int v17), (.int ((3 : Int32) + (5 : Int32))), (.ref b1)])) rfl rfl (hb hby at_217)
  have O51 := O48.wr W51 g_b1
  have K51 : Keep h0 h51 [] := K48.wr W51 (Or.inr sz_b1)
  have N51 := Fr.snoc X51 N48 g_b1
  have f52 : Arv Z h51 b1 k1 .byte (11 : Int32) [(.int (nar .byte v1)), (.int (nar .byte v2)), (.int (nar .byte v3)), (.int (nar .byte v12)), (.int (nar .byte v13)), (.int (nar .byte v14)), (.int (nar .byte v15)), (.int (nar .byte v16)), (.int (nar .byte v17)), (.int (nar .byte v10)), (.int (nar .byte v11))] (.int (0 : Int32)) := Arv.set Ar50 qk50 S50 Nn50 Hs50 Gf50 (fits_nar_byte _) W51 8 rfl (Nat.le_of_ble_eq_true rfl)
  obtain ⟨v18, hv18⟩ : ∃ z : Int32, z = ((((q2.toUInt64 >>> ((8 : Int32) &&& 0x3f).toInt64.toUInt64).toInt64).toInt32).toInt8.toInt32) := ⟨_, rfl⟩
  have vc53 := f52
  obtain ⟨cl53, Ar53, qk53, S53, Nn53, Hs53, Gf53⟩ := vc53
  have hin53 : ¬ (((3 : Int32) + (6 : Int32)) < 0 ∨ cl53.slots.size ≤ (((3 : Int32) + (6 : Int32))).toNatClampNeg) := inb_of S53 ⟨by decide, by decide⟩
  obtain ⟨T54, h54, X54, e54, W54, st54⟩ := stB X51 hx hZ e51 Ar53 (j := ((3 : Int32) + (6 : Int32))) hin53 (g := (mkF m 231 #[.val (.int p1), .val (.long q2), .second, .val (.int p3), .val (.long q4), .second, .val (.int (3 : Int32)), .val (.int f), .val (.ref b1), .unset, .unset, .unset, .unset] [(.int v18), (.int ((3 : Int32) + (6 : Int32))), (.ref b1)])) rfl rfl (hb hby at_231)
  have O54 := O51.wr W54 g_b1
  have K54 : Keep h0 h54 [] := K51.wr W54 (Or.inr sz_b1)
  have N54 := Fr.snoc X54 N51 g_b1
  have f55 : Arv Z h54 b1 k1 .byte (11 : Int32) [(.int (nar .byte v1)), (.int (nar .byte v2)), (.int (nar .byte v3)), (.int (nar .byte v12)), (.int (nar .byte v13)), (.int (nar .byte v14)), (.int (nar .byte v15)), (.int (nar .byte v16)), (.int (nar .byte v17)), (.int (nar .byte v18)), (.int (nar .byte v11))] (.int (0 : Int32)) := Arv.set Ar53 qk53 S53 Nn53 Hs53 Gf53 (fits_nar_byte _) W54 9 rfl (Nat.le_of_ble_eq_true rfl)
  obtain ⟨v19, hv19⟩ : ∃ z : Int32, z = ((q2.toInt32).toInt8.toInt32) := ⟨_, rfl⟩
  have vc56 := f55
  obtain ⟨cl56, Ar56, qk56, S56, Nn56, Hs56, Gf56⟩ := vc56
  have hin56 : ¬ (((3 : Int32) + (7 : Int32)) < 0 ∨ cl56.slots.size ≤ (((3 : Int32) + (7 : Int32))).toNatClampNeg) := inb_of S56 ⟨by decide, by decide⟩
  obtain ⟨T57, h57, X57, e57, W57, st57⟩ := stB X54 hx hZ e54 Ar56 (j := ((3 : Int32) + (7 : Int32))) hin56 (g := (mkF m 242 #[.val (.int p1), .val (.long q2), .second, .val (.int p3), .val (.long q4), .second, .val (.int (3 : Int32)), .val (.int f), .val (.ref b1), .unset, .unset, .unset, .unset] [(.int v19), (.int ((3 : Int32) + (7 : Int32))), (.ref b1)])) rfl rfl (hb hby at_242)
  have O57 := O54.wr W57 g_b1
  have K57 : Keep h0 h57 [] := K54.wr W57 (Or.inr sz_b1)
  have N57 := Fr.snoc X57 N54 g_b1
  have f58 : Arv Z h57 b1 k1 .byte (11 : Int32) [(.int (nar .byte v1)), (.int (nar .byte v2)), (.int (nar .byte v3)), (.int (nar .byte v12)), (.int (nar .byte v13)), (.int (nar .byte v14)), (.int (nar .byte v15)), (.int (nar .byte v16)), (.int (nar .byte v17)), (.int (nar .byte v18)), (.int (nar .byte v19))] (.int (0 : Int32)) := Arv.set Ar56 qk56 S56 Nn56 Hs56 Gf56 (fits_nar_byte _) W57 10 rfl (Nat.le_of_ble_eq_true rfl)
  obtain ⟨LL59, X59, N59⟩ : ∃ LL, Stand p l e room_1 s m #[(.int p1), (.long q2), (.int p3), (.long q4)] below meth c T57 LL 1 11 ∧ Fr n0 LL := ⟨_, X57, N57⟩
  obtain ⟨_, _, ⟨T60, L60, k60, n60⟩, -, X60, ⟨Lc60, hQ60, l60, y60, z60⟩, st60⟩ := Jvm.LawKit.callS X59 hx (y := (⟨"com/example/rattan/rattan/storage/label/ComponentCodeDecodePinLaw", "expected", "(IJ)J"⟩ : MethodName)) hown (mvT hZ (hw _ (List.mem_of_getElem? (i := 3) rfl))) (mvT hZ (hw _ (List.mem_of_getElem? (i := 4) rfl))) (mvT hZ (hw _ (List.mem_of_getElem? (i := 5) rfl))) (mvT hZ (hw _ (List.mem_of_getElem? (i := 6) rfl))) (by decide) (backOf (W := 0) (r_exp l Z a0 hw [] s_R s_F s_E s_L cl_R cl_F cl_E k_L h57 n0 O57 G0 f (q2 &&& (72057594037927935 : Int64)) hf1 hf2 (own_low0 q2) (own_low1 q2)) hZ (hw _ (List.mem_of_getElem? (i := 6) rfl)) (hw _ (List.mem_of_getElem? (i := 5) rfl)) (by decide) (by decide)) (g := (mkF m 254 #[.val (.int p1), .val (.long q2), .second, .val (.int p3), .val (.long q4), .second, .val (.int (3 : Int32)), .val (.int f), .val (.ref b1), .val (.long (q2 &&& (72057594037927935 : Int64))), .second, .unset, .unset] [(.long (q2 &&& (72057594037927935 : Int64))), (.int f)])) rfl (by rw [hml]; rfl) (argsL := [(.int f), (.long (q2 &&& (72057594037927935 : Int64)))]) (rest := []) (lenOf pd_1 rfl) rfl (by show 2 * 0 + _ ≤ _; exact Nat.le_of_eq rfl) (hb hby at_254) (fun _ _ => ⟨rfl, e57, (by decide : 1 + 0 ≤ _), (by decide : 11 + 0 ≤ _)⟩)
  dsimp only [Pt.U, Pt.locs, Pt.cells, Pt.slots] at X60 l60 y60 z60 st60 hQ60
  subst l60 y60 z60
  obtain ⟨w60, rfl, N60q, e60, V60⟩ := hQ60
  have N60 := Fr.app N59 N60q
  obtain ⟨_, _, ⟨T61, L61, k61, n61⟩, -, X61, ⟨Lc61, hQ61, l61, y61, z61⟩, st61⟩ := Jvm.LawKit.callS X60 hx (y := (⟨"com/example/rattan/rattan/storage/label/ComponentCode", "decode", "([BI)J"⟩ : MethodName)) hown (mvT hZ (hw _ (List.mem_of_getElem? (i := 11) rfl))) (mvT hZ (hw _ (List.mem_of_getElem? (i := 12) rfl))) (mvT hZ (hw _ (List.mem_of_getElem? (i := 13) rfl))) (mvT hZ (hw _ (List.mem_of_getElem? (i := 14) rfl))) (by decide) (backOf (W := 0) (r_dec l Z a0 hw [] s_R s_F s_E s_L cl_R cl_F cl_E k_L h57 n0 O57 G0 b1 k1 _ (3 : Int32) (nar .byte v12) (nar .byte v13) (nar .byte v14) (nar .byte v15) (nar .byte v16) (nar .byte v17) (nar .byte v18) (nar .byte v19) (q2 &&& (72057594037927935 : Int64)).toInt f f58 (by rw [hv12]; exact own_g hf1 hf2) hf1 hf2 (own_low0 q2) (own_low1 q2) ⟨by decide, by decide⟩ rfl ⟨by decide, by decide⟩ rfl ⟨by decide, by decide⟩ rfl ⟨by decide, by decide⟩ rfl ⟨by decide, by decide⟩ rfl ⟨by decide, by decide⟩ rfl ⟨by decide, by decide⟩ rfl ⟨by decide, by decide⟩ rfl (by rw [hv13]; exact own_Y1 q2) (by rw [hv14]; exact own_Y2 q2) (by rw [hv15]; exact own_Y3 q2) (by rw [hv16]; exact own_Y4 q2) (by rw [hv17]; exact own_Y5 q2) (by rw [hv18]; exact own_Y6 q2) (by rw [hv19]; exact own_Y7 q2)) hZ (hw _ (List.mem_of_getElem? (i := 14) rfl)) (hw _ (List.mem_of_getElem? (i := 13) rfl)) (by decide) (by decide)) (g := (mkF m 263 #[.val (.int p1), .val (.long q2), .second, .val (.int p3), .val (.long q4), .second, .val (.int (3 : Int32)), .val (.int f), .val (.ref b1), .val (.long (q2 &&& (72057594037927935 : Int64))), .second, .val (.long w60), .second] [(.int (3 : Int32)), (.ref b1)])) rfl (by rw [hml]; rfl) (argsL := [(.ref b1), (.int (3 : Int32))]) (rest := []) (lenOf pd_2 rfl) rfl (by show 2 * 0 + _ ≤ _; exact Nat.le_of_eq rfl) (hb hby at_263) (fun _ _ => ⟨rfl, e60, (by decide : 1 + 0 ≤ _), (by decide : 11 + 0 ≤ _)⟩)
  dsimp only [Pt.U, Pt.locs, Pt.cells, Pt.slots] at X61 l61 y61 z61 st61 hQ61
  subst l61 y61 z61
  obtain ⟨w61, rfl, N61q, e61, V61⟩ := hQ61
  have N61 := Fr.app N60 N61q
  obtain ⟨fs, hr, hrun, hended, hW, hsame⟩ := X61.leave (v := some (.int (1 : Int32))) (fun h => by rw [Bd.returns] at h; cases h)
  refine ⟨_, _, pre0 _ ?_, hrun, hended, _, _, rfl, ?_, ⟨_, rfl⟩, hW, hsame.mono (by decide) (by decide)⟩
  · show Steps p.tables e below (s₁.setTop (mkF m 0 #[.val (.int p1), .val (.long q2), .second, .val (.int p3), .val (.long q4), .second, .unset, .unset, .unset, .unset, .unset, .unset, .unset] [])) _
    refine XS.iloadN X0.here hx rfl (hb hby at_0) rfl ?_
    refine XS.iconst X0.here hx rfl (hb hby at_1) ?_
    refine XS.iand X0.here hx rfl (hb hby at_2) rfl ?_
    show Steps p.tables e below (s₁.setTop (mkF m 3 #[.val (.int p1), .val (.long q2), .second, .val (.int p3), .val (.long q4), .second, .unset, .unset, .unset, .unset, .unset, .unset, .unset] [(.int (p3 &&& (3 : Int32)))])) _
    rw [hs]
    refine XS.istore X0.here hx rfl (hb hby at_3) rfl (l' := #[.val (.int p1), .val (.long q2), .second, .val (.int p3), .val (.long q4), .second, .val (.int (3 : Int32)), .unset, .unset, .unset, .unset, .unset, .unset]) rfl ?_
    show Steps p.tables e below (s₁.setTop (mkF m 5 #[.val (.int p1), .val (.long q2), .second, .val (.int p3), .val (.long q4), .second, .val (.int (3 : Int32)), .unset, .unset, .unset, .unset, .unset, .unset] [])) _
    refine XS.iconst X0.here hx rfl (hb hby at_5) ?_
    refine XS.iloadN X0.here hx rfl (hb hby at_6) rfl ?_
    show Steps p.tables e below (s₁.setTop (mkF m 7 #[.val (.int p1), .val (.long q2), .second, .val (.int p3), .val (.long q4), .second, .val (.int (3 : Int32)), .unset, .unset, .unset, .unset, .unset, .unset] [(.int p1), (.int (1 : Int32))])) _
    refine X0.ldcInt hx hown (mvT hZ (hw _ (List.mem_of_getElem? (i := 0) rfl))) (g := (mkF m 7 #[.val (.int p1), .val (.long q2), .second, .val (.int p3), .val (.long q4), .second, .val (.int (3 : Int32)), .unset, .unset, .unset, .unset, .unset, .unset] [(.int p1), (.int (1 : Int32))])) rfl (hb hby at_7) _ ?_
    show Steps p.tables e below (s₁.setTop (mkF m 9 #[.val (.int p1), .val (.long q2), .second, .val (.int p3), .val (.long q4), .second, .val (.int (3 : Int32)), .unset, .unset, .unset, .unset, .unset, .unset] [(.int (2147483647 : Int32)), (.int p1), (.int (1 : Int32))])) _
    refine XS.iand X0.here hx rfl (hb hby at_9) rfl ?_
    refine XS.sipush X0.here hx rfl (hb hby at_10) ?_
    show Steps p.tables e below (s₁.setTop (mkF m 13 #[.val (.int p1), .val (.long q2), .second, .val (.int p3), .val (.long q4), .second, .val (.int (3 : Int32)), .unset, .unset, .unset, .unset, .unset, .unset] [(.int (254 : Int32)), (.int (p1 &&& (2147483647 : Int32))), (.int (1 : Int32))])) _
    refine iremM X0 hx rfl (hb hby at_13) rfl (by decide) ?_
    show Steps p.tables e below (s₁.setTop (mkF m 14 #[.val (.int p1), .val (.long q2), .second, .val (.int p3), .val (.long q4), .second, .val (.int (3 : Int32)), .unset, .unset, .unset, .unset, .unset, .unset] [(.int ((p1 &&& (2147483647 : Int32)) % (254 : Int32))), (.int (1 : Int32))])) _
    refine XS.iadd X0.here hx rfl (hb hby at_14) rfl ?_
    show Steps p.tables e below (s₁.setTop (mkF m 15 #[.val (.int p1), .val (.long q2), .second, .val (.int p3), .val (.long q4), .second, .val (.int (3 : Int32)), .unset, .unset, .unset, .unset, .unset, .unset] [(.int ((1 : Int32) + ((p1 &&& (2147483647 : Int32)) % (254 : Int32))))])) _
    rw [hf]
    refine XS.istore X0.here hx rfl (hb hby at_15) rfl (l' := #[.val (.int p1), .val (.long q2), .second, .val (.int p3), .val (.long q4), .second, .val (.int (3 : Int32)), .val (.int f), .unset, .unset, .unset, .unset, .unset]) rfl ?_
    show Steps p.tables e below (s₁.setTop (mkF m 17 #[.val (.int p1), .val (.long q2), .second, .val (.int p3), .val (.long q4), .second, .val (.int (3 : Int32)), .val (.int f), .unset, .unset, .unset, .unset, .unset] [])) _
    refine XS.bipush X0.here hx rfl (hb hby at_17) ?_
    show Steps p.tables e below (s₁.setTop (mkF m 19 #[.val (.int p1), .val (.long q2), .second, .val (.int p3), .val (.long q4), .second, .val (.int (3 : Int32)), .val (.int f), .unset, .unset, .unset, .unset, .unset] [(.int (11 : Int32))])) _
    refine st1 _ ?_
    show Steps p.tables e below (T1.setTop (mkF m 21 #[.val (.int p1), .val (.long q2), .second, .val (.int p3), .val (.long q4), .second, .val (.int (3 : Int32)), .val (.int f), .unset, .unset, .unset, .unset, .unset] [(.ref b1)])) _
    refine XS.astore X1.here hx rfl (hb hby at_21) rfl rfl (l' := #[.val (.int p1), .val (.long q2), .second, .val (.int p3), .val (.long q4), .second, .val (.int (3 : Int32)), .val (.int f), .val (.ref b1), .unset, .unset, .unset, .unset]) rfl ?_
    show Steps p.tables e below (T1.setTop (mkF m 23 #[.val (.int p1), .val (.long q2), .second, .val (.int p3), .val (.long q4), .second, .val (.int (3 : Int32)), .val (.int f), .val (.ref b1), .unset, .unset, .unset, .unset] [])) _
    refine XS.aload X1.here hx rfl (hb hby at_23) rfl rfl ?_
    refine XS.iconst X1.here hx rfl (hb hby at_25) ?_
    refine XS.lload X1.here hx rfl (hb hby at_26) rfl ?_
    refine XS.l2i X1.here hx rfl (hb hby at_28) rfl ?_
    refine XS.i2b X1.here hx rfl (hb hby at_29) rfl ?_
    show Steps p.tables e below (T1.setTop (mkF m 30 #[.val (.int p1), .val (.long q2), .second, .val (.int p3), .val (.long q4), .second, .val (.int (3 : Int32)), .val (.int f), .val (.ref b1), .unset, .unset, .unset, .unset] [(.int ((q4.toInt32).toInt8.toInt32)), (.int (0 : Int32)), (.ref b1)])) _
    rw [← hv1]
    show Steps p.tables e below (T1.setTop (mkF m 30 #[.val (.int p1), .val (.long q2), .second, .val (.int p3), .val (.long q4), .second, .val (.int (3 : Int32)), .val (.int f), .val (.ref b1), .unset, .unset, .unset, .unset] [(.int v1), (.int (0 : Int32)), (.ref b1)])) _
    refine st3 _ ?_
    show Steps p.tables e below (T3.setTop (mkF m 31 #[.val (.int p1), .val (.long q2), .second, .val (.int p3), .val (.long q4), .second, .val (.int (3 : Int32)), .val (.int f), .val (.ref b1), .unset, .unset, .unset, .unset] [])) _
    refine XS.aload X3.here hx rfl (hb hby at_31) rfl rfl ?_
    refine XS.iconst X3.here hx rfl (hb hby at_33) ?_
    refine XS.lload X3.here hx rfl (hb hby at_34) rfl ?_
    refine XS.bipush X3.here hx rfl (hb hby at_36) ?_
    refine XS.lushr X3.here hx rfl (hb hby at_38) rfl ?_
    show Steps p.tables e below (T3.setTop (mkF m 39 #[.val (.int p1), .val (.long q2), .second, .val (.int p3), .val (.long q4), .second, .val (.int (3 : Int32)), .val (.int f), .val (.ref b1), .unset, .unset, .unset, .unset] [(.long ((q4.toUInt64 >>> ((8 : Int32) &&& 0x3f).toInt64.toUInt64).toInt64)), (.int (1 : Int32)), (.ref b1)])) _
    refine XS.l2i X3.here hx rfl (hb hby at_39) rfl ?_
    refine XS.i2b X3.here hx rfl (hb hby at_40) rfl ?_
    show Steps p.tables e below (T3.setTop (mkF m 41 #[.val (.int p1), .val (.long q2), .second, .val (.int p3), .val (.long q4), .second, .val (.int (3 : Int32)), .val (.int f), .val (.ref b1), .unset, .unset, .unset, .unset] [(.int ((((q4.toUInt64 >>> ((8 : Int32) &&& 0x3f).toInt64.toUInt64).toInt64).toInt32).toInt8.toInt32)), (.int (1 : Int32)), (.ref b1)])) _
    rw [← hv2]
    show Steps p.tables e below (T3.setTop (mkF m 41 #[.val (.int p1), .val (.long q2), .second, .val (.int p3), .val (.long q4), .second, .val (.int (3 : Int32)), .val (.int f), .val (.ref b1), .unset, .unset, .unset, .unset] [(.int v2), (.int (1 : Int32)), (.ref b1)])) _
    refine st6 _ ?_
    show Steps p.tables e below (T6.setTop (mkF m 42 #[.val (.int p1), .val (.long q2), .second, .val (.int p3), .val (.long q4), .second, .val (.int (3 : Int32)), .val (.int f), .val (.ref b1), .unset, .unset, .unset, .unset] [])) _
    refine XS.aload X6.here hx rfl (hb hby at_42) rfl rfl ?_
    refine XS.iconst X6.here hx rfl (hb hby at_44) ?_
    refine XS.lload X6.here hx rfl (hb hby at_45) rfl ?_
    refine XS.bipush X6.here hx rfl (hb hby at_47) ?_
    refine XS.lushr X6.here hx rfl (hb hby at_49) rfl ?_
    show Steps p.tables e below (T6.setTop (mkF m 50 #[.val (.int p1), .val (.long q2), .second, .val (.int p3), .val (.long q4), .second, .val (.int (3 : Int32)), .val (.int f), .val (.ref b1), .unset, .unset, .unset, .unset] [(.long ((q4.toUInt64 >>> ((16 : Int32) &&& 0x3f).toInt64.toUInt64).toInt64)), (.int (2 : Int32)), (.ref b1)])) _
    refine XS.l2i X6.here hx rfl (hb hby at_50) rfl ?_
    refine XS.i2b X6.here hx rfl (hb hby at_51) rfl ?_
    show Steps p.tables e below (T6.setTop (mkF m 52 #[.val (.int p1), .val (.long q2), .second, .val (.int p3), .val (.long q4), .second, .val (.int (3 : Int32)), .val (.int f), .val (.ref b1), .unset, .unset, .unset, .unset] [(.int ((((q4.toUInt64 >>> ((16 : Int32) &&& 0x3f).toInt64.toUInt64).toInt64).toInt32).toInt8.toInt32)), (.int (2 : Int32)), (.ref b1)])) _
    rw [← hv3]
    show Steps p.tables e below (T6.setTop (mkF m 52 #[.val (.int p1), .val (.long q2), .second, .val (.int p3), .val (.long q4), .second, .val (.int (3 : Int32)), .val (.int f), .val (.ref b1), .unset, .unset, .unset, .unset] [(.int v3), (.int (2 : Int32)), (.ref b1)])) _
    refine st9 _ ?_
    show Steps p.tables e below (T9.setTop (mkF m 53 #[.val (.int p1), .val (.long q2), .second, .val (.int p3), .val (.long q4), .second, .val (.int (3 : Int32)), .val (.int f), .val (.ref b1), .unset, .unset, .unset, .unset] [])) _
    refine XS.aload X9.here hx rfl (hb hby at_53) rfl rfl ?_
    refine XS.iconst X9.here hx rfl (hb hby at_55) ?_
    refine XS.lload X9.here hx rfl (hb hby at_56) rfl ?_
    refine XS.bipush X9.here hx rfl (hb hby at_58) ?_
    refine XS.lushr X9.here hx rfl (hb hby at_60) rfl ?_
    show Steps p.tables e below (T9.setTop (mkF m 61 #[.val (.int p1), .val (.long q2), .second, .val (.int p3), .val (.long q4), .second, .val (.int (3 : Int32)), .val (.int f), .val (.ref b1), .unset, .unset, .unset, .unset] [(.long ((q4.toUInt64 >>> ((24 : Int32) &&& 0x3f).toInt64.toUInt64).toInt64)), (.int (3 : Int32)), (.ref b1)])) _
    refine XS.l2i X9.here hx rfl (hb hby at_61) rfl ?_
    refine XS.i2b X9.here hx rfl (hb hby at_62) rfl ?_
    show Steps p.tables e below (T9.setTop (mkF m 63 #[.val (.int p1), .val (.long q2), .second, .val (.int p3), .val (.long q4), .second, .val (.int (3 : Int32)), .val (.int f), .val (.ref b1), .unset, .unset, .unset, .unset] [(.int ((((q4.toUInt64 >>> ((24 : Int32) &&& 0x3f).toInt64.toUInt64).toInt64).toInt32).toInt8.toInt32)), (.int (3 : Int32)), (.ref b1)])) _
    rw [← hv4]
    show Steps p.tables e below (T9.setTop (mkF m 63 #[.val (.int p1), .val (.long q2), .second, .val (.int p3), .val (.long q4), .second, .val (.int (3 : Int32)), .val (.int f), .val (.ref b1), .unset, .unset, .unset, .unset] [(.int v4), (.int (3 : Int32)), (.ref b1)])) _
    refine st12 _ ?_
    show Steps p.tables e below (T12.setTop (mkF m 64 #[.val (.int p1), .val (.long q2), .second, .val (.int p3), .val (.long q4), .second, .val (.int (3 : Int32)), .val (.int f), .val (.ref b1), .unset, .unset, .unset, .unset] [])) _
    refine XS.aload X12.here hx rfl (hb hby at_64) rfl rfl ?_
    refine XS.iconst X12.here hx rfl (hb hby at_66) ?_
    refine XS.lload X12.here hx rfl (hb hby at_67) rfl ?_
    refine XS.bipush X12.here hx rfl (hb hby at_69) ?_
    refine XS.lushr X12.here hx rfl (hb hby at_71) rfl ?_
    show Steps p.tables e below (T12.setTop (mkF m 72 #[.val (.int p1), .val (.long q2), .second, .val (.int p3), .val (.long q4), .second, .val (.int (3 : Int32)), .val (.int f), .val (.ref b1), .unset, .unset, .unset, .unset] [(.long ((q4.toUInt64 >>> ((32 : Int32) &&& 0x3f).toInt64.toUInt64).toInt64)), (.int (4 : Int32)), (.ref b1)])) _
    refine XS.l2i X12.here hx rfl (hb hby at_72) rfl ?_
    refine XS.i2b X12.here hx rfl (hb hby at_73) rfl ?_
    show Steps p.tables e below (T12.setTop (mkF m 74 #[.val (.int p1), .val (.long q2), .second, .val (.int p3), .val (.long q4), .second, .val (.int (3 : Int32)), .val (.int f), .val (.ref b1), .unset, .unset, .unset, .unset] [(.int ((((q4.toUInt64 >>> ((32 : Int32) &&& 0x3f).toInt64.toUInt64).toInt64).toInt32).toInt8.toInt32)), (.int (4 : Int32)), (.ref b1)])) _
    rw [← hv5]
    show Steps p.tables e below (T12.setTop (mkF m 74 #[.val (.int p1), .val (.long q2), .second, .val (.int p3), .val (.long q4), .second, .val (.int (3 : Int32)), .val (.int f), .val (.ref b1), .unset, .unset, .unset, .unset] [(.int v5), (.int (4 : Int32)), (.ref b1)])) _
    refine st15 _ ?_
    show Steps p.tables e below (T15.setTop (mkF m 75 #[.val (.int p1), .val (.long q2), .second, .val (.int p3), .val (.long q4), .second, .val (.int (3 : Int32)), .val (.int f), .val (.ref b1), .unset, .unset, .unset, .unset] [])) _
    refine XS.aload X15.here hx rfl (hb hby at_75) rfl rfl ?_
    refine XS.iconst X15.here hx rfl (hb hby at_77) ?_
    refine XS.lload X15.here hx rfl (hb hby at_78) rfl ?_
    refine XS.bipush X15.here hx rfl (hb hby at_80) ?_
    refine XS.lushr X15.here hx rfl (hb hby at_82) rfl ?_
    show Steps p.tables e below (T15.setTop (mkF m 83 #[.val (.int p1), .val (.long q2), .second, .val (.int p3), .val (.long q4), .second, .val (.int (3 : Int32)), .val (.int f), .val (.ref b1), .unset, .unset, .unset, .unset] [(.long ((q4.toUInt64 >>> ((40 : Int32) &&& 0x3f).toInt64.toUInt64).toInt64)), (.int (5 : Int32)), (.ref b1)])) _
    refine XS.l2i X15.here hx rfl (hb hby at_83) rfl ?_
    refine XS.i2b X15.here hx rfl (hb hby at_84) rfl ?_
    show Steps p.tables e below (T15.setTop (mkF m 85 #[.val (.int p1), .val (.long q2), .second, .val (.int p3), .val (.long q4), .second, .val (.int (3 : Int32)), .val (.int f), .val (.ref b1), .unset, .unset, .unset, .unset] [(.int ((((q4.toUInt64 >>> ((40 : Int32) &&& 0x3f).toInt64.toUInt64).toInt64).toInt32).toInt8.toInt32)), (.int (5 : Int32)), (.ref b1)])) _
    rw [← hv6]
    show Steps p.tables e below (T15.setTop (mkF m 85 #[.val (.int p1), .val (.long q2), .second, .val (.int p3), .val (.long q4), .second, .val (.int (3 : Int32)), .val (.int f), .val (.ref b1), .unset, .unset, .unset, .unset] [(.int v6), (.int (5 : Int32)), (.ref b1)])) _
    refine st18 _ ?_
    show Steps p.tables e below (T18.setTop (mkF m 86 #[.val (.int p1), .val (.long q2), .second, .val (.int p3), .val (.long q4), .second, .val (.int (3 : Int32)), .val (.int f), .val (.ref b1), .unset, .unset, .unset, .unset] [])) _
    refine XS.aload X18.here hx rfl (hb hby at_86) rfl rfl ?_
    refine XS.bipush X18.here hx rfl (hb hby at_88) ?_
    refine XS.lload X18.here hx rfl (hb hby at_90) rfl ?_
    refine XS.bipush X18.here hx rfl (hb hby at_92) ?_
    refine XS.lushr X18.here hx rfl (hb hby at_94) rfl ?_
    show Steps p.tables e below (T18.setTop (mkF m 95 #[.val (.int p1), .val (.long q2), .second, .val (.int p3), .val (.long q4), .second, .val (.int (3 : Int32)), .val (.int f), .val (.ref b1), .unset, .unset, .unset, .unset] [(.long ((q4.toUInt64 >>> ((48 : Int32) &&& 0x3f).toInt64.toUInt64).toInt64)), (.int (6 : Int32)), (.ref b1)])) _
    refine XS.l2i X18.here hx rfl (hb hby at_95) rfl ?_
    refine XS.i2b X18.here hx rfl (hb hby at_96) rfl ?_
    show Steps p.tables e below (T18.setTop (mkF m 97 #[.val (.int p1), .val (.long q2), .second, .val (.int p3), .val (.long q4), .second, .val (.int (3 : Int32)), .val (.int f), .val (.ref b1), .unset, .unset, .unset, .unset] [(.int ((((q4.toUInt64 >>> ((48 : Int32) &&& 0x3f).toInt64.toUInt64).toInt64).toInt32).toInt8.toInt32)), (.int (6 : Int32)), (.ref b1)])) _
    rw [← hv7]
    show Steps p.tables e below (T18.setTop (mkF m 97 #[.val (.int p1), .val (.long q2), .second, .val (.int p3), .val (.long q4), .second, .val (.int (3 : Int32)), .val (.int f), .val (.ref b1), .unset, .unset, .unset, .unset] [(.int v7), (.int (6 : Int32)), (.ref b1)])) _
    refine st21 _ ?_
    show Steps p.tables e below (T21.setTop (mkF m 98 #[.val (.int p1), .val (.long q2), .second, .val (.int p3), .val (.long q4), .second, .val (.int (3 : Int32)), .val (.int f), .val (.ref b1), .unset, .unset, .unset, .unset] [])) _
    refine XS.aload X21.here hx rfl (hb hby at_98) rfl rfl ?_
    refine XS.bipush X21.here hx rfl (hb hby at_100) ?_
    refine XS.lload X21.here hx rfl (hb hby at_102) rfl ?_
    refine XS.bipush X21.here hx rfl (hb hby at_104) ?_
    refine XS.lushr X21.here hx rfl (hb hby at_106) rfl ?_
    show Steps p.tables e below (T21.setTop (mkF m 107 #[.val (.int p1), .val (.long q2), .second, .val (.int p3), .val (.long q4), .second, .val (.int (3 : Int32)), .val (.int f), .val (.ref b1), .unset, .unset, .unset, .unset] [(.long ((q4.toUInt64 >>> ((56 : Int32) &&& 0x3f).toInt64.toUInt64).toInt64)), (.int (7 : Int32)), (.ref b1)])) _
    refine XS.l2i X21.here hx rfl (hb hby at_107) rfl ?_
    refine XS.i2b X21.here hx rfl (hb hby at_108) rfl ?_
    show Steps p.tables e below (T21.setTop (mkF m 109 #[.val (.int p1), .val (.long q2), .second, .val (.int p3), .val (.long q4), .second, .val (.int (3 : Int32)), .val (.int f), .val (.ref b1), .unset, .unset, .unset, .unset] [(.int ((((q4.toUInt64 >>> ((56 : Int32) &&& 0x3f).toInt64.toUInt64).toInt64).toInt32).toInt8.toInt32)), (.int (7 : Int32)), (.ref b1)])) _
    rw [← hv8]
    show Steps p.tables e below (T21.setTop (mkF m 109 #[.val (.int p1), .val (.long q2), .second, .val (.int p3), .val (.long q4), .second, .val (.int (3 : Int32)), .val (.int f), .val (.ref b1), .unset, .unset, .unset, .unset] [(.int v8), (.int (7 : Int32)), (.ref b1)])) _
    refine st24 _ ?_
    show Steps p.tables e below (T24.setTop (mkF m 110 #[.val (.int p1), .val (.long q2), .second, .val (.int p3), .val (.long q4), .second, .val (.int (3 : Int32)), .val (.int f), .val (.ref b1), .unset, .unset, .unset, .unset] [])) _
    refine XS.aload X24.here hx rfl (hb hby at_110) rfl rfl ?_
    refine XS.bipush X24.here hx rfl (hb hby at_112) ?_
    refine XS.lload X24.here hx rfl (hb hby at_114) rfl ?_
    refine XS.iconst X24.here hx rfl (hb hby at_116) ?_
    refine XS.lushr X24.here hx rfl (hb hby at_117) rfl ?_
    show Steps p.tables e below (T24.setTop (mkF m 118 #[.val (.int p1), .val (.long q2), .second, .val (.int p3), .val (.long q4), .second, .val (.int (3 : Int32)), .val (.int f), .val (.ref b1), .unset, .unset, .unset, .unset] [(.long ((q4.toUInt64 >>> ((4 : Int32) &&& 0x3f).toInt64.toUInt64).toInt64)), (.int (8 : Int32)), (.ref b1)])) _
    refine XS.l2i X24.here hx rfl (hb hby at_118) rfl ?_
    refine XS.i2b X24.here hx rfl (hb hby at_119) rfl ?_
    show Steps p.tables e below (T24.setTop (mkF m 120 #[.val (.int p1), .val (.long q2), .second, .val (.int p3), .val (.long q4), .second, .val (.int (3 : Int32)), .val (.int f), .val (.ref b1), .unset, .unset, .unset, .unset] [(.int ((((q4.toUInt64 >>> ((4 : Int32) &&& 0x3f).toInt64.toUInt64).toInt64).toInt32).toInt8.toInt32)), (.int (8 : Int32)), (.ref b1)])) _
    rw [← hv9]
    show Steps p.tables e below (T24.setTop (mkF m 120 #[.val (.int p1), .val (.long q2), .second, .val (.int p3), .val (.long q4), .second, .val (.int (3 : Int32)), .val (.int f), .val (.ref b1), .unset, .unset, .unset, .unset] [(.int v9), (.int (8 : Int32)), (.ref b1)])) _
    refine st27 _ ?_
    show Steps p.tables e below (T27.setTop (mkF m 121 #[.val (.int p1), .val (.long q2), .second, .val (.int p3), .val (.long q4), .second, .val (.int (3 : Int32)), .val (.int f), .val (.ref b1), .unset, .unset, .unset, .unset] [])) _
    refine XS.aload X27.here hx rfl (hb hby at_121) rfl rfl ?_
    refine XS.bipush X27.here hx rfl (hb hby at_123) ?_
    refine XS.lload X27.here hx rfl (hb hby at_125) rfl ?_
    refine XS.bipush X27.here hx rfl (hb hby at_127) ?_
    refine XS.lushr X27.here hx rfl (hb hby at_129) rfl ?_
    show Steps p.tables e below (T27.setTop (mkF m 130 #[.val (.int p1), .val (.long q2), .second, .val (.int p3), .val (.long q4), .second, .val (.int (3 : Int32)), .val (.int f), .val (.ref b1), .unset, .unset, .unset, .unset] [(.long ((q4.toUInt64 >>> ((12 : Int32) &&& 0x3f).toInt64.toUInt64).toInt64)), (.int (9 : Int32)), (.ref b1)])) _
    refine XS.l2i X27.here hx rfl (hb hby at_130) rfl ?_
    refine XS.i2b X27.here hx rfl (hb hby at_131) rfl ?_
    show Steps p.tables e below (T27.setTop (mkF m 132 #[.val (.int p1), .val (.long q2), .second, .val (.int p3), .val (.long q4), .second, .val (.int (3 : Int32)), .val (.int f), .val (.ref b1), .unset, .unset, .unset, .unset] [(.int ((((q4.toUInt64 >>> ((12 : Int32) &&& 0x3f).toInt64.toUInt64).toInt64).toInt32).toInt8.toInt32)), (.int (9 : Int32)), (.ref b1)])) _
    rw [← hv10]
    show Steps p.tables e below (T27.setTop (mkF m 132 #[.val (.int p1), .val (.long q2), .second, .val (.int p3), .val (.long q4), .second, .val (.int (3 : Int32)), .val (.int f), .val (.ref b1), .unset, .unset, .unset, .unset] [(.int v10), (.int (9 : Int32)), (.ref b1)])) _
    refine st30 _ ?_
    show Steps p.tables e below (T30.setTop (mkF m 133 #[.val (.int p1), .val (.long q2), .second, .val (.int p3), .val (.long q4), .second, .val (.int (3 : Int32)), .val (.int f), .val (.ref b1), .unset, .unset, .unset, .unset] [])) _
    refine XS.aload X30.here hx rfl (hb hby at_133) rfl rfl ?_
    refine XS.bipush X30.here hx rfl (hb hby at_135) ?_
    refine XS.lload X30.here hx rfl (hb hby at_137) rfl ?_
    refine XS.bipush X30.here hx rfl (hb hby at_139) ?_
    refine XS.lushr X30.here hx rfl (hb hby at_141) rfl ?_
    show Steps p.tables e below (T30.setTop (mkF m 142 #[.val (.int p1), .val (.long q2), .second, .val (.int p3), .val (.long q4), .second, .val (.int (3 : Int32)), .val (.int f), .val (.ref b1), .unset, .unset, .unset, .unset] [(.long ((q4.toUInt64 >>> ((20 : Int32) &&& 0x3f).toInt64.toUInt64).toInt64)), (.int (10 : Int32)), (.ref b1)])) _
    refine XS.l2i X30.here hx rfl (hb hby at_142) rfl ?_
    refine XS.i2b X30.here hx rfl (hb hby at_143) rfl ?_
    show Steps p.tables e below (T30.setTop (mkF m 144 #[.val (.int p1), .val (.long q2), .second, .val (.int p3), .val (.long q4), .second, .val (.int (3 : Int32)), .val (.int f), .val (.ref b1), .unset, .unset, .unset, .unset] [(.int ((((q4.toUInt64 >>> ((20 : Int32) &&& 0x3f).toInt64.toUInt64).toInt64).toInt32).toInt8.toInt32)), (.int (10 : Int32)), (.ref b1)])) _
    rw [← hv11]
    show Steps p.tables e below (T30.setTop (mkF m 144 #[.val (.int p1), .val (.long q2), .second, .val (.int p3), .val (.long q4), .second, .val (.int (3 : Int32)), .val (.int f), .val (.ref b1), .unset, .unset, .unset, .unset] [(.int v11), (.int (10 : Int32)), (.ref b1)])) _
    refine st33 _ ?_
    show Steps p.tables e below (T33.setTop (mkF m 145 #[.val (.int p1), .val (.long q2), .second, .val (.int p3), .val (.long q4), .second, .val (.int (3 : Int32)), .val (.int f), .val (.ref b1), .unset, .unset, .unset, .unset] [])) _
    refine XS.aload X33.here hx rfl (hb hby at_145) rfl rfl ?_
    refine XS.iload X33.here hx rfl (hb hby at_147) rfl ?_
    refine XS.iload X33.here hx rfl (hb hby at_149) rfl ?_
    refine XS.i2b X33.here hx rfl (hb hby at_151) rfl ?_
    show Steps p.tables e below (T33.setTop (mkF m 152 #[.val (.int p1), .val (.long q2), .second, .val (.int p3), .val (.long q4), .second, .val (.int (3 : Int32)), .val (.int f), .val (.ref b1), .unset, .unset, .unset, .unset] [(.int (f.toInt8.toInt32)), (.int (3 : Int32)), (.ref b1)])) _
    rw [← hv12]
    show Steps p.tables e below (T33.setTop (mkF m 152 #[.val (.int p1), .val (.long q2), .second, .val (.int p3), .val (.long q4), .second, .val (.int (3 : Int32)), .val (.int f), .val (.ref b1), .unset, .unset, .unset, .unset] [(.int v12), (.int (3 : Int32)), (.ref b1)])) _
    refine st36 _ ?_
    show Steps p.tables e below (T36.setTop (mkF m 153 #[.val (.int p1), .val (.long q2), .second, .val (.int p3), .val (.long q4), .second, .val (.int (3 : Int32)), .val (.int f), .val (.ref b1), .unset, .unset, .unset, .unset] [])) _
    refine XS.aload X36.here hx rfl (hb hby at_153) rfl rfl ?_
    refine XS.iload X36.here hx rfl (hb hby at_155) rfl ?_
    refine XS.iconst X36.here hx rfl (hb hby at_157) ?_
    refine XS.iadd X36.here hx rfl (hb hby at_158) rfl ?_
    refine XS.lloadN X36.here hx rfl (hb hby at_159) rfl ?_
    show Steps p.tables e below (T36.setTop (mkF m 160 #[.val (.int p1), .val (.long q2), .second, .val (.int p3), .val (.long q4), .second, .val (.int (3 : Int32)), .val (.int f), .val (.ref b1), .unset, .unset, .unset, .unset] [(.long q2), (.int ((3 : Int32) + (1 : Int32))), (.ref b1)])) _
    refine XS.bipush X36.here hx rfl (hb hby at_160) ?_
    refine XS.lushr X36.here hx rfl (hb hby at_162) rfl ?_
    refine XS.l2i X36.here hx rfl (hb hby at_163) rfl ?_
    refine XS.i2b X36.here hx rfl (hb hby at_164) rfl ?_
    show Steps p.tables e below (T36.setTop (mkF m 165 #[.val (.int p1), .val (.long q2), .second, .val (.int p3), .val (.long q4), .second, .val (.int (3 : Int32)), .val (.int f), .val (.ref b1), .unset, .unset, .unset, .unset] [(.int ((((q2.toUInt64 >>> ((48 : Int32) &&& 0x3f).toInt64.toUInt64).toInt64).toInt32).toInt8.toInt32)), (.int ((3 : Int32) + (1 : Int32))), (.ref b1)])) _
    rw [← hv13]
    show Steps p.tables e below (T36.setTop (mkF m 165 #[.val (.int p1), .val (.long q2), .second, .val (.int p3), .val (.long q4), .second, .val (.int (3 : Int32)), .val (.int f), .val (.ref b1), .unset, .unset, .unset, .unset] [(.int v13), (.int ((3 : Int32) + (1 : Int32))), (.ref b1)])) _
    refine st39 _ ?_
    show Steps p.tables e below (T39.setTop (mkF m 166 #[.val (.int p1), .val (.long q2), .second, .val (.int p3), .val (.long q4), .second, .val (.int (3 : Int32)), .val (.int f), .val (.ref b1), .unset, .unset, .unset, .unset] [])) _
    refine XS.aload X39.here hx rfl (hb hby at_166) rfl rfl ?_
    refine XS.iload X39.here hx rfl (hb hby at_168) rfl ?_
    refine XS.iconst X39.here hx rfl (hb hby at_170) ?_
    refine XS.iadd X39.here hx rfl (hb hby at_171) rfl ?_
    refine XS.lloadN X39.here hx rfl (hb hby at_172) rfl ?_
    show Steps p.tables e below (T39.setTop (mkF m 173 #[.val (.int p1), .val (.long q2), .second, .val (.int p3), .val (.long q4), .second, .val (.int (3 : Int32)), .val (.int f), .val (.ref b1), .unset, .unset, .unset, .unset] [(.long q2), (.int ((3 : Int32) + (2 : Int32))), (.ref b1)])) _
    refine XS.bipush X39.here hx rfl (hb hby at_173) ?_
    refine XS.lushr X39.here hx rfl (hb hby at_175) rfl ?_
    refine XS.l2i X39.here hx rfl (hb hby at_176) rfl ?_
    refine XS.i2b X39.here hx rfl (hb hby at_177) rfl ?_
    show Steps p.tables e below (T39.setTop (mkF m 178 #[.val (.int p1), .val (.long q2), .second, .val (.int p3), .val (.long q4), .second, .val (.int (3 : Int32)), .val (.int f), .val (.ref b1), .unset, .unset, .unset, .unset] [(.int ((((q2.toUInt64 >>> ((40 : Int32) &&& 0x3f).toInt64.toUInt64).toInt64).toInt32).toInt8.toInt32)), (.int ((3 : Int32) + (2 : Int32))), (.ref b1)])) _
    rw [← hv14]
    show Steps p.tables e below (T39.setTop (mkF m 178 #[.val (.int p1), .val (.long q2), .second, .val (.int p3), .val (.long q4), .second, .val (.int (3 : Int32)), .val (.int f), .val (.ref b1), .unset, .unset, .unset, .unset] [(.int v14), (.int ((3 : Int32) + (2 : Int32))), (.ref b1)])) _
    refine st42 _ ?_
    show Steps p.tables e below (T42.setTop (mkF m 179 #[.val (.int p1), .val (.long q2), .second, .val (.int p3), .val (.long q4), .second, .val (.int (3 : Int32)), .val (.int f), .val (.ref b1), .unset, .unset, .unset, .unset] [])) _
    refine XS.aload X42.here hx rfl (hb hby at_179) rfl rfl ?_
    refine XS.iload X42.here hx rfl (hb hby at_181) rfl ?_
    refine XS.iconst X42.here hx rfl (hb hby at_183) ?_
    refine XS.iadd X42.here hx rfl (hb hby at_184) rfl ?_
    refine XS.lloadN X42.here hx rfl (hb hby at_185) rfl ?_
    show Steps p.tables e below (T42.setTop (mkF m 186 #[.val (.int p1), .val (.long q2), .second, .val (.int p3), .val (.long q4), .second, .val (.int (3 : Int32)), .val (.int f), .val (.ref b1), .unset, .unset, .unset, .unset] [(.long q2), (.int ((3 : Int32) + (3 : Int32))), (.ref b1)])) _
    refine XS.bipush X42.here hx rfl (hb hby at_186) ?_
    refine XS.lushr X42.here hx rfl (hb hby at_188) rfl ?_
    refine XS.l2i X42.here hx rfl (hb hby at_189) rfl ?_
    refine XS.i2b X42.here hx rfl (hb hby at_190) rfl ?_
    show Steps p.tables e below (T42.setTop (mkF m 191 #[.val (.int p1), .val (.long q2), .second, .val (.int p3), .val (.long q4), .second, .val (.int (3 : Int32)), .val (.int f), .val (.ref b1), .unset, .unset, .unset, .unset] [(.int ((((q2.toUInt64 >>> ((32 : Int32) &&& 0x3f).toInt64.toUInt64).toInt64).toInt32).toInt8.toInt32)), (.int ((3 : Int32) + (3 : Int32))), (.ref b1)])) _
    rw [← hv15]
    show Steps p.tables e below (T42.setTop (mkF m 191 #[.val (.int p1), .val (.long q2), .second, .val (.int p3), .val (.long q4), .second, .val (.int (3 : Int32)), .val (.int f), .val (.ref b1), .unset, .unset, .unset, .unset] [(.int v15), (.int ((3 : Int32) + (3 : Int32))), (.ref b1)])) _
    refine st45 _ ?_
    show Steps p.tables e below (T45.setTop (mkF m 192 #[.val (.int p1), .val (.long q2), .second, .val (.int p3), .val (.long q4), .second, .val (.int (3 : Int32)), .val (.int f), .val (.ref b1), .unset, .unset, .unset, .unset] [])) _
    refine XS.aload X45.here hx rfl (hb hby at_192) rfl rfl ?_
    refine XS.iload X45.here hx rfl (hb hby at_194) rfl ?_
    refine XS.iconst X45.here hx rfl (hb hby at_196) ?_
    refine XS.iadd X45.here hx rfl (hb hby at_197) rfl ?_
    refine XS.lloadN X45.here hx rfl (hb hby at_198) rfl ?_
    show Steps p.tables e below (T45.setTop (mkF m 199 #[.val (.int p1), .val (.long q2), .second, .val (.int p3), .val (.long q4), .second, .val (.int (3 : Int32)), .val (.int f), .val (.ref b1), .unset, .unset, .unset, .unset] [(.long q2), (.int ((3 : Int32) + (4 : Int32))), (.ref b1)])) _
    refine XS.bipush X45.here hx rfl (hb hby at_199) ?_
    refine XS.lushr X45.here hx rfl (hb hby at_201) rfl ?_
    refine XS.l2i X45.here hx rfl (hb hby at_202) rfl ?_
    refine XS.i2b X45.here hx rfl (hb hby at_203) rfl ?_
    show Steps p.tables e below (T45.setTop (mkF m 204 #[.val (.int p1), .val (.long q2), .second, .val (.int p3), .val (.long q4), .second, .val (.int (3 : Int32)), .val (.int f), .val (.ref b1), .unset, .unset, .unset, .unset] [(.int ((((q2.toUInt64 >>> ((24 : Int32) &&& 0x3f).toInt64.toUInt64).toInt64).toInt32).toInt8.toInt32)), (.int ((3 : Int32) + (4 : Int32))), (.ref b1)])) _
    rw [← hv16]
    show Steps p.tables e below (T45.setTop (mkF m 204 #[.val (.int p1), .val (.long q2), .second, .val (.int p3), .val (.long q4), .second, .val (.int (3 : Int32)), .val (.int f), .val (.ref b1), .unset, .unset, .unset, .unset] [(.int v16), (.int ((3 : Int32) + (4 : Int32))), (.ref b1)])) _
    refine st48 _ ?_
    show Steps p.tables e below (T48.setTop (mkF m 205 #[.val (.int p1), .val (.long q2), .second, .val (.int p3), .val (.long q4), .second, .val (.int (3 : Int32)), .val (.int f), .val (.ref b1), .unset, .unset, .unset, .unset] [])) _
    refine XS.aload X48.here hx rfl (hb hby at_205) rfl rfl ?_
    refine XS.iload X48.here hx rfl (hb hby at_207) rfl ?_
    refine XS.iconst X48.here hx rfl (hb hby at_209) ?_
    refine XS.iadd X48.here hx rfl (hb hby at_210) rfl ?_
    refine XS.lloadN X48.here hx rfl (hb hby at_211) rfl ?_
    show Steps p.tables e below (T48.setTop (mkF m 212 #[.val (.int p1), .val (.long q2), .second, .val (.int p3), .val (.long q4), .second, .val (.int (3 : Int32)), .val (.int f), .val (.ref b1), .unset, .unset, .unset, .unset] [(.long q2), (.int ((3 : Int32) + (5 : Int32))), (.ref b1)])) _
    refine XS.bipush X48.here hx rfl (hb hby at_212) ?_
    refine XS.lushr X48.here hx rfl (hb hby at_214) rfl ?_
    refine XS.l2i X48.here hx rfl (hb hby at_215) rfl ?_
    refine XS.i2b X48.here hx rfl (hb hby at_216) rfl ?_
    show Steps p.tables e below (T48.setTop (mkF m 217 #[.val (.int p1), .val (.long q2), .second, .val (.int p3), .val (.long q4), .second, .val (.int (3 : Int32)), .val (.int f), .val (.ref b1), .unset, .unset, .unset, .unset] [(.int ((((q2.toUInt64 >>> ((16 : Int32) &&& 0x3f).toInt64.toUInt64).toInt64).toInt32).toInt8.toInt32)), (.int ((3 : Int32) + (5 : Int32))), (.ref b1)])) _
    rw [← hv17]
    show Steps p.tables e below (T48.setTop (mkF m 217 #[.val (.int p1), .val (.long q2), .second, .val (.int p3), .val (.long q4), .second, .val (.int (3 : Int32)), .val (.int f), .val (.ref b1), .unset, .unset, .unset, .unset] [(.int v17), (.int ((3 : Int32) + (5 : Int32))), (.ref b1)])) _
    refine st51 _ ?_
    show Steps p.tables e below (T51.setTop (mkF m 218 #[.val (.int p1), .val (.long q2), .second, .val (.int p3), .val (.long q4), .second, .val (.int (3 : Int32)), .val (.int f), .val (.ref b1), .unset, .unset, .unset, .unset] [])) _
    refine XS.aload X51.here hx rfl (hb hby at_218) rfl rfl ?_
    refine XS.iload X51.here hx rfl (hb hby at_220) rfl ?_
    refine XS.bipush X51.here hx rfl (hb hby at_222) ?_
    refine XS.iadd X51.here hx rfl (hb hby at_224) rfl ?_
    refine XS.lloadN X51.here hx rfl (hb hby at_225) rfl ?_
    show Steps p.tables e below (T51.setTop (mkF m 226 #[.val (.int p1), .val (.long q2), .second, .val (.int p3), .val (.long q4), .second, .val (.int (3 : Int32)), .val (.int f), .val (.ref b1), .unset, .unset, .unset, .unset] [(.long q2), (.int ((3 : Int32) + (6 : Int32))), (.ref b1)])) _
    refine XS.bipush X51.here hx rfl (hb hby at_226) ?_
    refine XS.lushr X51.here hx rfl (hb hby at_228) rfl ?_
    refine XS.l2i X51.here hx rfl (hb hby at_229) rfl ?_
    refine XS.i2b X51.here hx rfl (hb hby at_230) rfl ?_
    show Steps p.tables e below (T51.setTop (mkF m 231 #[.val (.int p1), .val (.long q2), .second, .val (.int p3), .val (.long q4), .second, .val (.int (3 : Int32)), .val (.int f), .val (.ref b1), .unset, .unset, .unset, .unset] [(.int ((((q2.toUInt64 >>> ((8 : Int32) &&& 0x3f).toInt64.toUInt64).toInt64).toInt32).toInt8.toInt32)), (.int ((3 : Int32) + (6 : Int32))), (.ref b1)])) _
    rw [← hv18]
    show Steps p.tables e below (T51.setTop (mkF m 231 #[.val (.int p1), .val (.long q2), .second, .val (.int p3), .val (.long q4), .second, .val (.int (3 : Int32)), .val (.int f), .val (.ref b1), .unset, .unset, .unset, .unset] [(.int v18), (.int ((3 : Int32) + (6 : Int32))), (.ref b1)])) _
    refine st54 _ ?_
    show Steps p.tables e below (T54.setTop (mkF m 232 #[.val (.int p1), .val (.long q2), .second, .val (.int p3), .val (.long q4), .second, .val (.int (3 : Int32)), .val (.int f), .val (.ref b1), .unset, .unset, .unset, .unset] [])) _
    refine XS.aload X54.here hx rfl (hb hby at_232) rfl rfl ?_
    refine XS.iload X54.here hx rfl (hb hby at_234) rfl ?_
    refine XS.bipush X54.here hx rfl (hb hby at_236) ?_
    refine XS.iadd X54.here hx rfl (hb hby at_238) rfl ?_
    refine XS.lloadN X54.here hx rfl (hb hby at_239) rfl ?_
    show Steps p.tables e below (T54.setTop (mkF m 240 #[.val (.int p1), .val (.long q2), .second, .val (.int p3), .val (.long q4), .second, .val (.int (3 : Int32)), .val (.int f), .val (.ref b1), .unset, .unset, .unset, .unset] [(.long q2), (.int ((3 : Int32) + (7 : Int32))), (.ref b1)])) _
    refine XS.l2i X54.here hx rfl (hb hby at_240) rfl ?_
    refine XS.i2b X54.here hx rfl (hb hby at_241) rfl ?_
    show Steps p.tables e below (T54.setTop (mkF m 242 #[.val (.int p1), .val (.long q2), .second, .val (.int p3), .val (.long q4), .second, .val (.int (3 : Int32)), .val (.int f), .val (.ref b1), .unset, .unset, .unset, .unset] [(.int ((q2.toInt32).toInt8.toInt32)), (.int ((3 : Int32) + (7 : Int32))), (.ref b1)])) _
    rw [← hv19]
    show Steps p.tables e below (T54.setTop (mkF m 242 #[.val (.int p1), .val (.long q2), .second, .val (.int p3), .val (.long q4), .second, .val (.int (3 : Int32)), .val (.int f), .val (.ref b1), .unset, .unset, .unset, .unset] [(.int v19), (.int ((3 : Int32) + (7 : Int32))), (.ref b1)])) _
    refine st57 _ ?_
    show Steps p.tables e below (T57.setTop (mkF m 243 #[.val (.int p1), .val (.long q2), .second, .val (.int p3), .val (.long q4), .second, .val (.int (3 : Int32)), .val (.int f), .val (.ref b1), .unset, .unset, .unset, .unset] [])) _
    refine XS.lloadN X57.here hx rfl (hb hby at_243) rfl ?_
    show Steps p.tables e below (T57.setTop (mkF m 244 #[.val (.int p1), .val (.long q2), .second, .val (.int p3), .val (.long q4), .second, .val (.int (3 : Int32)), .val (.int f), .val (.ref b1), .unset, .unset, .unset, .unset] [(.long q2)])) _
    refine X57.ldc2Long hx hown (mvT hZ (hw _ (List.mem_of_getElem? (i := 2) rfl))) (g := (mkF m 244 #[.val (.int p1), .val (.long q2), .second, .val (.int p3), .val (.long q4), .second, .val (.int (3 : Int32)), .val (.int f), .val (.ref b1), .unset, .unset, .unset, .unset] [(.long q2)])) rfl (hb hby at_244) _ ?_
    show Steps p.tables e below (T57.setTop (mkF m 247 #[.val (.int p1), .val (.long q2), .second, .val (.int p3), .val (.long q4), .second, .val (.int (3 : Int32)), .val (.int f), .val (.ref b1), .unset, .unset, .unset, .unset] [(.long (72057594037927935 : Int64)), (.long q2)])) _
    refine XS.land X57.here hx rfl (hb hby at_247) rfl ?_
    show Steps p.tables e below (T57.setTop (mkF m 248 #[.val (.int p1), .val (.long q2), .second, .val (.int p3), .val (.long q4), .second, .val (.int (3 : Int32)), .val (.int f), .val (.ref b1), .unset, .unset, .unset, .unset] [(.long (q2 &&& (72057594037927935 : Int64)))])) _
    refine XS.lstore X57.here hx rfl (hb hby at_248) rfl (l' := #[.val (.int p1), .val (.long q2), .second, .val (.int p3), .val (.long q4), .second, .val (.int (3 : Int32)), .val (.int f), .val (.ref b1), .val (.long (q2 &&& (72057594037927935 : Int64))), .second, .unset, .unset]) rfl ?_
    show Steps p.tables e below (T57.setTop (mkF m 250 #[.val (.int p1), .val (.long q2), .second, .val (.int p3), .val (.long q4), .second, .val (.int (3 : Int32)), .val (.int f), .val (.ref b1), .val (.long (q2 &&& (72057594037927935 : Int64))), .second, .unset, .unset] [])) _
    refine XS.iload X57.here hx rfl (hb hby at_250) rfl ?_
    refine XS.lload X57.here hx rfl (hb hby at_252) rfl ?_
    show Steps p.tables e below (T57.setTop (mkF m 254 #[.val (.int p1), .val (.long q2), .second, .val (.int p3), .val (.long q4), .second, .val (.int (3 : Int32)), .val (.int f), .val (.ref b1), .val (.long (q2 &&& (72057594037927935 : Int64))), .second, .unset, .unset] [(.long (q2 &&& (72057594037927935 : Int64))), (.int f)])) _
    refine st60 _ ?_
    show Steps p.tables e below (T60.setTop (mkF m 257 #[.val (.int p1), .val (.long q2), .second, .val (.int p3), .val (.long q4), .second, .val (.int (3 : Int32)), .val (.int f), .val (.ref b1), .val (.long (q2 &&& (72057594037927935 : Int64))), .second, .unset, .unset] [(.long w60)])) _
    refine XS.lstore X60.here hx rfl (hb hby at_257) rfl (l' := #[.val (.int p1), .val (.long q2), .second, .val (.int p3), .val (.long q4), .second, .val (.int (3 : Int32)), .val (.int f), .val (.ref b1), .val (.long (q2 &&& (72057594037927935 : Int64))), .second, .val (.long w60), .second]) rfl ?_
    show Steps p.tables e below (T60.setTop (mkF m 259 #[.val (.int p1), .val (.long q2), .second, .val (.int p3), .val (.long q4), .second, .val (.int (3 : Int32)), .val (.int f), .val (.ref b1), .val (.long (q2 &&& (72057594037927935 : Int64))), .second, .val (.long w60), .second] [])) _
    refine XS.aload X60.here hx rfl (hb hby at_259) rfl rfl ?_
    refine XS.iload X60.here hx rfl (hb hby at_261) rfl ?_
    show Steps p.tables e below (T60.setTop (mkF m 263 #[.val (.int p1), .val (.long q2), .second, .val (.int p3), .val (.long q4), .second, .val (.int (3 : Int32)), .val (.int f), .val (.ref b1), .val (.long (q2 &&& (72057594037927935 : Int64))), .second, .val (.long w60), .second] [(.int (3 : Int32)), (.ref b1)])) _
    refine st61 _ ?_
    show Steps p.tables e below (T61.setTop (mkF m 266 #[.val (.int p1), .val (.long q2), .second, .val (.int p3), .val (.long q4), .second, .val (.int (3 : Int32)), .val (.int f), .val (.ref b1), .val (.long (q2 &&& (72057594037927935 : Int64))), .second, .val (.long w60), .second] [(.long w61)])) _
    refine XS.lload X61.here hx rfl (hb hby at_266) rfl ?_
    show Steps p.tables e below (T61.setTop (mkF m 268 #[.val (.int p1), .val (.long q2), .second, .val (.int p3), .val (.long q4), .second, .val (.int (3 : Int32)), .val (.int f), .val (.ref b1), .val (.long (q2 &&& (72057594037927935 : Int64))), .second, .val (.long w60), .second] [(.long w60), (.long w61)])) _
    refine XS.lcmp X61.here hx rfl (hb hby at_268) rfl ?_
    show Steps p.tables e below (T61.setTop (mkF m 269 #[.val (.int p1), .val (.long q2), .second, .val (.int p3), .val (.long q4), .second, .val (.int (3 : Int32)), .val (.int f), .val (.ref b1), .val (.long (q2 &&& (72057594037927935 : Int64))), .second, .val (.long w60), .second] [(.int (lcmpW w61 w60))])) _
    refine XS.ifNo X61.here hx rfl (hb hby at_269) rfl ((if0 _ _).trans (teq (own_cmp V60 V61 : (lcmpW w61 w60) = (0 : Int32))).2) ?_
    show Steps p.tables e below (T61.setTop (mkF m 272 #[.val (.int p1), .val (.long q2), .second, .val (.int p3), .val (.long q4), .second, .val (.int (3 : Int32)), .val (.int f), .val (.ref b1), .val (.long (q2 &&& (72057594037927935 : Int64))), .second, .val (.long w60), .second] [])) _
    refine XS.iconst X61.here hx rfl (hb hby at_272) ?_
    show Steps p.tables e below (T61.setTop (mkF m 273 #[.val (.int p1), .val (.long q2), .second, .val (.int p3), .val (.long q4), .second, .val (.int (3 : Int32)), .val (.int f), .val (.ref b1), .val (.long (q2 &&& (72057594037927935 : Int64))), .second, .val (.long w60), .second] [(.int (1 : Int32))])) _
    refine XS.goto X61.here hx rfl (pc0 := 273) (pc' := 277) rfl (hb hby at_273) (by decide) (by decide) ?_
    show Steps p.tables e below (T61.setTop (mkF m 277 #[.val (.int p1), .val (.long q2), .second, .val (.int p3), .val (.long q4), .second, .val (.int (3 : Int32)), .val (.int f), .val (.ref b1), .val (.long (q2 &&& (72057594037927935 : Int64))), .second, .val (.long w60), .second] [(.int (1 : Int32))])) _
    exact retN X61 hx (t := .boolean) Bd.returns (by simp) (hb hby at_277) hr
  · show own_Qk (some (.int (1 : Int32))) h0 n0 _ T61.heap _
    rw [e61]
    exact ⟨rfl, N61, K57⟩
theorem own_at {args : Array Value} {Z : State} {t a : Term} {x : Addr} {cl : Cell} {j v n : Int32} (S : Scr Z Z.heap x cl n) (h : (Term.elem t a).eval args Z none [] Z = some (.int v)) (ht : t.eval args Z none [] Z = some (.ref x)) (hj : a.eval args Z none [] Z = some (.int j)) : atv cl j = v := by
  have q := elem_in h ht hj S.1.1
  have := S.2.2.2 j q.1
  rw [q.2] at this
  exact (Value.int.inj (Option.some.inj this)).symm
theorem own_in {cl : Cell} {n j : Int32} {Z : State} {h : Heap} {x : Addr} (S : Scr Z h x cl n) (h0 : 0 ≤ j.toInt) (h1 : j.toInt < n.toInt) : j.toNatClampNeg < cl.slots.size := by
  rw [S.2.1]; simp only [Int32.toNatClampNeg]; omega
theorem own_ix {args : Array Value} {Z : State} {j : Int32} (h0 : 0 ≤ j.toInt) : (Term.index 0).eval args Z none [j.toNatClampNeg] Z = some (.int j) := idx_at (by rw [Int32.lt_iff_toInt_lt]; have z : (0 : Int32).toInt = 0 := rfl; omega)
theorem own_el {args : Array Value} {Z : State} {t : Term} {x : Addr} {cl : Cell} {j n : Int32} (S : Scr Z Z.heap x cl n) (ht : t.eval args Z none [j.toNatClampNeg] Z = some (.ref x)) (h0 : 0 ≤ j.toInt) (h1 : j.toInt < n.toInt) : (Term.elem t (Term.index 0)).eval args Z none [j.toNatClampNeg] Z = some (.int (atv cl j)) := by
  have hj0 : ¬ j < 0 := by rw [Int32.lt_iff_toInt_lt]; have z : (0 : Int32).toInt = 0 := rfl; omega
  have ha : Z.arrayAt? x = some cl := Arr.fin (State.Warmed39.refl Z).alike S.1
  rw [elem_f ht (own_ix h0) ha hj0]
  exact S.2.2.2 j (fun q => q.elim hj0 fun u => absurd (own_in S h0 h1) (Nat.not_lt.mpr u))
theorem own_or {args : Array Value} {Z : State} {idx : List Nat} {c d : Cond} {P : Prop} [Decidable P] (h1 : c.value args Z none Z idx = some (decide P)) (h : (Cond.or c d).value args Z none Z idx = some true) (hn : ¬ P) : d.value args Z none Z idx = some true := by
  simp only [Cond.value, h1, decide_eq_false hn] at h
  cases hd : d.value args Z none Z idx with
  | none => simp [hd] at h
  | some b => simpa [hd] using h
theorem own_eqV {args : Array Value} {Z : State} {idx : List Nat} {t u : Term} {x y : Int32} (h : (Cond.eq t u).value args Z none Z idx = some true) (h1 : t.eval args Z none idx Z = some (.int x)) (h2 : u.eval args Z none idx Z = some (.int y)) : x = y := by
  simpa [Cond.value, h1, h2] using h
theorem own_eqW {args : Array Value} {Z : State} {idx : List Nat} {t u : Term} {x y : Int64} (h : (Cond.eq t u).value args Z none Z idx = some true) (h1 : t.eval args Z none idx Z = some (.long x)) (h2 : u.eval args Z none idx Z = some (.long y)) : x = y := by
  simpa [Cond.value, h1, h2] using h
theorem le_I {args : Array Value} {first s : State} {o : Option Outcome} {idx : List Nat} {a b : Term} {x y : Int32} (ha : a.eval args first o idx s = some (.int x)) (hb : b.eval args first o idx s = some (.int y)) : (Cond.le a b).value args first o s idx = some (decide (x ≤ y)) := by simp [Cond.value, ha, hb]
theorem lt_I {args : Array Value} {first s : State} {o : Option Outcome} {idx : List Nat} {a b : Term} {x y : Int32} (ha : a.eval args first o idx s = some (.int x)) (hb : b.eval args first o idx s = some (.int y)) : (Cond.lt a b).value args first o s idx = some (decide (x < y)) := by simp [Cond.value, ha, hb]
theorem sub_I {args : Array Value} {first s : State} {o : Option Outcome} {idx : List Nat} {a b : Term} {x y : Int32} (ha : a.eval args first o idx s = some (.int x)) (hb : b.eval args first o idx s = some (.int y)) : (Term.sub a b).eval args first o idx s = some (.int (x - y)) := by simp [Term.eval, ha, hb]
theorem own_i2lj {x y : Int32} {z : Int64} (h : x.toInt64 = z) (e : y.toInt64 = z) : x = y := by
  apply Int32.toInt_inj.mp
  rw [← Int32.toInt_toInt64 x, ← Int32.toInt_toInt64 y, h, e]
theorem own_law (l : Launch) (Z : State) (a0 : Array Value) (hw : ∀ d ∈ tables_1, d.before a0 Z = true) (ws : List Jvm.Cond) (s_R s_F s_E s_L : Addr) (cl_R cl_F cl_E : Cell) (k_L : ClassId) (h0 : Heap) (n0 : Nat) (O0 : Old Z n0 h0) (G : own_Ctx Z Z.heap s_R s_F s_E s_L cl_R cl_F cl_E k_L) (p1 : Int32) (q2 : Int64) (p3 : Int32) (q4 : Int64) : MetFree l x (head1 (Jvm.Cond.code x code maxLocals ret :: ws) room_1) (fun a U => a = #[(.int p1), (.long q2), (.int p3), (.long q4)] ∧ Z.Warmed39 U.vm ∧ U.heap = h0) (fun _ _ _ _ _ => True) (fun _ U o U' => ∃ v L, o = .returned v ∧ own_Qk (some (.int (1 : Int32))) h0 n0 v U'.heap L ∧ FrameEnd U o U' L 16 128) := by
  rcases own_and p3 with hs | hs | hs | hs
  · exact r_law_0 l Z a0 hw ws s_R s_F s_E s_L cl_R cl_F cl_E k_L h0 n0 O0 G p1 q2 p3 q4 _ hs rfl (own_f p1).1 (own_f p1).2
  · exact r_law_1 l Z a0 hw ws s_R s_F s_E s_L cl_R cl_F cl_E k_L h0 n0 O0 G p1 q2 p3 q4 _ hs rfl (own_f p1).1 (own_f p1).2
  · exact r_law_2 l Z a0 hw ws s_R s_F s_E s_L cl_R cl_F cl_E k_L h0 n0 O0 G p1 q2 p3 q4 _ hs rfl (own_f p1).1 (own_f p1).2
  · exact r_law_3 l Z a0 hw ws s_R s_F s_E s_L cl_R cl_F cl_E k_L h0 n0 O0 G p1 q2 p3 q4 _ hs rfl (own_f p1).1 (own_f p1).2
set_option maxRecDepth 65536 in
set_option maxHeartbeats 40000000 in
theorem comes_1 {Post : Tables → Env → Array Value → State → Outcome → State → Prop} (hpost : ∀ tb e args s v u, (limb_1_1.after args s (.returned v) u = true ∧ limb_1_2.after args s (.returned v) u = true ∧ True) → FrameEnd s (.returned v) u (Jvm.fieldLocs frame_1_writes args s ++ Jvm.arrayLocs frame_1_arrays args s ++ Jvm.staticLocs frame_1_statics s) 16 128 → Post tb e args s (.returned v) u) :
    ArmFor flags0 classFile x code maxLocals ret World_1 tables_1 room_1 Calls_1 rest_1 Pre_1 Post := by
  intro l hfl _ _ p e ha hc hk s m args below hf hA hF happ hP
  obtain ⟨hcalls, hrest, hpre⟩ := hP
  obtain ⟨-, -, -, hnamed, -, -, -, hat⟩ := (Spec.applies_iff hf).mp happ
  obtain ⟨hg, hn⟩ := and_e (Cond.before_iff.mp (show (Jvm.Cond.and given_1 narrow_1).before args s = true from hpre))
  obtain ⟨hg0, hg1⟩ := and_e hg
  obtain ⟨hg10, hg11⟩ := and_e hg1
  obtain ⟨hg110, hg111⟩ := and_e hg11
  obtain ⟨hg1110, hg1111⟩ := and_e hg111
  obtain ⟨w0, w1, w2, w3, rfl⟩ : ∃ w0 w1 w2 w3 : Value, args = #[w0, w1, w2, w3] := by
    have hs : args.size = 4 := by simpa [Cond.value, given_1] using hg0
    obtain ⟨L⟩ := args
    match L, hs with
    | [w0, w1, w2, w3], _ => exact ⟨w0, w1, w2, w3, rfl⟩
  obtain ⟨i0, ei0⟩ := is_v hg10
  obtain rfl : w0 = (.int i0) := Option.some.inj ei0
  obtain ⟨i1, ei1⟩ := isL_v hg110
  obtain rfl : w1 = (.long i1) := Option.some.inj ei1
  obtain ⟨i2, ei2⟩ := is_v hg1110
  obtain rfl : w2 = (.int i2) := Option.some.inj ei2
  obtain ⟨i3, ei3⟩ := isL_v hg1111
  obtain rfl : w3 = (.long i3) := Option.some.inj ei3
  have hw := fun d (hd : d ∈ tables_1) => atoms_spec (ws := Jvm.Cond.code x code maxLocals ret :: tables_1) hat d (List.mem_cons_of_mem _ hd)
  have hfit : Fit s := fun {y c} hc i hi => by
    obtain ⟨ha, rfl⟩ := Array.getElem?_eq_some_iff.mp hc
    have q := List.all_eq_true.mp ((Array.all_eq_true_iff_forall_mem.mp hF) _ (Array.getElem_mem ha)) i (List.mem_range.mpr hi)
    simpa [Array.getElem?_eq_getElem hi] using q
  obtain ⟨hn0, hn1⟩ := and_e hn
  obtain ⟨hn10, hn11⟩ := and_e hn1
  obtain ⟨hn110, hn111⟩ := and_e hn11
  obtain ⟨hn1110, hn1111⟩ := and_e hn111
  obtain ⟨hn11110, hn11111⟩ := and_e hn1111
  obtain ⟨hn111110, hn111111⟩ := and_e hn11111
  obtain ⟨hn1111110, hn1111111⟩ := and_e hn111111
  obtain ⟨hn11111110, hn11111111⟩ := and_e hn1111111
  obtain ⟨hn111111110, hn111111111⟩ := and_e hn11111111
  obtain ⟨hn1111111110, hn1111111111⟩ := and_e hn111111111
  obtain ⟨hn11111111110, hn11111111111⟩ := and_e hn1111111111
  obtain ⟨hn111111111110, hn111111111111⟩ := and_e hn11111111111
  obtain ⟨hn1111111111110, hn1111111111111⟩ := and_e hn111111111111
  obtain ⟨hn11111111111110, hn11111111111111⟩ := and_e hn1111111111111
  obtain ⟨hn111111111111110, hn111111111111111⟩ := and_e hn11111111111111
  obtain ⟨hn1111111111111110, hn1111111111111111⟩ := and_e hn111111111111111
  obtain ⟨hn11111111111111110, hn11111111111111111⟩ := and_e hn1111111111111111
  obtain ⟨hn111111111111111110, hn111111111111111111⟩ := and_e hn11111111111111111
  obtain ⟨hn1111111111111111110, hn1111111111111111111⟩ := and_e hn111111111111111111
  obtain ⟨hn11111111111111111110, hn11111111111111111111⟩ := and_e hn1111111111111111111
  obtain ⟨hn111111111111111111110, hn111111111111111111111⟩ := and_e hn11111111111111111111
  obtain ⟨hn1111111111111111111110, hn1111111111111111111111⟩ := and_e hn111111111111111111111
  obtain ⟨hn11111111111111111111110, hn11111111111111111111111⟩ := and_e hn1111111111111111111111
  obtain ⟨hn111111111111111111111110, hn111111111111111111111111⟩ := and_e hn11111111111111111111111
  obtain ⟨hn1111111111111111111111110, hn1111111111111111111111111⟩ := and_e hn111111111111111111111111
  obtain ⟨hn11111111111111111111111110, hn11111111111111111111111111⟩ := and_e hn1111111111111111111111111
  obtain ⟨hn111111111111111111111111110, hn111111111111111111111111111⟩ := and_e hn11111111111111111111111111
  obtain ⟨hn1111111111111111111111111110, hn1111111111111111111111111111⟩ := and_e hn111111111111111111111111111
  obtain ⟨hn11111111111111111111111111110, hn11111111111111111111111111111⟩ := and_e hn1111111111111111111111111111
  obtain ⟨hn111111111111111111111111111110, hn111111111111111111111111111111⟩ := and_e hn11111111111111111111111111111
  obtain ⟨hn1111111111111111111111111111110, hn1111111111111111111111111111111⟩ := and_e hn111111111111111111111111111111
  obtain ⟨hn11111111111111111111111111111110, hn11111111111111111111111111111111⟩ := and_e hn1111111111111111111111111111111
  obtain ⟨hn111111111111111111111111111111110, hn111111111111111111111111111111111⟩ := and_e hn11111111111111111111111111111111
  obtain ⟨hn1111111111111111111111111111111110, hn1111111111111111111111111111111111⟩ := and_e hn111111111111111111111111111111111
  obtain ⟨hn11111111111111111111111111111111110, hn11111111111111111111111111111111111⟩ := and_e hn1111111111111111111111111111111111
  obtain ⟨hn111111111111111111111111111111111110, hn111111111111111111111111111111111111⟩ := and_e hn11111111111111111111111111111111111
  obtain ⟨hn1111111111111111111111111111111111110, hn1111111111111111111111111111111111111⟩ := and_e hn111111111111111111111111111111111111
  obtain ⟨hn11111111111111111111111111111111111110, hn11111111111111111111111111111111111111⟩ := and_e hn1111111111111111111111111111111111111
  obtain ⟨hn111111111111111111111111111111111111110, hn111111111111111111111111111111111111111⟩ := and_e hn11111111111111111111111111111111111111
  obtain ⟨hn1111111111111111111111111111111111111110, hn1111111111111111111111111111111111111111⟩ := and_e hn111111111111111111111111111111111111111
  obtain ⟨s_R, ev_R⟩ := arr_v hn0
  have S_R := Sta.start ev_R (Or.inr ⟨(hw _ (List.mem_of_getElem? (i := 13) rfl)), (hw _ (List.mem_of_getElem? (i := 16) rfl))⟩)
  obtain ⟨cl_R, A_R⟩ := Arr.start ev_R hn0
  obtain ⟨z1_R, z2_R⟩ := own_len A_R ev_R (own_eqI hn10)
  obtain ⟨n_R, en_R, C_R⟩ := Scr.start hfit A_R z1_R
  obtain rfl : n_R = (256 : Int32) := en_R.trans z2_R
  obtain ⟨s_F, ev_F⟩ := arr_v hn110
  have S_F := Sta.start ev_F (Or.inr ⟨(hw _ (List.mem_of_getElem? (i := 13) rfl)), (hw _ (List.mem_of_getElem? (i := 18) rfl))⟩)
  obtain ⟨cl_F, A_F⟩ := Arr.start ev_F hn110
  obtain ⟨z1_F, z2_F⟩ := own_len A_F ev_F (own_eqI hn1110)
  obtain ⟨n_F, en_F, C_F⟩ := Scr.start hfit A_F z1_F
  obtain rfl : n_F = (15 : Int32) := en_F.trans z2_F
  obtain ⟨s_E, ev_E⟩ := arr_v hn11110
  have S_E := Sta.start ev_E (Or.inr ⟨(hw _ (List.mem_of_getElem? (i := 13) rfl)), (hw _ (List.mem_of_getElem? (i := 20) rfl))⟩)
  obtain ⟨cl_E, A_E⟩ := Arr.start ev_E hn11110
  obtain ⟨z1_E, z2_E⟩ := own_len A_E ev_E (own_eqI hn111110)
  obtain ⟨n_E, en_E, C_E⟩ := Scr.start hfit A_E z1_E
  obtain rfl : n_E = (15 : Int32) := en_E.trans z2_E
  obtain ⟨s_L, ev_L⟩ := arr_v hn1111110
  have S_L := Sta.start ev_L (Or.inr ⟨(hw _ (List.mem_of_getElem? (i := 13) rfl)), (hw _ (List.mem_of_getElem? (i := 22) rfl))⟩)
  obtain ⟨cl_L, A_L⟩ := Arr.start ev_L hn1111110
  obtain ⟨z1_L, z2_L⟩ := own_len A_L ev_L (own_eqI hn11111110)
  have V_L : Arv s s.heap s_L cl_L.cls .long (15 : Int32) [(.long (-72340172838082848 : Int64)), (.long (-282578800154912 : Int64)), (.long (-1103823444256 : Int64)), (.long (-4311816480 : Int64)), (.long (-16849184 : Int64)), (.long (-71968 : Int64)), (.long (-6432 : Int64)), (.long (-32 : Int64)), (.long (160 : Int64)), (.long (6560 : Int64)), (.long (72096 : Int64)), (.long (16849312 : Int64)), (.long (4311816608 : Int64)), (.long (1103823444384 : Int64)), (.long (282578800155040 : Int64))] (.long (0 : Int64)) := Arv.start hfit A_L z1_L z2_L (by decide) rfl ⟨(elem_in (own_eqJ hn111111111111111111111111110) ev_L (Term.int_eval 0) A_L.1).2, (elem_in (own_eqJ hn1111111111111111111111111110) ev_L (Term.int_eval 1) A_L.1).2, (elem_in (own_eqJ hn11111111111111111111111111110) ev_L (Term.int_eval 2) A_L.1).2, (elem_in (own_eqJ hn111111111111111111111111111110) ev_L (Term.int_eval 3) A_L.1).2, (elem_in (own_eqJ hn1111111111111111111111111111110) ev_L (Term.int_eval 4) A_L.1).2, (elem_in (own_eqJ hn11111111111111111111111111111110) ev_L (Term.int_eval 5) A_L.1).2, (elem_in (own_eqJ hn111111111111111111111111111111110) ev_L (Term.int_eval 6) A_L.1).2, (elem_in (own_eqJ hn1111111111111111111111111111111110) ev_L (Term.int_eval 7) A_L.1).2, (elem_in (own_eqJ hn11111111111111111111111111111111110) ev_L (Term.int_eval 8) A_L.1).2, (elem_in (own_eqJ hn111111111111111111111111111111111110) ev_L (Term.int_eval 9) A_L.1).2, (elem_in (own_eqJ hn1111111111111111111111111111111111110) ev_L (Term.int_eval 10) A_L.1).2, (elem_in (own_eqJ hn11111111111111111111111111111111111110) ev_L (Term.int_eval 11) A_L.1).2, (elem_in (own_eqJ hn111111111111111111111111111111111111110) ev_L (Term.int_eval 12) A_L.1).2, (elem_in (own_eqJ hn1111111111111111111111111111111111111110) ev_L (Term.int_eval 13) A_L.1).2, (elem_in (own_eqJ hn1111111111111111111111111111111111111111) ev_L (Term.int_eval 14) A_L.1).2, trivial⟩
  have R_1 : ∀ j : Int32, 1 ≤ j.toInt → j.toInt ≤ 7 → atv cl_R j = j - (1 : Int32) := fun j q1 q2 => by
    have z0 : ∀ k : Int32, (Term.int k).eval #[(.int i0), (.long i1), (.int i2), (.long i3)] s none [j.toNatClampNeg] s = some (.int k) := fun k => rfl
    have hx := own_ix (args := #[(.int i0), (.long i1), (.int i2), (.long i3)]) (Z := s) (j := j) (by omega)
    have he := own_el (j := j) C_R (show (Term.static "com/example/rattan/rattan/storage/label/ComponentCode" "RANGE_OF_FIRST" "[I").eval #[(.int i0), (.long i1), (.int i2), (.long i3)] s none [j.toNatClampNeg] s = _ from ev_R) (by omega) (by show _ < 256; omega)
    have w := Cond.all_elim ev_R (Arr.fin (State.Warmed39.refl s).alike A_R) hn111111110 j.toNatClampNeg (own_in (j := j) C_R (by omega) (by show _ < 256; omega))
    have c8 : (8 : Int32).toInt = 8 := rfl
    replace w := own_or (le_I (z0 (8 : Int32)) hx) w (by rw [Int32.le_iff_toInt_le]; omega)
    exact own_eqV w he (sub_I hx (z0 (1 : Int32)))
  have R_2 : ∀ j : Int32, 8 ≤ j.toInt → j.toInt ≤ 31 → atv cl_R j = (6 : Int32) := fun j q1 q2 => by
    have z0 : ∀ k : Int32, (Term.int k).eval #[(.int i0), (.long i1), (.int i2), (.long i3)] s none [j.toNatClampNeg] s = some (.int k) := fun k => rfl
    have hx := own_ix (args := #[(.int i0), (.long i1), (.int i2), (.long i3)]) (Z := s) (j := j) (by omega)
    have he := own_el (j := j) C_R (show (Term.static "com/example/rattan/rattan/storage/label/ComponentCode" "RANGE_OF_FIRST" "[I").eval #[(.int i0), (.long i1), (.int i2), (.long i3)] s none [j.toNatClampNeg] s = _ from ev_R) (by omega) (by show _ < 256; omega)
    have w := Cond.all_elim ev_R (Arr.fin (State.Warmed39.refl s).alike A_R) hn1111111110 j.toNatClampNeg (own_in (j := j) C_R (by omega) (by show _ < 256; omega))
    have c8 : (8 : Int32).toInt = 8 := rfl
    replace w := own_or (lt_I hx (z0 (8 : Int32))) w (by rw [Int32.lt_iff_toInt_lt]; omega)
    have c32 : (32 : Int32).toInt = 32 := rfl
    replace w := own_or (le_I (z0 (32 : Int32)) hx) w (by rw [Int32.le_iff_toInt_le]; omega)
    exact own_eqV w he (z0 (6 : Int32))
  have R_3 : ∀ j : Int32, 32 ≤ j.toInt → j.toInt ≤ 223 → atv cl_R j = (7 : Int32) := fun j q1 q2 => by
    have z0 : ∀ k : Int32, (Term.int k).eval #[(.int i0), (.long i1), (.int i2), (.long i3)] s none [j.toNatClampNeg] s = some (.int k) := fun k => rfl
    have hx := own_ix (args := #[(.int i0), (.long i1), (.int i2), (.long i3)]) (Z := s) (j := j) (by omega)
    have he := own_el (j := j) C_R (show (Term.static "com/example/rattan/rattan/storage/label/ComponentCode" "RANGE_OF_FIRST" "[I").eval #[(.int i0), (.long i1), (.int i2), (.long i3)] s none [j.toNatClampNeg] s = _ from ev_R) (by omega) (by show _ < 256; omega)
    have w := Cond.all_elim ev_R (Arr.fin (State.Warmed39.refl s).alike A_R) hn11111111110 j.toNatClampNeg (own_in (j := j) C_R (by omega) (by show _ < 256; omega))
    have c32 : (32 : Int32).toInt = 32 := rfl
    replace w := own_or (lt_I hx (z0 (32 : Int32))) w (by rw [Int32.lt_iff_toInt_lt]; omega)
    have c224 : (224 : Int32).toInt = 224 := rfl
    replace w := own_or (le_I (z0 (224 : Int32)) hx) w (by rw [Int32.le_iff_toInt_le]; omega)
    exact own_eqV w he (z0 (7 : Int32))
  have R_4 : ∀ j : Int32, 224 ≤ j.toInt → j.toInt ≤ 248 → atv cl_R j = (8 : Int32) := fun j q1 q2 => by
    have z0 : ∀ k : Int32, (Term.int k).eval #[(.int i0), (.long i1), (.int i2), (.long i3)] s none [j.toNatClampNeg] s = some (.int k) := fun k => rfl
    have hx := own_ix (args := #[(.int i0), (.long i1), (.int i2), (.long i3)]) (Z := s) (j := j) (by omega)
    have he := own_el (j := j) C_R (show (Term.static "com/example/rattan/rattan/storage/label/ComponentCode" "RANGE_OF_FIRST" "[I").eval #[(.int i0), (.long i1), (.int i2), (.long i3)] s none [j.toNatClampNeg] s = _ from ev_R) (by omega) (by show _ < 256; omega)
    have w := Cond.all_elim ev_R (Arr.fin (State.Warmed39.refl s).alike A_R) hn111111111110 j.toNatClampNeg (own_in (j := j) C_R (by omega) (by show _ < 256; omega))
    have c224 : (224 : Int32).toInt = 224 := rfl
    replace w := own_or (lt_I hx (z0 (224 : Int32))) w (by rw [Int32.lt_iff_toInt_lt]; omega)
    have c249 : (249 : Int32).toInt = 249 := rfl
    replace w := own_or (le_I (z0 (249 : Int32)) hx) w (by rw [Int32.le_iff_toInt_le]; omega)
    exact own_eqV w he (z0 (8 : Int32))
  have R_5 : ∀ j : Int32, 249 ≤ j.toInt → j.toInt ≤ 254 → atv cl_R j = j - (240 : Int32) := fun j q1 q2 => by
    have z0 : ∀ k : Int32, (Term.int k).eval #[(.int i0), (.long i1), (.int i2), (.long i3)] s none [j.toNatClampNeg] s = some (.int k) := fun k => rfl
    have hx := own_ix (args := #[(.int i0), (.long i1), (.int i2), (.long i3)]) (Z := s) (j := j) (by omega)
    have he := own_el (j := j) C_R (show (Term.static "com/example/rattan/rattan/storage/label/ComponentCode" "RANGE_OF_FIRST" "[I").eval #[(.int i0), (.long i1), (.int i2), (.long i3)] s none [j.toNatClampNeg] s = _ from ev_R) (by omega) (by show _ < 256; omega)
    have w := Cond.all_elim ev_R (Arr.fin (State.Warmed39.refl s).alike A_R) hn1111111111110 j.toNatClampNeg (own_in (j := j) C_R (by omega) (by show _ < 256; omega))
    have c249 : (249 : Int32).toInt = 249 := rfl
    replace w := own_or (lt_I hx (z0 (249 : Int32))) w (by rw [Int32.lt_iff_toInt_lt]; omega)
    have c255 : (255 : Int32).toInt = 255 := rfl
    replace w := own_or (le_I (z0 (255 : Int32)) hx) w (by rw [Int32.le_iff_toInt_le]; omega)
    exact own_eqV w he (sub_I hx (z0 (240 : Int32)))
  have F_0 : atv cl_F (0 : Int32) = (1 : Int32) := by
    have hx := own_ix (args := #[(.int i0), (.long i1), (.int i2), (.long i3)]) (Z := s) (j := (0 : Int32)) (by decide)
    have he := own_el (j := (0 : Int32)) C_F (show (Term.static "com/example/rattan/rattan/storage/label/ComponentCode" "FIRST" "[I").eval #[(.int i0), (.long i1), (.int i2), (.long i3)] s none [(0 : Int32).toNatClampNeg] s = _ from ev_F) (by decide) (by decide)
    have w := Cond.all_elim ev_F (Arr.fin (State.Warmed39.refl s).alike A_F) hn111111111111110 (0 : Int32).toNatClampNeg (own_in (j := (0 : Int32)) C_F (by decide) (by decide))
    replace w := own_or (le_I rfl hx) w (by decide)
    have q := own_eqW w (op1_f he) ((op2_f (op1_f hx) rfl).trans rfl)
    exact own_i2lj q (by decide)
  have F_1 : atv cl_F (1 : Int32) = (2 : Int32) := by
    have hx := own_ix (args := #[(.int i0), (.long i1), (.int i2), (.long i3)]) (Z := s) (j := (1 : Int32)) (by decide)
    have he := own_el (j := (1 : Int32)) C_F (show (Term.static "com/example/rattan/rattan/storage/label/ComponentCode" "FIRST" "[I").eval #[(.int i0), (.long i1), (.int i2), (.long i3)] s none [(1 : Int32).toNatClampNeg] s = _ from ev_F) (by decide) (by decide)
    have w := Cond.all_elim ev_F (Arr.fin (State.Warmed39.refl s).alike A_F) hn111111111111110 (1 : Int32).toNatClampNeg (own_in (j := (1 : Int32)) C_F (by decide) (by decide))
    replace w := own_or (le_I rfl hx) w (by decide)
    have q := own_eqW w (op1_f he) ((op2_f (op1_f hx) rfl).trans rfl)
    exact own_i2lj q (by decide)
  have F_2 : atv cl_F (2 : Int32) = (3 : Int32) := by
    have hx := own_ix (args := #[(.int i0), (.long i1), (.int i2), (.long i3)]) (Z := s) (j := (2 : Int32)) (by decide)
    have he := own_el (j := (2 : Int32)) C_F (show (Term.static "com/example/rattan/rattan/storage/label/ComponentCode" "FIRST" "[I").eval #[(.int i0), (.long i1), (.int i2), (.long i3)] s none [(2 : Int32).toNatClampNeg] s = _ from ev_F) (by decide) (by decide)
    have w := Cond.all_elim ev_F (Arr.fin (State.Warmed39.refl s).alike A_F) hn111111111111110 (2 : Int32).toNatClampNeg (own_in (j := (2 : Int32)) C_F (by decide) (by decide))
    replace w := own_or (le_I rfl hx) w (by decide)
    have q := own_eqW w (op1_f he) ((op2_f (op1_f hx) rfl).trans rfl)
    exact own_i2lj q (by decide)
  have F_3 : atv cl_F (3 : Int32) = (4 : Int32) := by
    have hx := own_ix (args := #[(.int i0), (.long i1), (.int i2), (.long i3)]) (Z := s) (j := (3 : Int32)) (by decide)
    have he := own_el (j := (3 : Int32)) C_F (show (Term.static "com/example/rattan/rattan/storage/label/ComponentCode" "FIRST" "[I").eval #[(.int i0), (.long i1), (.int i2), (.long i3)] s none [(3 : Int32).toNatClampNeg] s = _ from ev_F) (by decide) (by decide)
    have w := Cond.all_elim ev_F (Arr.fin (State.Warmed39.refl s).alike A_F) hn111111111111110 (3 : Int32).toNatClampNeg (own_in (j := (3 : Int32)) C_F (by decide) (by decide))
    replace w := own_or (le_I rfl hx) w (by decide)
    have q := own_eqW w (op1_f he) ((op2_f (op1_f hx) rfl).trans rfl)
    exact own_i2lj q (by decide)
  have F_4 : atv cl_F (4 : Int32) = (5 : Int32) := by
    have hx := own_ix (args := #[(.int i0), (.long i1), (.int i2), (.long i3)]) (Z := s) (j := (4 : Int32)) (by decide)
    have he := own_el (j := (4 : Int32)) C_F (show (Term.static "com/example/rattan/rattan/storage/label/ComponentCode" "FIRST" "[I").eval #[(.int i0), (.long i1), (.int i2), (.long i3)] s none [(4 : Int32).toNatClampNeg] s = _ from ev_F) (by decide) (by decide)
    have w := Cond.all_elim ev_F (Arr.fin (State.Warmed39.refl s).alike A_F) hn111111111111110 (4 : Int32).toNatClampNeg (own_in (j := (4 : Int32)) C_F (by decide) (by decide))
    replace w := own_or (le_I rfl hx) w (by decide)
    have q := own_eqW w (op1_f he) ((op2_f (op1_f hx) rfl).trans rfl)
    exact own_i2lj q (by decide)
  have F_5 : atv cl_F (5 : Int32) = (6 : Int32) := by
    have hx := own_ix (args := #[(.int i0), (.long i1), (.int i2), (.long i3)]) (Z := s) (j := (5 : Int32)) (by decide)
    have he := own_el (j := (5 : Int32)) C_F (show (Term.static "com/example/rattan/rattan/storage/label/ComponentCode" "FIRST" "[I").eval #[(.int i0), (.long i1), (.int i2), (.long i3)] s none [(5 : Int32).toNatClampNeg] s = _ from ev_F) (by decide) (by decide)
    have w := Cond.all_elim ev_F (Arr.fin (State.Warmed39.refl s).alike A_F) hn111111111111110 (5 : Int32).toNatClampNeg (own_in (j := (5 : Int32)) C_F (by decide) (by decide))
    replace w := own_or (le_I rfl hx) w (by decide)
    have q := own_eqW w (op1_f he) ((op2_f (op1_f hx) rfl).trans rfl)
    exact own_i2lj q (by decide)
  have F_6 : atv cl_F (6 : Int32) = (7 : Int32) := by
    have hx := own_ix (args := #[(.int i0), (.long i1), (.int i2), (.long i3)]) (Z := s) (j := (6 : Int32)) (by decide)
    have he := own_el (j := (6 : Int32)) C_F (show (Term.static "com/example/rattan/rattan/storage/label/ComponentCode" "FIRST" "[I").eval #[(.int i0), (.long i1), (.int i2), (.long i3)] s none [(6 : Int32).toNatClampNeg] s = _ from ev_F) (by decide) (by decide)
    have w := Cond.all_elim ev_F (Arr.fin (State.Warmed39.refl s).alike A_F) hn111111111111110 (6 : Int32).toNatClampNeg (own_in (j := (6 : Int32)) C_F (by decide) (by decide))
    replace w := own_or (le_I rfl hx) w (by decide)
    have q := own_eqW w (op1_f he) ((op2_f (op1_f hx) rfl).trans rfl)
    exact own_i2lj q (by decide)
  have F_7 : atv cl_F (7 : Int32) = (32 : Int32) := own_at C_F (own_eqI hn1111111111111110) ev_F (Term.int_eval 7)
  have F_8 : atv cl_F (8 : Int32) = (224 : Int32) := own_at C_F (own_eqI hn11111111111111110) ev_F (Term.int_eval 8)
  have F_9 : atv cl_F (9 : Int32) = (249 : Int32) := by
    have hx := own_ix (args := #[(.int i0), (.long i1), (.int i2), (.long i3)]) (Z := s) (j := (9 : Int32)) (by decide)
    have he := own_el (j := (9 : Int32)) C_F (show (Term.static "com/example/rattan/rattan/storage/label/ComponentCode" "FIRST" "[I").eval #[(.int i0), (.long i1), (.int i2), (.long i3)] s none [(9 : Int32).toNatClampNeg] s = _ from ev_F) (by decide) (by decide)
    have w := Cond.all_elim ev_F (Arr.fin (State.Warmed39.refl s).alike A_F) hn111111111111111110 (9 : Int32).toNatClampNeg (own_in (j := (9 : Int32)) C_F (by decide) (by decide))
    replace w := own_or (lt_I hx rfl) w (by decide)
    have q := own_eqW w (op1_f he) ((op2_f (op1_f hx) rfl).trans rfl)
    exact own_i2lj q (by decide)
  have F_10 : atv cl_F (10 : Int32) = (250 : Int32) := by
    have hx := own_ix (args := #[(.int i0), (.long i1), (.int i2), (.long i3)]) (Z := s) (j := (10 : Int32)) (by decide)
    have he := own_el (j := (10 : Int32)) C_F (show (Term.static "com/example/rattan/rattan/storage/label/ComponentCode" "FIRST" "[I").eval #[(.int i0), (.long i1), (.int i2), (.long i3)] s none [(10 : Int32).toNatClampNeg] s = _ from ev_F) (by decide) (by decide)
    have w := Cond.all_elim ev_F (Arr.fin (State.Warmed39.refl s).alike A_F) hn111111111111111110 (10 : Int32).toNatClampNeg (own_in (j := (10 : Int32)) C_F (by decide) (by decide))
    replace w := own_or (lt_I hx rfl) w (by decide)
    have q := own_eqW w (op1_f he) ((op2_f (op1_f hx) rfl).trans rfl)
    exact own_i2lj q (by decide)
  have F_11 : atv cl_F (11 : Int32) = (251 : Int32) := by
    have hx := own_ix (args := #[(.int i0), (.long i1), (.int i2), (.long i3)]) (Z := s) (j := (11 : Int32)) (by decide)
    have he := own_el (j := (11 : Int32)) C_F (show (Term.static "com/example/rattan/rattan/storage/label/ComponentCode" "FIRST" "[I").eval #[(.int i0), (.long i1), (.int i2), (.long i3)] s none [(11 : Int32).toNatClampNeg] s = _ from ev_F) (by decide) (by decide)
    have w := Cond.all_elim ev_F (Arr.fin (State.Warmed39.refl s).alike A_F) hn111111111111111110 (11 : Int32).toNatClampNeg (own_in (j := (11 : Int32)) C_F (by decide) (by decide))
    replace w := own_or (lt_I hx rfl) w (by decide)
    have q := own_eqW w (op1_f he) ((op2_f (op1_f hx) rfl).trans rfl)
    exact own_i2lj q (by decide)
  have F_12 : atv cl_F (12 : Int32) = (252 : Int32) := by
    have hx := own_ix (args := #[(.int i0), (.long i1), (.int i2), (.long i3)]) (Z := s) (j := (12 : Int32)) (by decide)
    have he := own_el (j := (12 : Int32)) C_F (show (Term.static "com/example/rattan/rattan/storage/label/ComponentCode" "FIRST" "[I").eval #[(.int i0), (.long i1), (.int i2), (.long i3)] s none [(12 : Int32).toNatClampNeg] s = _ from ev_F) (by decide) (by decide)
    have w := Cond.all_elim ev_F (Arr.fin (State.Warmed39.refl s).alike A_F) hn111111111111111110 (12 : Int32).toNatClampNeg (own_in (j := (12 : Int32)) C_F (by decide) (by decide))
    replace w := own_or (lt_I hx rfl) w (by decide)
    have q := own_eqW w (op1_f he) ((op2_f (op1_f hx) rfl).trans rfl)
    exact own_i2lj q (by decide)
  have F_13 : atv cl_F (13 : Int32) = (253 : Int32) := by
    have hx := own_ix (args := #[(.int i0), (.long i1), (.int i2), (.long i3)]) (Z := s) (j := (13 : Int32)) (by decide)
    have he := own_el (j := (13 : Int32)) C_F (show (Term.static "com/example/rattan/rattan/storage/label/ComponentCode" "FIRST" "[I").eval #[(.int i0), (.long i1), (.int i2), (.long i3)] s none [(13 : Int32).toNatClampNeg] s = _ from ev_F) (by decide) (by decide)
    have w := Cond.all_elim ev_F (Arr.fin (State.Warmed39.refl s).alike A_F) hn111111111111111110 (13 : Int32).toNatClampNeg (own_in (j := (13 : Int32)) C_F (by decide) (by decide))
    replace w := own_or (lt_I hx rfl) w (by decide)
    have q := own_eqW w (op1_f he) ((op2_f (op1_f hx) rfl).trans rfl)
    exact own_i2lj q (by decide)
  have F_14 : atv cl_F (14 : Int32) = (254 : Int32) := by
    have hx := own_ix (args := #[(.int i0), (.long i1), (.int i2), (.long i3)]) (Z := s) (j := (14 : Int32)) (by decide)
    have he := own_el (j := (14 : Int32)) C_F (show (Term.static "com/example/rattan/rattan/storage/label/ComponentCode" "FIRST" "[I").eval #[(.int i0), (.long i1), (.int i2), (.long i3)] s none [(14 : Int32).toNatClampNeg] s = _ from ev_F) (by decide) (by decide)
    have w := Cond.all_elim ev_F (Arr.fin (State.Warmed39.refl s).alike A_F) hn111111111111111110 (14 : Int32).toNatClampNeg (own_in (j := (14 : Int32)) C_F (by decide) (by decide))
    replace w := own_or (lt_I hx rfl) w (by decide)
    have q := own_eqW w (op1_f he) ((op2_f (op1_f hx) rfl).trans rfl)
    exact own_i2lj q (by decide)
  have E_0 : atv cl_E (0 : Int32) = (7 : Int32) := own_at C_E (own_eqI hn1111111111111111110) ev_E (Term.int_eval 0)
  have E_1 : atv cl_E (1 : Int32) = (6 : Int32) := own_at C_E (own_eqI hn11111111111111111110) ev_E (Term.int_eval 1)
  have E_2 : atv cl_E (2 : Int32) = (5 : Int32) := own_at C_E (own_eqI hn111111111111111111110) ev_E (Term.int_eval 2)
  have E_3 : atv cl_E (3 : Int32) = (4 : Int32) := own_at C_E (own_eqI hn1111111111111111111110) ev_E (Term.int_eval 3)
  have E_4 : atv cl_E (4 : Int32) = (3 : Int32) := own_at C_E (own_eqI hn11111111111111111111110) ev_E (Term.int_eval 4)
  have E_5 : atv cl_E (5 : Int32) = (2 : Int32) := own_at C_E (own_eqI hn111111111111111111111110) ev_E (Term.int_eval 5)
  have E_6 : atv cl_E (6 : Int32) = (1 : Int32) := own_at C_E (own_eqI hn1111111111111111111111110) ev_E (Term.int_eval 6)
  have E_7 : atv cl_E (7 : Int32) = (0 : Int32) := by
    have hx := own_ix (args := #[(.int i0), (.long i1), (.int i2), (.long i3)]) (Z := s) (j := (7 : Int32)) (by decide)
    have he := own_el (j := (7 : Int32)) C_E (show (Term.static "com/example/rattan/rattan/storage/label/ComponentCode" "EXTRA" "[I").eval #[(.int i0), (.long i1), (.int i2), (.long i3)] s none [(7 : Int32).toNatClampNeg] s = _ from ev_E) (by decide) (by decide)
    have w := Cond.all_elim ev_E (Arr.fin (State.Warmed39.refl s).alike A_E) hn11111111111111111111111110 (7 : Int32).toNatClampNeg (own_in (j := (7 : Int32)) C_E (by decide) (by decide))
    replace w := own_or (lt_I hx rfl) w (by decide)
    exact (own_eqV w he (sub_I hx rfl)).trans (by decide)
  have E_8 : atv cl_E (8 : Int32) = (1 : Int32) := by
    have hx := own_ix (args := #[(.int i0), (.long i1), (.int i2), (.long i3)]) (Z := s) (j := (8 : Int32)) (by decide)
    have he := own_el (j := (8 : Int32)) C_E (show (Term.static "com/example/rattan/rattan/storage/label/ComponentCode" "EXTRA" "[I").eval #[(.int i0), (.long i1), (.int i2), (.long i3)] s none [(8 : Int32).toNatClampNeg] s = _ from ev_E) (by decide) (by decide)
    have w := Cond.all_elim ev_E (Arr.fin (State.Warmed39.refl s).alike A_E) hn11111111111111111111111110 (8 : Int32).toNatClampNeg (own_in (j := (8 : Int32)) C_E (by decide) (by decide))
    replace w := own_or (lt_I hx rfl) w (by decide)
    exact (own_eqV w he (sub_I hx rfl)).trans (by decide)
  have E_9 : atv cl_E (9 : Int32) = (2 : Int32) := by
    have hx := own_ix (args := #[(.int i0), (.long i1), (.int i2), (.long i3)]) (Z := s) (j := (9 : Int32)) (by decide)
    have he := own_el (j := (9 : Int32)) C_E (show (Term.static "com/example/rattan/rattan/storage/label/ComponentCode" "EXTRA" "[I").eval #[(.int i0), (.long i1), (.int i2), (.long i3)] s none [(9 : Int32).toNatClampNeg] s = _ from ev_E) (by decide) (by decide)
    have w := Cond.all_elim ev_E (Arr.fin (State.Warmed39.refl s).alike A_E) hn11111111111111111111111110 (9 : Int32).toNatClampNeg (own_in (j := (9 : Int32)) C_E (by decide) (by decide))
    replace w := own_or (lt_I hx rfl) w (by decide)
    exact (own_eqV w he (sub_I hx rfl)).trans (by decide)
  have E_10 : atv cl_E (10 : Int32) = (3 : Int32) := by
    have hx := own_ix (args := #[(.int i0), (.long i1), (.int i2), (.long i3)]) (Z := s) (j := (10 : Int32)) (by decide)
    have he := own_el (j := (10 : Int32)) C_E (show (Term.static "com/example/rattan/rattan/storage/label/ComponentCode" "EXTRA" "[I").eval #[(.int i0), (.long i1), (.int i2), (.long i3)] s none [(10 : Int32).toNatClampNeg] s = _ from ev_E) (by decide) (by decide)
    have w := Cond.all_elim ev_E (Arr.fin (State.Warmed39.refl s).alike A_E) hn11111111111111111111111110 (10 : Int32).toNatClampNeg (own_in (j := (10 : Int32)) C_E (by decide) (by decide))
    replace w := own_or (lt_I hx rfl) w (by decide)
    exact (own_eqV w he (sub_I hx rfl)).trans (by decide)
  have E_11 : atv cl_E (11 : Int32) = (4 : Int32) := by
    have hx := own_ix (args := #[(.int i0), (.long i1), (.int i2), (.long i3)]) (Z := s) (j := (11 : Int32)) (by decide)
    have he := own_el (j := (11 : Int32)) C_E (show (Term.static "com/example/rattan/rattan/storage/label/ComponentCode" "EXTRA" "[I").eval #[(.int i0), (.long i1), (.int i2), (.long i3)] s none [(11 : Int32).toNatClampNeg] s = _ from ev_E) (by decide) (by decide)
    have w := Cond.all_elim ev_E (Arr.fin (State.Warmed39.refl s).alike A_E) hn11111111111111111111111110 (11 : Int32).toNatClampNeg (own_in (j := (11 : Int32)) C_E (by decide) (by decide))
    replace w := own_or (lt_I hx rfl) w (by decide)
    exact (own_eqV w he (sub_I hx rfl)).trans (by decide)
  have E_12 : atv cl_E (12 : Int32) = (5 : Int32) := by
    have hx := own_ix (args := #[(.int i0), (.long i1), (.int i2), (.long i3)]) (Z := s) (j := (12 : Int32)) (by decide)
    have he := own_el (j := (12 : Int32)) C_E (show (Term.static "com/example/rattan/rattan/storage/label/ComponentCode" "EXTRA" "[I").eval #[(.int i0), (.long i1), (.int i2), (.long i3)] s none [(12 : Int32).toNatClampNeg] s = _ from ev_E) (by decide) (by decide)
    have w := Cond.all_elim ev_E (Arr.fin (State.Warmed39.refl s).alike A_E) hn11111111111111111111111110 (12 : Int32).toNatClampNeg (own_in (j := (12 : Int32)) C_E (by decide) (by decide))
    replace w := own_or (lt_I hx rfl) w (by decide)
    exact (own_eqV w he (sub_I hx rfl)).trans (by decide)
  have E_13 : atv cl_E (13 : Int32) = (6 : Int32) := by
    have hx := own_ix (args := #[(.int i0), (.long i1), (.int i2), (.long i3)]) (Z := s) (j := (13 : Int32)) (by decide)
    have he := own_el (j := (13 : Int32)) C_E (show (Term.static "com/example/rattan/rattan/storage/label/ComponentCode" "EXTRA" "[I").eval #[(.int i0), (.long i1), (.int i2), (.long i3)] s none [(13 : Int32).toNatClampNeg] s = _ from ev_E) (by decide) (by decide)
    have w := Cond.all_elim ev_E (Arr.fin (State.Warmed39.refl s).alike A_E) hn11111111111111111111111110 (13 : Int32).toNatClampNeg (own_in (j := (13 : Int32)) C_E (by decide) (by decide))
    replace w := own_or (lt_I hx rfl) w (by decide)
    exact (own_eqV w he (sub_I hx rfl)).trans (by decide)
  have E_14 : atv cl_E (14 : Int32) = (7 : Int32) := by
    have hx := own_ix (args := #[(.int i0), (.long i1), (.int i2), (.long i3)]) (Z := s) (j := (14 : Int32)) (by decide)
    have he := own_el (j := (14 : Int32)) C_E (show (Term.static "com/example/rattan/rattan/storage/label/ComponentCode" "EXTRA" "[I").eval #[(.int i0), (.long i1), (.int i2), (.long i3)] s none [(14 : Int32).toNatClampNeg] s = _ from ev_E) (by decide) (by decide)
    have w := Cond.all_elim ev_E (Arr.fin (State.Warmed39.refl s).alike A_E) hn11111111111111111111111110 (14 : Int32).toNatClampNeg (own_in (j := (14 : Int32)) C_E (by decide) (by decide))
    replace w := own_or (lt_I hx rfl) w (by decide)
    exact (own_eqV w he (sub_I hx rfl)).trans (by decide)
  obtain ⟨k_L, ek_L⟩ : ∃ k, k = cl_L.cls := ⟨_, rfl⟩
  rw [← ek_L] at V_L
  have G : own_Ctx s s.heap s_R s_F s_E s_L cl_R cl_F cl_E k_L := ⟨S_R, C_R, S_F, C_F, S_E, C_E, S_L, V_L, R_1, R_2, R_3, R_4, R_5, F_0, F_1, F_2, F_3, F_4, F_5, F_6, F_7, F_8, F_9, F_10, F_11, F_12, F_13, F_14, E_0, E_1, E_2, E_3, E_4, E_5, E_6, E_7, E_8, E_9, E_10, E_11, E_12, E_13, E_14⟩
  obtain ⟨n, o, h1, h2, h3, _, L, rfl, ⟨rfl, N, -⟩, hq⟩ := own_law l s _ hw tables_1 s_R s_F s_E s_L cl_R cl_F cl_E k_L s.heap s.heap.size (Old.start s) G i0 i1 i2 i3 p e ha hc hk s m _ below hf ((Spec.applies_iff_loose hf).mp happ).1 ⟨rfl, State.Warmed39.refl s, rfl⟩ trivial
  refine ⟨n, _, h1, h2, h3, hpost _ _ _ _ _ _ ⟨Cond.after_iff.mpr rfl, Cond.after_iff.mpr (eq_i res_at (Term.int_eval (1)) rfl), trivial⟩ ⟨hq.1, hq.2.1, (hq.2.2.sift fun y hy => Or.inr (N y hy)).mono (by decide) (by decide)⟩⟩
theorem main_1_1 : Claimed_1_1 := comes_1 fun _ _ _ _ _ _ h hF => ⟨h.1, hF⟩
theorem main_1_2 : Claimed_1_2 := comes_1 fun _ _ _ _ _ _ h hF => ⟨h.2.1, hF⟩
end Jvm.Pilot.@@N@@
namespace Jvm.Pilot.@@N@@
open Jvm Jvm.ClassFile Sem Op Lib Jvm.Free Jvm.Stand Jvm.Pilot.@@N@@.Jvm.D
/-! MADE BY PROGRAM (witnessworld.py) out of the Statement's table words and the real class files: 11 classes; the members and pool entries that the words name. The judged class is class 1, her method 1. -/
namespace start1
open Jvm.ClassFile
def u (s : String) : CpInfo := .utf8 (stringToUtf16 s)
/-- a pool by its gaps: so many unusable entries, then the entry; so many at the end -/
def gap : Nat → List CpInfo → List CpInfo
  | 0, r => r
  | n + 1, r => .unusable :: gap n r
def poolList (es : List (Nat × CpInfo)) (last : Nat) : List CpInfo := es.foldr (fun e r => gap e.1 (e.2 :: r)) (gap last [])
def pool (es : List (Nat × CpInfo)) (last : Nat) : Array CpInfo := ⟨poolList es last⟩
def fileOf (pool : Array CpInfo) (this : Nat) (attrs : Array Attribute := #[]) (ms : Array MethodInfo := #[]) (fl : Nat := 33) (sup : Nat := 0) (ifs : Array Nat := #[]) (fds : Array FieldInfo := #[]) : ClassFile where
  minorVersion := 0
  majorVersion := 65
  constantPool := pool
  accessFlags := fl
  thisClass := this
  superClass := sup
  interfaces := ifs
  fields := fds
  methods := ms
  attributes := attrs
def plain (name : String) (sup : Option ClassId) : Class where
  name := name
  kind := .ordinary
  loader := none
  accessFlags := 33
  super := sup
  interfaces := #[]
  cf := none
  fields := #[]
  methods := #[]
  instanceTypes := #[]
  staticTypes := #[]
  resolved := #[]
  callSites := []
  init := .initialized
  statics := none
  mirror := none

def pool0 : Array CpInfo := pool [(5, u "<init>"), (0, u "()V"), (1, .class_ 10), (1, u "java/lang/Object")] 113

def k0m0 : Method := { name := "<init>", desc := "()V", sig := { parameters := [], returnType := none }, accessFlags := 1, code := none }
/-- java/lang/Object -/
def k0 : Class := { plain "java/lang/Object" none with
  accessFlags := 33
  interfaces := #[]
  cf := some (fileOf pool0 8 #[] #[{ accessFlags := 1, nameIndex := 5, descriptorIndex := 6, attributes := #[] }] 33 0 #[] #[])
  fields := #[]
  methods := #[k0m0]
  instanceTypes := #[]
  staticTypes := #[]
  resolved := Array.replicate 124 none
  statics := none }

def pool1 : Array CpInfo := pool [(2, .class_ 4), (1, u "java/lang/Object"), (0, u "<init>"), (0, u "()V"), (0, .integer 2147483647), (0, .long 72057594037927935), (1, .methodref 11 12), (0, .class_ 13), (0, .nameAndType 14 15), (0, u "com/example/rattan/rattan/storage/label/ComponentCodeDecodePinLaw"), (0, u "expected"), (0, u "(IJ)J"), (0, .methodref 17 18), (0, .class_ 19), (0, .nameAndType 20 21), (0, u "com/example/rattan/rattan/storage/label/ComponentCode"), (0, u "decode"), (0, u "([BI)J"), (0, .long 64), (1, .methodref 11 25), (0, .nameAndType 26 27), (0, u "follow"), (0, u "(JI)J"), (0, .long 18446744073709545184), (1, .long 256), (1, .long 160), (1, .long 18374403900871468768), (1, .long 18446461494909396704), (1, .long 18446742969886107360), (1, .long 18446744069397735136), (1, .long 18446744073692702432), (1, .long 18446744073709479648), (1, .long 6560), (1, .long 72096), (1, .long 16849312), (1, .long 4311816608), (1, .long 1103823444384), (1, .long 282578800155040), (3, u "law"), (0, u "(IJIJ)Z")] 5

def k1m0 : Method := { name := "<init>", desc := "()V", sig := { parameters := [], returnType := none }, accessFlags := 1, code := none }
def k1c1 : Code := { maxStack := 5, maxLocals := 13, code := code, exceptionTable := #[], attributes := #[] }
def k1m1 : Method := { name := "law", desc := "(IJIJ)Z", sig := { parameters := [.int, .long, .int, .long], returnType := some .boolean }, accessFlags := 9, code := some k1c1 }
def k1c2 : Code := { maxStack := 5, maxLocals := 3, code := method_3_code, exceptionTable := #[], attributes := #[] }
def k1m2 : Method := { name := "follow", desc := "(JI)J", sig := { parameters := [.long, .int], returnType := some .long }, accessFlags := 10, code := some k1c2 }
def k1c3 : Code := { maxStack := 6, maxLocals := 5, code := method_4_code, exceptionTable := #[], attributes := #[] }
def k1m3 : Method := { name := "expected", desc := "(IJ)J", sig := { parameters := [.int, .long], returnType := some .long }, accessFlags := 10, code := some k1c3 }
/-- com/example/rattan/rattan/storage/label/ComponentCodeDecodePinLaw -/
def k1 : Class := { plain "com/example/rattan/rattan/storage/label/ComponentCodeDecodePinLaw" (some 0) with
  accessFlags := 49
  interfaces := #[]
  cf := some (fileOf pool1 11 #[] #[{ accessFlags := 1, nameIndex := 5, descriptorIndex := 6, attributes := #[] }, { accessFlags := 9, nameIndex := 60, descriptorIndex := 61, attributes := #[] }, { accessFlags := 10, nameIndex := 26, descriptorIndex := 27, attributes := #[] }, { accessFlags := 10, nameIndex := 14, descriptorIndex := 15, attributes := #[] }] 49 2 #[] #[])
  fields := #[]
  methods := #[k1m0, k1m1, k1m2, k1m3]
  instanceTypes := #[]
  staticTypes := #[]
  resolved := Array.replicate 67 none
  statics := none }

def pool2 : Array CpInfo := pool [(2, .class_ 4), (1, u "java/lang/Object"), (0, u "<init>"), (0, u "()V"), (1, .class_ 10), (1, u "com/example/rattan/rattan/storage/label/ComponentCode"), (0, u "MIN"), (0, u "J"), (2, u "MAX"), (9, .fieldref 8 26), (0, .nameAndType 27 28), (0, u "LOWEST"), (0, u "[J"), (4, .fieldref 8 34), (0, .nameAndType 35 36), (0, u "EXTRA"), (0, u "[I"), (0, .fieldref 8 38), (0, .nameAndType 39 36), (0, u "FIRST"), (0, .fieldref 8 41), (0, .nameAndType 42 36), (0, u "RANGE_OF_FIRST"), (18, u "SPAN"), (8, u "ONE_BYTE_RANGE"), (0, u "I"), (2, u "ONE_BYTE_LOWEST"), (9, u "decode"), (0, u "([BI)J")] 18

def k2m0 : Method := { name := "<init>", desc := "()V", sig := { parameters := [], returnType := none }, accessFlags := 2, code := none }
def k2c1 : Code := { maxStack := 5, maxLocals := 7, code := prog_41_method_4_code, exceptionTable := #[], attributes := #[] }
def k2m1 : Method := { name := "decode", desc := "([BI)J", sig := { parameters := [(.array .byte), .int], returnType := some .long }, accessFlags := 8, code := some k2c1 }
/-- com/example/rattan/rattan/storage/label/ComponentCode -/
def k2 : Class := { plain "com/example/rattan/rattan/storage/label/ComponentCode" (some 0) with
  accessFlags := 32
  interfaces := #[]
  cf := some (fileOf pool2 8 #[] #[{ accessFlags := 2, nameIndex := 5, descriptorIndex := 6, attributes := #[] }, { accessFlags := 8, nameIndex := 84, descriptorIndex := 85, attributes := #[] }] 32 2 #[] #[{ accessFlags := 26, nameIndex := 39, descriptorIndex := 36, attributes := #[] }, { accessFlags := 26, nameIndex := 61, descriptorIndex := 36, attributes := #[] }, { accessFlags := 26, nameIndex := 35, descriptorIndex := 36, attributes := #[] }, { accessFlags := 26, nameIndex := 70, descriptorIndex := 71, attributes := #[] }, { accessFlags := 26, nameIndex := 74, descriptorIndex := 12, attributes := #[] }, { accessFlags := 26, nameIndex := 27, descriptorIndex := 28, attributes := #[] }, { accessFlags := 26, nameIndex := 42, descriptorIndex := 36, attributes := #[] }, { accessFlags := 24, nameIndex := 11, descriptorIndex := 12, attributes := #[] }, { accessFlags := 24, nameIndex := 15, descriptorIndex := 12, attributes := #[] }])
  fields := #[{ name := "FIRST", type := (.array .int), accessFlags := 26, slot := 0, constantValue := 0 }, { name := "SPAN", type := (.array .int), accessFlags := 26, slot := 1, constantValue := 0 }, { name := "EXTRA", type := (.array .int), accessFlags := 26, slot := 2, constantValue := 0 }, { name := "ONE_BYTE_RANGE", type := .int, accessFlags := 26, slot := 3, constantValue := 0 }, { name := "ONE_BYTE_LOWEST", type := .long, accessFlags := 26, slot := 4, constantValue := 0 }, { name := "LOWEST", type := (.array .long), accessFlags := 26, slot := 5, constantValue := 0 }, { name := "RANGE_OF_FIRST", type := (.array .int), accessFlags := 26, slot := 6, constantValue := 0 }, { name := "MIN", type := .long, accessFlags := 24, slot := 7, constantValue := 0 }, { name := "MAX", type := .long, accessFlags := 24, slot := 8, constantValue := 0 }]
  methods := #[k2m0, k2m1]
  instanceTypes := #[]
  staticTypes := #[(.array .int), (.array .int), (.array .int), .int, .long, (.array .long), (.array .int), .long, .long]
  resolved := Array.replicate 104 none
  statics := some 0 }

def pool3 : Array CpInfo := pool [(1, u "java/lang/Cloneable"), (0, .class_ 1), (0, u "java/lang/Object"), (0, .class_ 3)] 3

/-- java/lang/Cloneable -/
def k3 : Class := { plain "java/lang/Cloneable" (some 0) with
  accessFlags := 1537
  interfaces := #[]
  cf := some (fileOf pool3 2 #[] #[] 1537 4 #[] #[])
  fields := #[]
  methods := #[]
  instanceTypes := #[]
  staticTypes := #[]
  resolved := Array.replicate 8 none
  statics := none }

def pool4 : Array CpInfo := pool [(1, u "java/io/Serializable"), (0, .class_ 1), (0, u "java/lang/Object"), (0, .class_ 3)] 3

/-- java/io/Serializable -/
def k4 : Class := { plain "java/io/Serializable" (some 0) with
  accessFlags := 1537
  interfaces := #[]
  cf := some (fileOf pool4 2 #[] #[] 1537 4 #[] #[])
  fields := #[]
  methods := #[]
  instanceTypes := #[]
  staticTypes := #[]
  resolved := Array.replicate 8 none
  statics := none }

/-- the primitive byte -/
def k5 : Class := { plain "byte" none with kind := .primitive 'B', accessFlags := 0x411 }
/-- [B -/
def k6 : Class := { plain "[B" (some 0) with kind := .array 5 .byte, interfaces := #[3, 4], accessFlags := 1041 }

/-- the primitive int -/
def k7 : Class := { plain "int" none with kind := .primitive 'I', accessFlags := 0x411 }
/-- [I -/
def k8 : Class := { plain "[I" (some 0) with kind := .array 7 .int, interfaces := #[3, 4], accessFlags := 1041 }

/-- the primitive long -/
def k9 : Class := { plain "long" none with kind := .primitive 'J', accessFlags := 0x411 }
/-- [J -/
def k10 : Class := { plain "[J" (some 0) with kind := .array 9 .long, interfaces := #[3, 4], accessFlags := 1041 }

def heap : Heap := #[{ cls := 2, slots := #[.ref 2, .null, .ref 3, .int 0, .long 0, .ref 4, .ref 1, .long 0, .long 0], vm := .statics 2 },
  { cls := 8, slots := #[.int (-1), .int 0, .int 1, .int 2, .int 3, .int 4, .int 5, .int 6, .int 6, .int 6, .int 6, .int 6, .int 6, .int 6, .int 6, .int 6, .int 6, .int 6, .int 6, .int 6, .int 6, .int 6, .int 6, .int 6, .int 6, .int 6, .int 6, .int 6, .int 6, .int 6, .int 6, .int 6, .int 7, .int 7, .int 7, .int 7, .int 7, .int 7, .int 7, .int 7, .int 7, .int 7, .int 7, .int 7, .int 7, .int 7, .int 7, .int 7, .int 7, .int 7, .int 7, .int 7, .int 7, .int 7, .int 7, .int 7, .int 7, .int 7, .int 7, .int 7, .int 7, .int 7, .int 7, .int 7, .int 7, .int 7, .int 7, .int 7, .int 7, .int 7, .int 7, .int 7, .int 7, .int 7, .int 7, .int 7, .int 7, .int 7, .int 7, .int 7, .int 7, .int 7, .int 7, .int 7, .int 7, .int 7, .int 7, .int 7, .int 7, .int 7, .int 7, .int 7, .int 7, .int 7, .int 7, .int 7, .int 7, .int 7, .int 7, .int 7, .int 7, .int 7, .int 7, .int 7, .int 7, .int 7, .int 7, .int 7, .int 7, .int 7, .int 7, .int 7, .int 7, .int 7, .int 7, .int 7, .int 7, .int 7, .int 7, .int 7, .int 7, .int 7, .int 7, .int 7, .int 7, .int 7, .int 7, .int 7, .int 7, .int 7, .int 7, .int 7, .int 7, .int 7, .int 7, .int 7, .int 7, .int 7, .int 7, .int 7, .int 7, .int 7, .int 7, .int 7, .int 7, .int 7, .int 7, .int 7, .int 7, .int 7, .int 7, .int 7, .int 7, .int 7, .int 7, .int 7, .int 7, .int 7, .int 7, .int 7, .int 7, .int 7, .int 7, .int 7, .int 7, .int 7, .int 7, .int 7, .int 7, .int 7, .int 7, .int 7, .int 7, .int 7, .int 7, .int 7, .int 7, .int 7, .int 7, .int 7, .int 7, .int 7, .int 7, .int 7, .int 7, .int 7, .int 7, .int 7, .int 7, .int 7, .int 7, .int 7, .int 7, .int 7, .int 7, .int 7, .int 7, .int 7, .int 7, .int 7, .int 7, .int 7, .int 7, .int 7, .int 7, .int 7, .int 7, .int 7, .int 7, .int 7, .int 7, .int 7, .int 7, .int 7, .int 7, .int 7, .int 7, .int 7, .int 7, .int 7, .int 7, .int 7, .int 7, .int 7, .int 8, .int 8, .int 8, .int 8, .int 8, .int 8, .int 8, .int 8, .int 8, .int 8, .int 8, .int 8, .int 8, .int 8, .int 8, .int 8, .int 8, .int 8, .int 8, .int 8, .int 8, .int 8, .int 8, .int 8, .int 8, .int 9, .int 10, .int 11, .int 12, .int 13, .int 14, .int (-1)], vm := .none },
  { cls := 8, slots := #[.int 1, .int 2, .int 3, .int 4, .int 5, .int 6, .int 7, .int 32, .int 224, .int 249, .int 250, .int 251, .int 252, .int 253, .int 254], vm := .none },
  { cls := 8, slots := #[.int 7, .int 6, .int 5, .int 4, .int 3, .int 2, .int 1, .int 0, .int 1, .int 2, .int 3, .int 4, .int 5, .int 6, .int 7], vm := .none },
  { cls := 10, slots := #[.long (-72340172838082848), .long (-282578800154912), .long (-1103823444256), .long (-4311816480), .long (-16849184), .long (-71968), .long (-6432), .long (-32), .long 160, .long 6560, .long 72096, .long 16849312, .long 4311816608, .long 1103823444384, .long 282578800155040], vm := .none }]
def classes : Array Class := #[k0, k1, k2, k3, k4, k5, k6, k7, k8, k9, k10]
def interned : List (Array UInt16 × Addr) := []
def slotsUsed : Nat := 310
def theMethod : MethodId := ⟨1, 1⟩
def args0 : Array Value := #[.int 5, .long 7, .int 2, .long 9]
def aboutOver (below : List Frame) : State where
  vm := { classes := classes, interned := interned.toArray }
  heap := heap
  slotsUsed := slotsUsed
  threads := #[{ frames := .invoking theMethod args0 :: below }]
def below0 : List Frame := [.native { method := ⟨0, 0⟩, args := #[] }]
def about1 : State := aboutOver below0
def p0 : Program := .bare "" "" ""
def e0 : Env := launch0.env 0 0 0
theorem w_frames : about1.frames = Frame.invoking theMethod args0 :: below0 := rfl
set_option maxRecDepth 65536 in
theorem w_args : argsFit about1.vm theMethod args0 = true := by decide +kernel
set_option maxRecDepth 65536 in
theorem w_heap : heapFits about1 = true := by decide +kernel
set_option maxRecDepth 65536 in
theorem w_runnable : about1.curStatus? = some .runnable := by decide +kernel
set_option maxRecDepth 65536 in
theorem w_alone : about1.alone = true := by decide +kernel
set_option maxRecDepth 65536 in
theorem w_named : about1.methodNamed? x = some theMethod := by decide +kernel
set_option maxRecDepth 65536 in
theorem w_hears : about1.hears theMethod below0 = true := by decide +kernel
set_option maxRecDepth 65536 in
theorem w_ripe : about1.ripe theMethod args0 below0 = true := by decide +kernel
theorem w_running : about1.status = .running := rfl
set_option maxRecDepth 65536 in
theorem w_room : about1.hasRoom e0.platform room_1 = true :=
  launch0.hasRoom_least _ room_1 (by decide +kernel) (by decide +kernel) (by decide +kernel) (by decide +kernel) (by decide +kernel) (by decide +kernel)
theorem allAtoms_all (ts : List Jvm.Cond) (a : Array Jvm.Value) (st : Jvm.State) : (allAtoms ts).before a st = ts.all (fun c => c.before a st) := by
  induction ts with
  | nil => rfl
  | cons c t ih =>
    show (Jvm.Cond.and c (allAtoms t)).before a st = _
    rw [Jvm.Cond.before_and, ih, List.all_cons]
def words1 : List Jvm.Cond := Jvm.Cond.code x code maxLocals ret :: tables_1
/-- a 'code' word, met by the world's own term for the bytes: nothing is compared byte by byte -/
theorem code_word {y : MethodName} {bytes : ByteArray} {mx : Nat} {rt : Option FieldType} {a : Array Value} {s : State} {m : MethodId} {meth : Method} {c : Code} (h1 : s.methodNamed? y = some m) (h2 : s.vm.method? m = some meth) (h3 : meth.code = some c) (h4 : c.code = bytes)
    (h5 : (c.maxLocals == mx && c.exceptionTable.isEmpty && decide (c.maxStack ≤ mostOperands) && decide (meth.sig.returnType = rt) && !meth.locks && decide (parseMethodDescriptor y.desc = some meth.sig)) = true) : (Jvm.Cond.code y bytes mx rt).before a s = true := by
  simp only [Bool.and_eq_true, beq_iff_eq, Bool.not_eq_true', decide_eq_true_eq] at h5
  obtain ⟨⟨⟨⟨⟨g1, g2⟩, g3⟩, g4⟩, g5⟩, g6⟩ := h5
  simp [Cond.before, Cond.holds, Cond.value, h1, h2, h3, h4, g1, g2, g3, g4, g5, g6]
def isCode : Jvm.Cond → Bool
  | .code _ _ _ _ => true
  | _ => false
theorem all_split {L : List Jvm.Cond} {P : Jvm.Cond → Bool} (h1 : L.all (fun c => isCode c || P c) = true) (h2 : ∀ c ∈ L.filter isCode, P c = true) : L.all P = true := by
  refine List.all_eq_true.mpr fun c hc => ?_
  have h := List.all_eq_true.mp h1 c hc
  rcases Bool.eq_false_or_eq_true (isCode c) with hi | hi
  · exact h2 c (List.mem_filter.mpr ⟨hc, hi⟩)
  · simpa [hi] using h
set_option maxRecDepth 65536 in
theorem w_c0 : (Jvm.Cond.code x code maxLocals ret).before args0 about1 = true := code_word (m := ⟨1, 1⟩) (meth := k1m1) (c := k1c1) (by decide +kernel) rfl rfl rfl (by decide +kernel)
set_option maxRecDepth 65536 in
theorem w_c1 : (Jvm.Cond.code ({ cls := "com/example/rattan/rattan/storage/label/ComponentCodeDecodePinLaw", name := "expected", desc := "(IJ)J" } : Jvm.MethodName) method_4_code (5 : Nat) (Option.some Jvm.ClassFile.FieldType.long)).before args0 about1 = true := code_word (m := ⟨1, 3⟩) (meth := k1m3) (c := k1c3) (by decide +kernel) rfl rfl rfl (by decide +kernel)
set_option maxRecDepth 65536 in
theorem w_c2 : (Jvm.Cond.code ({ cls := "com/example/rattan/rattan/storage/label/ComponentCodeDecodePinLaw", name := "follow", desc := "(JI)J" } : Jvm.MethodName) method_3_code (3 : Nat) (Option.some Jvm.ClassFile.FieldType.long)).before args0 about1 = true := code_word (m := ⟨1, 2⟩) (meth := k1m2) (c := k1c2) (by decide +kernel) rfl rfl rfl (by decide +kernel)
set_option maxRecDepth 65536 in
theorem w_c3 : (Jvm.Cond.code ({ cls := "com/example/rattan/rattan/storage/label/ComponentCode", name := "decode", desc := "([BI)J" } : Jvm.MethodName) prog_41_method_4_code (7 : Nat) (Option.some Jvm.ClassFile.FieldType.long)).before args0 about1 = true := code_word (m := ⟨2, 1⟩) (meth := k2m1) (c := k2c1) (by decide +kernel) rfl rfl rfl (by decide +kernel)
def codes1 : List Jvm.Cond := [Jvm.Cond.code x code maxLocals ret, Jvm.Cond.code ({ cls := "com/example/rattan/rattan/storage/label/ComponentCodeDecodePinLaw", name := "expected", desc := "(IJ)J" } : Jvm.MethodName) method_4_code (5 : Nat) (Option.some Jvm.ClassFile.FieldType.long), Jvm.Cond.code ({ cls := "com/example/rattan/rattan/storage/label/ComponentCodeDecodePinLaw", name := "follow", desc := "(JI)J" } : Jvm.MethodName) method_3_code (3 : Nat) (Option.some Jvm.ClassFile.FieldType.long), Jvm.Cond.code ({ cls := "com/example/rattan/rattan/storage/label/ComponentCode", name := "decode", desc := "([BI)J" } : Jvm.MethodName) prog_41_method_4_code (7 : Nat) (Option.some Jvm.ClassFile.FieldType.long)]
set_option maxRecDepth 65536 in
theorem codes_eq : words1.filter isCode = codes1 := rfl
theorem w_codes : ∀ c ∈ words1.filter isCode, c.before args0 about1 = true := by
  rw [codes_eq]
  intro c hc
  simp only [codes1, List.mem_cons, List.not_mem_nil, or_false] at hc
  rcases hc with rfl | rfl | rfl | rfl
  · exact w_c0
  · exact w_c1
  · exact w_c2
  · exact w_c3
set_option maxRecDepth 65536 in
theorem w_t1 : (words1.take 24).all (fun c => isCode c || c.before args0 about1) = true := by decide +kernel
set_option maxRecDepth 65536 in
theorem w_t2 : (words1.drop 24).all (fun c => isCode c || c.before args0 about1) = true := by decide +kernel
theorem w_tables : (allAtoms (Jvm.Cond.code x code maxLocals ret :: tables_1)).before args0 about1 = true := by
  rw [allAtoms_all]
  show words1.all (fun c => c.before args0 about1) = true
  refine all_split ?_ w_codes
  rw [← List.take_append_drop 24 words1, List.all_append, w_t1, w_t2]
  rfl
set_option maxRecDepth 65536 in
theorem w_case : (Jvm.Cond.and given_1 narrow_1).before args0 about1 = true := by decide +kernel
theorem w_applies : (headSpec (Jvm.Cond.code x code maxLocals ret :: tables_1) room_1).applies x e0.platform about1 = true :=
  (Spec.applies_iff w_frames).mpr ⟨w_running, w_runnable, w_alone, w_named, w_hears, w_ripe, w_room, w_tables⟩
theorem atStart : AtStart classFile x code maxLocals ret World_1 tables_1 room_1 Calls_1 rest_1 Pre_1 launch0 p0 e0 about1 theMethod args0 below0 :=
  ⟨lists_1, trivial, launch0.admits_env _ _ _, launch0.least_env, fairChoices_fair.cas, fairChoices_fair.clock, w_frames, w_args, w_heap, w_applies, trivial, trivial, w_case⟩
end start1
theorem witness_1 : WitnessClaimed_1 := ⟨start1.p0, start1.e0, start1.about1, start1.theMethod, start1.args0, start1.below0, start1.atStart⟩
end Jvm.Pilot.@@N@@
